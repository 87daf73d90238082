/-
  What a row's list of variables gives to a walk, and how a slice of integers that came in reads. Conditions: those that stand in each theorem.
-/
import Derived.Test.YtdlnmkpojiofoaaDoorGMem
import Derived.ProofKit
import Derived.OpenShut
import Derived.ShutString
import Derived.ChangeOld
import Derived.LaidLaws
import Derived.Deep.DeepHandedRow
import Derived.Deep.DeepWitnessRowRef
namespace Go.Proofs.YtdlnmkpojiofoaaDoor
open Go.ChangeShapes Go.WideShapes Go.ChangeAt Go.RowKit
set_option linter.unusedVariables false

theorem own_knob : ownKnob Tryd.prog.godebug = none := by kernel_rfl
theorem laid_out : laidOutB Tryd.prog = true := by kernel_rfl

theorem laidVars_at {P : Program} {w : World} {name nm : String} {d : DataW Unit} {g : Nat} {t : TypeId} {i : Array (String × TypeId)} (hg : P.globalNamed name = some g) (ht : (P.globals[g]?).map (·.type) = some t) (hu : P.underlying t = some (.interface i)) :
    ∀ (l : List (String × DataW Unit)) (ps : List MemPlace), DataW.LaidVars P w l ps → (name, DataW.iface nm d) ∈ l → ∃ te ve, w.cell? ⟨g, 0, none⟩ = some (.iface te ve)
  | [], _, _, h => by cases h
  | (n, d') :: r, ps, hl, h => by
    obtain ⟨g', t', cs, fuel, p, q, h1, h2, h3, h4, h5, _⟩ := hl
    rcases List.mem_cons.1 h with h | h
    · injection h with e1 e2
      subst e1
      subst e2
      obtain rfl : g = g' := Option.some.inj (hg.symm.trans h1)
      obtain rfl : t = t' := Option.some.inj (ht.symm.trans h2)
      have hc := World.var?_cell h1 h3 0
      obtain ⟨l⟩ := cs
      cases fuel with
      | zero => simp [DataW.trod] at h4
      | succ fuel =>
        match l, hc, h4 with
        | [.iface te ve], hc, _ => exact ⟨te, ve, by simpa using hc⟩
        | [.nilIface], _, h4 => simp [DataW.trod, hu] at h4
        | [], _, h4 => simp [DataW.trod, hu] at h4
        | _ :: _ :: _, _, h4 => simp [DataW.trod, hu] at h4
        | [.bool _], _, h4 => simp [DataW.trod, hu] at h4
        | [.int _ _], _, h4 => simp [DataW.trod, hu] at h4
        | [.float _ _], _, h4 => simp [DataW.trod, hu] at h4
        | [.complex _ _ _], _, h4 => simp [DataW.trod, hu] at h4
        | [.string _], _, h4 => simp [DataW.trod, hu] at h4
        | [.pointer _], _, h4 => simp [DataW.trod, hu] at h4
        | [.slice _ _ _], _, h4 => simp [DataW.trod, hu] at h4
        | [.map _], _, h4 => simp [DataW.trod, hu] at h4
        | [.chan _], _, h4 => simp [DataW.trod, hu] at h4
        | [.func _ _ _], _, h4 => simp [DataW.trod, hu] at h4
        | [.nilFunc], _, h4 => simp [DataW.trod, hu] at h4
        | [.agg _], _, h4 => simp [DataW.trod, hu] at h4
        | [.tuple _], _, h4 => simp [DataW.trod, hu] at h4
    · exact laidVars_at hg ht hu r q h5 h

/-- A listed error is not nil. -/
theorem laid_at {P : Program} {w : World} {l : List (String × DataW Unit)} {name nm : String} {d : DataW Unit} {g : Nat} {t : TypeId} {i : Array (String × TypeId)} (h : laidMetH P l w) (hh : (l.filter fun x => x.2.handleName?.isSome) = []) (hm : (name, DataW.iface nm d) ∈ l)
    (hg : P.globalNamed name = some g) (ht : (P.globals[g]?).map (·.type) = some t) (hu : P.underlying t = some (.interface i)) : ∃ te ve, w.cell? ⟨g, 0, none⟩ = some (.iface te ve) := by
  unfold laidMetH at h
  rw [hh] at h
  obtain ⟨ps, hl, _⟩ := h
  exact laidVars_at hg ht hu l ps hl hm

/-- A slice of integers that came in. -/
theorem arg_ints {H : Type} {enc : TypeId × Value → H} {P : Program} {W : World} {r : Reach} {b0 base : Nat} {spare : Nat → Bool} {held : Bool} {t e : TypeId} {k : IntKind} {v : Value} {d : DataW H} {p : List MemPlace}
    (ht : P.underlying t = some (.slice e)) (he : P.underlying e = some (.int k)) (hc : P.cellsOf e = 1) (hv : Value.okWide P W r b0 t v) (h : DataW.Trod enc P W base spare held t v d p) :
    ∃ (n : Nat) (zs : List Int), Rd W (fun _ => True) 1 v n (zs.map (Value.int k)) ∧ zs.length = n ∧ ∀ z ∈ zs, (Lit.int k z).wf = true := by
  obtain ⟨a, len, cap, rfl⟩ := okWide_slice ht hv
  obtain ⟨fuel, hf⟩ := h
  rcases open_ints ht he hc hf with ⟨hcs, _⟩ | ⟨x, l, c, zs, hcs, _, hl, hm, hz, _, hcell, hwz⟩
  · simp [Value.cells] at hcs
    obtain ⟨rfl, rfl, rfl⟩ := hcs
    exact ⟨0, [], Rd.nil_ _ _ _, rfl, by simp⟩
  · simp [Value.cells] at hcs
    obtain ⟨rfl, rfl, rfl⟩ := hcs
    have hlen : len ≤ zs.length := by rw [hz]; split <;> omega
    refine ⟨len, zs.take len, ⟨by simp; omega, some x, cap, rfl, hl, hm, (fun h => by cases h), fun j u hu => ⟨x, rfl, trivial, ?_⟩⟩, by simp; omega, fun z hz' => hwz z (List.mem_of_mem_take hz')⟩
    rw [List.getElem?_map, List.getElem?_take] at hu
    split at hu
    · rename_i hj
      rw [hcell j (by omega)]
      rw [List.getElem?_eq_getElem (by omega)] at hu
      simp at hu
      rw [← hu]
      simp [List.getD, List.getElem?_eq_getElem (show j < zs.length by omega)]
    · cases hu
theorem isB_of_wf {zs : List Int} (h : ∀ z ∈ zs, (Lit.int .u8 z).wf = true) : IsB zs := by
  intro z hz
  have : 0 ≤ z ∧ z ≤ 255 := by simpa [Lit.wf, IntKind.min, IntKind.max, IntKind.signed, IntKind.bits] using h z hz
  omega
end Go.Proofs.YtdlnmkpojiofoaaDoor
