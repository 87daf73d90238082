/-
  An argument that is a header of the reference: what of it lies in memory. Conditions: those that stand in each theorem.
-/
import Derived.Test.YtdmnflngafbobaaDoorGMem
import Derived.Test.YtdmnflngafbobaaDoorLaid
import Derived.Deep.Slices
import Derived.ChangeArms
namespace Go.Proofs.YtdmnflngafbobaaDoor
open Go.ChangeShapes Go.WideShapes Go.ChangeAt Go.RowKit Go.Deep
set_option linter.unusedVariables false
set_option maxRecDepth 20000

section
variable {H : Type} {enc : TypeId × Value → H} {W : World} {base : Nat} {spare : Nat → Bool} {held : Bool}

/-- A slice of integers, of which its reading is known. -/
theorem trod_ints {P : Program} {t e : TypeId} {k : IntKind} {v : Value} {fuel : Nat} {x : DataW H × List MemPlace} (ht : P.underlying t = some (.slice e)) (he : P.underlying e = some (.int k)) (hc : P.cellsOf e = 1) (h : DataW.trod enc P W base spare held fuel t [v] = some x) :
    ∃ (n : Nat) (zs : List Int), Rd W (fun _ => True) 1 v n (zs.map (Value.int k)) ∧ zs.length = n ∧ ∀ z ∈ zs, (Lit.int k z).wf = true := by
  rcases open_ints ht he hc h with ⟨hcs, _⟩ | ⟨x, l, c, zs, hcs, _, hl, hm, hz, _, hcell, hwz⟩
  · simp at hcs
    subst hcs
    exact ⟨0, [], Rd.nil_ _ _ _, rfl, by simp⟩
  · simp at hcs
    subst hcs
    have hlen : l ≤ zs.length := by rw [hz]; split <;> omega
    refine ⟨l, zs.take l, ⟨by simp; omega, some x, c, rfl, hl, hm, (fun h => by cases h), fun j u hu => ⟨x, rfl, trivial, ?_⟩⟩, by simp; omega, fun z hz' => hwz z (List.mem_of_mem_take hz')⟩
    rw [List.getElem?_map, List.getElem?_take] at hu
    split at hu
    · rename_i hj
      rw [hcell j (by omega)]
      rw [List.getElem?_eq_getElem (by omega)] at hu
      simp at hu
      rw [← hu]
      simp [List.getD, List.getElem?_eq_getElem (show j < zs.length by omega)]
    · cases hu
theorem wf8 {z : Int} (h : (Lit.int .u8 z).wf = true) : 0 ≤ z ∧ z < 256 := by
  have : 0 ≤ z ∧ z ≤ 255 := by simpa [Lit.wf, IntKind.min, IntKind.max, IntKind.signed, IntKind.bits] using h
  omega
theorem wf16 {z : Int} (h : (Lit.int .u16 z).wf = true) : 0 ≤ z ∧ z < 65536 := by
  have : 0 ≤ z ∧ z ≤ 65535 := by simpa [Lit.wf, IntKind.min, IntKind.max, IntKind.signed, IntKind.bits] using h
  omega
theorem wf32 {z : Int} (h : (Lit.int .u32 z).wf = true) : 0 ≤ z ∧ z < 4294967296 := by
  have : 0 ≤ z ∧ z ≤ 4294967295 := by simpa [Lit.wf, IntKind.min, IntKind.max, IntKind.signed, IntKind.bits] using h
  omega

theorem fld1 {P : Program} {T : TypeId} {n off : Nat} {l : List Value} {c : Value} {y : Option (DataW H × List MemPlace)} (h1 : P.cellsOf T = 1) (hc : l[off]? = some c) (h : DataW.trod enc P W base spare held n T ((l.drop off).take (P.cellsOf T)) = y) :
    DataW.trod enc P W base spare held n T [c] = y := by
  rw [h1] at h
  have hl : off < l.length := (List.getElem?_eq_some_iff.1 hc).1
  have e : (l.drop off).take 1 = [c] := by
    rw [List.drop_eq_getElem_cons hl, (List.getElem?_eq_some_iff.1 hc).2]
    rfl
  rwa [e] at h

/-- One extension of the reference, by its two cells. -/
theorem trod_ext {fuel : Nat} {c0 c1 : Value} {x : DataW H × List MemPlace} (h : DataW.trod enc Tryd.prog W base spare held fuel 66 [c0, c1] = some x) :
    ∃ e : Ex, c0 = .int .u8 e.id ∧ Rd W (fun _ => True) 1 c1 e.data.length (B8 e.data) ∧ (0 ≤ e.id ∧ e.id < 256) ∧ IsB e.data := by
  obtain ⟨ys, n, _, _, _, _, hg⟩ := DataW.trod_struct Tryd.underlying66 h
  have hl : ys.length = 2 := by assumption
  have g0 : DataW.trod enc Tryd.prog W base spare held n 5 [c0] = some (ys[0]'(by omega)) := (fld1 (by kernel_rfl) rfl (hg 0 _ rfl)).trans (List.getElem?_eq_getElem _)
  have g1 : DataW.trod enc Tryd.prog W base spare held n 29 [c1] = some (ys[1]'(by omega)) := (fld1 (by kernel_rfl) rfl (hg 1 _ rfl)).trans (List.getElem?_eq_getElem _)
  obtain ⟨z, hz, _, hw⟩ := DataW.trod_int Tryd.underlying5 g0
  obtain ⟨m, zs, hr, hm, hwz⟩ := trod_ints Tryd.underlying29 Tryd.underlying5 (by kernel_rfl) g1
  subst hm
  simp at hz
  exact ⟨⟨z, zs⟩, hz, hr, wf8 hw, isB_of_wf hwz⟩

theorem xcells_at : ∀ (xs : List Ex) (ds : List Value) (j : Nat) (u : Value), (xcells xs ds)[j]? = some u → ∃ (i : Nat) (x : Ex) (d : Value), xs[i]? = some x ∧ ds[i]? = some d ∧ ((j = i * 2 ∧ u = .int .u8 x.id) ∨ (j = i * 2 + 1 ∧ u = d))
  | [], _, j, u, h => by simp [xcells] at h
  | _ :: _, [], j, u, h => by simp [xcells] at h
  | x :: xs, d :: ds, 0, u, h => ⟨0, x, d, rfl, rfl, .inl ⟨rfl, by simp [xcells] at h; exact h.symm⟩⟩
  | x :: xs, d :: ds, 1, u, h => ⟨0, x, d, rfl, rfl, .inr ⟨rfl, by simp [xcells] at h; exact h.symm⟩⟩
  | x :: xs, d :: ds, j + 2, u, h => by
    obtain ⟨i, y, e, h1, h2, h3⟩ := xcells_at xs ds j u (by simpa [xcells] using h)
    refine ⟨i + 1, y, e, by simpa using h1, by simpa using h2, ?_⟩
    rcases h3 with ⟨rfl, h'⟩ | ⟨rfl, h'⟩
    · exact .inl ⟨by omega, h'⟩
    · exact .inr ⟨by omega, h'⟩

/-- A slice of extensions. -/
theorem trod_exts {fuel : Nat} {v : Value} {x : DataW H × List MemPlace} (h : DataW.trod enc Tryd.prog W base spare held fuel 25 [v] = some x) :
    ∃ xs : List Ex, XR W (fun _ => True) v xs ∧ ∀ e ∈ xs, (0 ≤ e.id ∧ e.id < 256) ∧ IsB e.data := by
  rcases open_slice Tryd.underlying25 h with ⟨h0, _⟩ | ⟨a, len, cap, m, n, D, Pl, hcs, hb, hl, hm, hmm, hx, hi⟩
  · simp at h0
    subst h0
    exact ⟨[], ⟨[], ⟨rfl, by simp⟩, Rd.nil_ _ _ _⟩, by simp⟩
  · simp at hcs
    subst hcs
    have hlm : len ≤ m := by rw [hmm]; split <;> omega
    rw [show Tryd.prog.cellsOf 66 = 2 by kernel_rfl] at hi
    have he : ∀ i : Nat, ∃ (e : Ex) (d : Value), i < len → (W.cell? (a.add (i * 2)) = some (.int .u8 e.id) ∧ W.cell? (a.add (i * 2 + 1)) = some d ∧ Rd W (fun _ => True) 1 d e.data.length (B8 e.data) ∧ (0 ≤ e.id ∧ e.id < 256) ∧ IsB e.data) := by
      intro i
      by_cases hil : i < len
      · obtain ⟨cs, hc, ht⟩ := hi i (by omega)
        obtain ⟨_, hcl, hat⟩ := World.cells?_some hc
        obtain ⟨c0, c1, rfl⟩ : ∃ c0 c1, cs = [c0, c1] := by
          match cs, hcl with
          | [c0, c1], _ => exact ⟨c0, c1, rfl⟩
        obtain ⟨e, rfl, hr, h1, h2⟩ := trod_ext ht
        have a0 := hat 0 (by omega)
        have a1 := hat 1 (by omega)
        rw [add_add'] at a0 a1
        exact ⟨e, c1, fun _ => ⟨by simpa using a0, by simpa using a1, hr, h1, h2⟩⟩
      · exact ⟨⟨0, []⟩, .int .u8 0, fun h => absurd h hil⟩
    obtain ⟨E, hE⟩ := Classical.axiomOfChoice he
    obtain ⟨F, hF⟩ := Classical.axiomOfChoice hE
    refine ⟨(List.range len).map E, ⟨(List.range len).map F, ⟨by simp, fun k x d h1 h2 => ?_⟩, ?_⟩, fun e he => ?_⟩
    · simp only [List.getElem?_map] at h1 h2
      by_cases hk : k < len
      · rw [List.getElem?_range hk] at h1 h2
        simp at h1 h2
        subst h1 h2
        exact (hF k hk).2.2.1
      · rw [List.getElem?_eq_none (by simp; omega)] at h1
        cases h1
    · refine ⟨by rw [xcells_len _ _ (by simp)], some a, cap, by simp, by simpa using hl, hm, (fun h => by cases h), fun j u hu => ⟨a, rfl, trivial, ?_⟩⟩
      obtain ⟨i, x, d, h1, h2, h3⟩ := xcells_at _ _ _ _ hu
      simp only [List.getElem?_map] at h1 h2
      by_cases hk : i < len
      · rw [List.getElem?_range hk] at h1 h2
        simp at h1 h2
        subst h1 h2
        rcases h3 with ⟨rfl, rfl⟩ | ⟨rfl, rfl⟩
        · exact (hF i hk).1
        · exact (hF i hk).2.1
      · rw [List.getElem?_eq_none (by simp; omega)] at h1
        cases h1
    · simp at he
      obtain ⟨i, hi', rfl⟩ := he
      exact (hF i hi').2.2.2

theorem take12 {cs : List Value} (h : cs.length = 12) : ∃ c0 c1 c2 c3 c4 c5 c6 c7 c8 c9 c10 c11, cs = [c0, c1, c2, c3, c4, c5, c6, c7, c8, c9, c10, c11] := by
  match cs, h with
  | [c0, c1, c2, c3, c4, c5, c6, c7, c8, c9, c10, c11], _ => exact ⟨c0, c1, c2, c3, c4, c5, c6, c7, c8, c9, c10, c11, rfl⟩

/-- A header of the reference that came in. -/
theorem arg_header {r : Reach} {b0 : Nat} {v : Value} {d : DataW H} {p : List MemPlace} (hv : Value.okWide Tryd.prog W r b0 27 v) (h : DataW.Trod enc Tryd.prog W base spare held 27 v d p) :
    ∃ hd : Hd, HV W (fun _ => True) v hd ∧ hd.Ok := by
  obtain ⟨cs, rfl, hsz⟩ := okWide_struct Tryd.underlying27 hv
  rw [show Tryd.prog.cellsOf 27 = 12 by kernel_rfl] at hsz
  obtain ⟨l⟩ := cs
  obtain ⟨c0, c1, c2, c3, c4, c5, c6, c7, c8, c9, c10, c11, rfl⟩ := take12 hsz
  obtain ⟨fuel, hf⟩ := h
  obtain ⟨ys, n, _, _, _, hlen, hg⟩ := DataW.trod_struct Tryd.underlying27 hf
  have hl : ys.length = 12 := hlen
  have s5 : Tryd.prog.cellsOf 5 = 1 := by kernel_rfl
  have s4 : Tryd.prog.cellsOf 4 = 1 := by kernel_rfl
  have s22 : Tryd.prog.cellsOf 22 = 1 := by kernel_rfl
  have s23 : Tryd.prog.cellsOf 23 = 1 := by kernel_rfl
  have s24 : Tryd.prog.cellsOf 24 = 1 := by kernel_rfl
  have s25 : Tryd.prog.cellsOf 25 = 1 := by kernel_rfl
  have g0 : DataW.trod enc Tryd.prog W base spare held n 5 [c0] = some (ys[0]'(by omega)) := (fld1 s5 rfl (hg 0 _ rfl)).trans (List.getElem?_eq_getElem _)
  have g1 : DataW.trod enc Tryd.prog W base spare held n 4 [c1] = some (ys[1]'(by omega)) := (fld1 s4 rfl (hg 1 _ rfl)).trans (List.getElem?_eq_getElem _)
  have g2 : DataW.trod enc Tryd.prog W base spare held n 4 [c2] = some (ys[2]'(by omega)) := (fld1 s4 rfl (hg 2 _ rfl)).trans (List.getElem?_eq_getElem _)
  have g3 : DataW.trod enc Tryd.prog W base spare held n 4 [c3] = some (ys[3]'(by omega)) := (fld1 s4 rfl (hg 3 _ rfl)).trans (List.getElem?_eq_getElem _)
  have g4 : DataW.trod enc Tryd.prog W base spare held n 5 [c4] = some (ys[4]'(by omega)) := (fld1 s5 rfl (hg 4 _ rfl)).trans (List.getElem?_eq_getElem _)
  have g5 : DataW.trod enc Tryd.prog W base spare held n 22 [c5] = some (ys[5]'(by omega)) := (fld1 s22 rfl (hg 5 _ rfl)).trans (List.getElem?_eq_getElem _)
  have g6 : DataW.trod enc Tryd.prog W base spare held n 23 [c6] = some (ys[6]'(by omega)) := (fld1 s23 rfl (hg 6 _ rfl)).trans (List.getElem?_eq_getElem _)
  have g7 : DataW.trod enc Tryd.prog W base spare held n 23 [c7] = some (ys[7]'(by omega)) := (fld1 s23 rfl (hg 7 _ rfl)).trans (List.getElem?_eq_getElem _)
  have g8 : DataW.trod enc Tryd.prog W base spare held n 24 [c8] = some (ys[8]'(by omega)) := (fld1 s24 rfl (hg 8 _ rfl)).trans (List.getElem?_eq_getElem _)
  have g9 : DataW.trod enc Tryd.prog W base spare held n 22 [c9] = some (ys[9]'(by omega)) := (fld1 s22 rfl (hg 9 _ rfl)).trans (List.getElem?_eq_getElem _)
  have g10 : DataW.trod enc Tryd.prog W base spare held n 25 [c10] = some (ys[10]'(by omega)) := (fld1 s25 rfl (hg 10 _ rfl)).trans (List.getElem?_eq_getElem _)
  have g11 : DataW.trod enc Tryd.prog W base spare held n 5 [c11] = some (ys[11]'(by omega)) := (fld1 s5 rfl (hg 11 _ rfl)).trans (List.getElem?_eq_getElem _)
  obtain ⟨z0, e0, _, w0⟩ := DataW.trod_int Tryd.underlying5 g0
  obtain ⟨z1, e1, _⟩ := DataW.trod_bool Tryd.underlying4 g1
  obtain ⟨z2, e2, _⟩ := DataW.trod_bool Tryd.underlying4 g2
  obtain ⟨z3, e3, _⟩ := DataW.trod_bool Tryd.underlying4 g3
  obtain ⟨z4, e4, _, w4⟩ := DataW.trod_int Tryd.underlying5 g4
  obtain ⟨z5, e5, _, w5⟩ := DataW.trod_int Tryd.underlying22 g5
  obtain ⟨z6, e6, _, w6⟩ := DataW.trod_int Tryd.underlying23 g6
  obtain ⟨z7, e7, _, w7⟩ := DataW.trod_int Tryd.underlying23 g7
  obtain ⟨m, zs, hr, hm, hwz⟩ := trod_ints Tryd.underlying24 Tryd.underlying23 (by kernel_rfl) g8
  obtain ⟨z9, e9, _, w9⟩ := DataW.trod_int Tryd.underlying22 g9
  obtain ⟨xs, hx, hok⟩ := trod_exts g10
  obtain ⟨z11, e11, _, w11⟩ := DataW.trod_int Tryd.underlying5 g11
  subst hm
  simp only [List.cons.injEq, and_true] at e0 e1 e2 e3 e4 e5 e6 e7 e9 e11
  subst e0 e1 e2 e3 e4 e5 e6 e7 e9 e11
  exact ⟨⟨z0, z1, z2, z3, z4, z5, z6, z7, zs, z9, xs, z11⟩, ⟨_, _, rfl, hr, hx⟩, ⟨wf8 w0, wf8 w4, wf16 w5, wf32 w6, wf32 w7, fun x hx => wf32 (hwz x hx), wf16 w9, hok, wf8 w11⟩⟩
end
end Go.Proofs.YtdmnflngafbobaaDoor
