/-
  An argument that is a slice of steps of the reference. Conditions: those that stand in each theorem.
-/
import Derived.Test.YtdmnflngafbobaaDoorGPr
import Derived.Test.YtdmnflngafbobaaDoorGSt
namespace Go.Proofs.YtdmnflngafbobaaDoor
open Go.ChangeShapes Go.WideShapes Go.ChangeAt Go.RowKit Go.Deep
set_option linter.unusedVariables false
set_option maxRecDepth 20000

theorem stc_len : ∀ (ss : List St) (ds : List Value), ds.length = ss.length → (stc ss ds).length = ss.length * 4
  | [], ds, _ => by simp [stc]
  | s :: ss, [], h => by simp at h
  | s :: ss, d :: ds, h => by
    have := stc_len ss ds (by simpa using h)
    simp [stc, this]; omega
theorem stc_at : ∀ (ss : List St) (ds : List Value) (j : Nat) (u : Value), (stc ss ds)[j]? = some u → ∃ (i : Nat) (s : St) (d : Value), ss[i]? = some s ∧ ds[i]? = some d ∧ ((j = i * 4 ∧ u = .int .i64 s.what) ∨ (j = i * 4 + 1 ∧ u = .int .u8 s.id) ∨ (j = i * 4 + 2 ∧ u = d) ∨ (j = i * 4 + 3 ∧ u = .int .u16 s.prof))
  | [], _, j, u, h => by simp [stc] at h
  | _ :: _, [], j, u, h => by simp [stc] at h
  | s :: ss, d :: ds, 0, u, h => ⟨0, s, d, rfl, rfl, .inl ⟨rfl, by simp [stc] at h; exact h.symm⟩⟩
  | s :: ss, d :: ds, 1, u, h => ⟨0, s, d, rfl, rfl, .inr (.inl ⟨rfl, by simp [stc] at h; exact h.symm⟩)⟩
  | s :: ss, d :: ds, 2, u, h => ⟨0, s, d, rfl, rfl, .inr (.inr (.inl ⟨rfl, by simp [stc] at h; exact h.symm⟩))⟩
  | s :: ss, d :: ds, 3, u, h => ⟨0, s, d, rfl, rfl, .inr (.inr (.inr ⟨rfl, by simp [stc] at h; exact h.symm⟩))⟩
  | s :: ss, d :: ds, j + 4, u, h => by
    obtain ⟨i, y, e, h1, h2, h3⟩ := stc_at ss ds j u (by simpa [stc] using h)
    refine ⟨i + 1, y, e, by simpa using h1, by simpa using h2, ?_⟩
    rcases h3 with ⟨rfl, h'⟩ | ⟨rfl, h'⟩ | ⟨rfl, h'⟩ | ⟨rfl, h'⟩
    · exact .inl ⟨by omega, h'⟩
    · exact .inr (.inl ⟨by omega, h'⟩)
    · exact .inr (.inr (.inl ⟨by omega, h'⟩))
    · exact .inr (.inr (.inr ⟨by omega, h'⟩))

section
variable {H : Type} {enc : TypeId × Value → H} {W : World} {base : Nat} {spare : Nat → Bool} {held : Bool}
/-- What a step's plain parts are. -/
def StOk (s : St) : Prop := IsB s.data ∧ (0 ≤ s.id ∧ s.id < 256) ∧ (0 ≤ s.prof ∧ s.prof < 65536)
/-- One step, by its four cells. -/
theorem trod_step {fuel : Nat} {c0 c1 c2 c3 : Value} {x : DataW H × List MemPlace} (h : DataW.trod enc Tryd.prog W base spare held fuel 73 [c0, c1, c2, c3] = some x) :
    ∃ s : St, c0 = .int .i64 s.what ∧ c1 = .int .u8 s.id ∧ Rd W (fun _ => True) 1 c2 s.data.length (B8 s.data) ∧ c3 = .int .u16 s.prof ∧ StOk s := by
  obtain ⟨ys, n, _, _, _, hlen, hg⟩ := DataW.trod_struct Tryd.underlying73 h
  have hl : ys.length = 4 := hlen
  have s3 : Tryd.prog.cellsOf 3 = 1 := by kernel_rfl
  have s5 : Tryd.prog.cellsOf 5 = 1 := by kernel_rfl
  have s29 : Tryd.prog.cellsOf 29 = 1 := by kernel_rfl
  have s22 : Tryd.prog.cellsOf 22 = 1 := by kernel_rfl
  have g0 : DataW.trod enc Tryd.prog W base spare held n 3 [c0] = some (ys[0]'(by omega)) := (fld1 s3 rfl (hg 0 _ rfl)).trans (List.getElem?_eq_getElem _)
  have g1 : DataW.trod enc Tryd.prog W base spare held n 5 [c1] = some (ys[1]'(by omega)) := (fld1 s5 rfl (hg 1 _ rfl)).trans (List.getElem?_eq_getElem _)
  have g2 : DataW.trod enc Tryd.prog W base spare held n 29 [c2] = some (ys[2]'(by omega)) := (fld1 s29 rfl (hg 2 _ rfl)).trans (List.getElem?_eq_getElem _)
  have g3 : DataW.trod enc Tryd.prog W base spare held n 22 [c3] = some (ys[3]'(by omega)) := (fld1 s22 rfl (hg 3 _ rfl)).trans (List.getElem?_eq_getElem _)
  obtain ⟨z0, e0, _, w0⟩ := DataW.trod_int Tryd.underlying3 g0
  obtain ⟨z1, e1, _, w1⟩ := DataW.trod_int Tryd.underlying5 g1
  obtain ⟨m, zs, hr, hm, hwz⟩ := trod_ints Tryd.underlying29 Tryd.underlying5 (by kernel_rfl) g2
  obtain ⟨z3, e3, _, w3⟩ := DataW.trod_int Tryd.underlying22 g3
  simp only [List.cons.injEq, and_true] at e0 e1 e3
  subst hm
  exact ⟨⟨z0, z1, zs, z3⟩, e0, e1, hr, e3, fun x hx => wf8 (hwz x hx), wf8 w1, wf16 w3⟩

/-- A slice of steps that came in. -/
theorem arg_steps {r : Reach} {b0 : Nat} {v : Value} {d : DataW H} {p : List MemPlace} (hv : Value.okWide Tryd.prog W r b0 68 v) (h : DataW.Trod enc Tryd.prog W base spare held 68 v d p) :
    ∃ ss : List St, SR W (fun _ => True) v ss ∧ ∀ s ∈ ss, StOk s := by
  obtain ⟨a, len, cap, rfl⟩ := okWide_slice Tryd.underlying68 hv
  obtain ⟨fuel, hf⟩ := h
  rcases open_slice Tryd.underlying68 hf with ⟨h0, _⟩ | ⟨a, len, cap, m, n, D, Pl, hcs, hb, hl, hm, hmm, hx, hi⟩
  · simp [Value.cells] at h0
    obtain ⟨rfl, rfl, rfl⟩ := h0
    exact ⟨[], ⟨[], rfl, by simp, Rd.nil_ _ _ _⟩, by simp⟩
  · simp [Value.cells] at hcs
    obtain ⟨rfl, rfl, rfl⟩ := hcs
    have hlm : len ≤ m := by rw [hmm]; split <;> omega
    rw [show Tryd.prog.cellsOf 73 = 4 by kernel_rfl] at hi
    have he : ∀ i : Nat, ∃ (s : St) (d : Value), i < len → (W.cell? (a.add (i * 4)) = some (.int .i64 s.what) ∧ W.cell? (a.add (i * 4 + 1)) = some (.int .u8 s.id) ∧ W.cell? (a.add (i * 4 + 2)) = some d ∧ W.cell? (a.add (i * 4 + 3)) = some (.int .u16 s.prof) ∧ Rd W (fun _ => True) 1 d s.data.length (B8 s.data) ∧ StOk s) := by
      intro i
      by_cases hil : i < len
      · obtain ⟨cs, hc, ht⟩ := hi i (by omega)
        obtain ⟨_, hcl, hat⟩ := World.cells?_some hc
        obtain ⟨c0, c1, c2, c3, rfl⟩ := take4 hcl
        obtain ⟨s, rfl, rfl, hr, rfl, h1⟩ := trod_step ht
        have a0 := hat 0 (by omega)
        have a1 := hat 1 (by omega)
        have a2 := hat 2 (by omega)
        have a3 := hat 3 (by omega)
        rw [add_add'] at a0 a1 a2 a3
        exact ⟨s, c2, fun _ => ⟨by simpa using a0, by simpa using a1, by simpa using a2, by simpa using a3, hr, h1⟩⟩
      · exact ⟨⟨0, 0, [], 0⟩, .int .u8 0, fun h => absurd h hil⟩
    obtain ⟨E, hE⟩ := Classical.axiomOfChoice he
    obtain ⟨F, hF⟩ := Classical.axiomOfChoice hE
    refine ⟨(List.range len).map E, ⟨(List.range len).map F, by simp, fun k x d h1 h2 => ?_, ?_⟩, fun e he => ?_⟩
    · simp only [List.getElem?_map] at h1 h2
      by_cases hk : k < len
      · rw [List.getElem?_range hk] at h1 h2
        simp at h1 h2
        subst h1 h2
        exact (hF k hk).2.2.2.2.1
      · rw [List.getElem?_eq_none (by simp; omega)] at h1
        cases h1
    · refine ⟨by rw [stc_len _ _ (by simp)], some a, cap, by simp, by simpa using hl, hm, (fun h => by cases h), fun j u hu => ⟨a, rfl, trivial, ?_⟩⟩
      obtain ⟨i, x, d, h1, h2, h3⟩ := stc_at _ _ _ _ hu
      simp only [List.getElem?_map] at h1 h2
      by_cases hk : i < len
      · rw [List.getElem?_range hk] at h1 h2
        simp at h1 h2
        subst h1 h2
        have g := hF i hk
        rcases h3 with ⟨rfl, rfl⟩ | ⟨rfl, rfl⟩ | ⟨rfl, rfl⟩ | ⟨rfl, rfl⟩
        · exact g.1
        · exact g.2.1
        · exact g.2.2.1
        · exact g.2.2.2.1
      · rw [List.getElem?_eq_none (by simp; omega)] at h1
        cases h1
    · simp at he
      obtain ⟨i, hi', rfl⟩ := he
      exact (hF i hi').2.2.2.2.2
end

set_option maxHeartbeats 1600000 in
theorem fits4 {p : Nat → Prop} {v : Value} {xs : List St} (w : World) (h : SR w p v xs) :
    Calls Tryd.prog 39 #[v] w fun e w' => ∃ b, e = .returned (.bool b) ∧ Keep w w' Nul ∧ (b = true → xs.length ≤ 2147483647 ∧ ∀ x ∈ xs, x.data.length ≤ 2147483647) := by
  obtain ⟨A, c, rfl⟩ := h.shape
  by_cases h1 : (2147483647 : Int) < xs.length
  · clear h
    go_enter Tryd.func39, Tryd.ntmps39
    go_wp2_with fail
    go_ret
    exact ⟨_, rfl, Keep.refl _ _, fun e => by cases e⟩
  · have H := hide h
    clear h
    go_enter Tryd.func39, Tryd.ntmps39
    go_wp2_with fail
    go_loopw [10] (fun i wr => ∃ k : Nat, k ≤ xs.length ∧ i = .int .i64 k ∧ Keep w wr Nul ∧ ∀ x ∈ xs.take k, x.data.length ≤ 2147483647) (fun i _ => xs.length - (intOf i).toNat)
    case atStart => exact ⟨0, Nat.zero_le _, rfl, Keep.refl _ _, by simp⟩
    case round =>
      obtain ⟨k, hk, rfl, hK, hx⟩ := hrel
      by_cases hlt : k < xs.length
      · have hg : xs[k]? = some xs[k] := List.getElem?_eq_getElem _
        obtain ⟨b, o, c', d, hv, hbl, p0, p1, p2, p3, rdv⟩ := (H.out.keep hK (fun _ _ _ e => e)).at_ hg
        injection hv with e1 _ e3
        subst e1 e3
        have HX := hide hx
        have HG := hide hg
        clear hx hg
        generalize xs[k] = x at *
        obtain ⟨A', c2, rfl⟩ := rdv.shape
        clear rdv
        have HK := hide hK
        have hZ := hide (fun w => zz5_walk (what := x.what) (id := x.id) (pr := x.prof) (A := A') (n := x.data.length) (c := c2) w)
        clear hK
        go_wp2_with fail
        refine Calls.mono (show Calls _ _ #[.agg (scells x.what x.id A' x.data.length c2 x.prof)] _ _ from hZ.out _) ?_
        rintro e w1 ⟨rfl, k1⟩
        have HK1 := hide ((HK.out.alloc _).trans0 k1)
        clear k1 hZ
        by_cases hb : x.data.length ≤ 2147483647
        · have hd : decide (x.data.length ≤ 2147483647) = true := by simpa using hb
          go_wp2_with fail
          go_roundw
          case rel =>
            refine ⟨k + 1, by omega, by go_num, HK1.out, fun y hy => ?_⟩
            rw [List.take_add_one, HG.out] at hy
            rcases List.mem_append.1 hy with hy | hy
            · exact HX.out y hy
            · obtain rfl : y = x := by simpa using hy
              exact hb
          case measure => simp [intOf]; omega
        · have hd : decide (x.data.length ≤ 2147483647) = false := by simpa using hb
          go_wp2_with fail
          go_ret
          exact ⟨_, rfl, HK1.out, fun e => by cases e⟩
      · have hkn : k = xs.length := by omega
        have HX := hide hx
        have HK := hide hK
        clear hx hK
        go_wp2_with fail
        go_ret
        exact ⟨_, rfl, HK.out, fun _ => ⟨by omega, fun x hx => HX.out x (by rw [hkn, List.take_length]; exact hx)⟩⟩
end Go.Proofs.YtdmnflngafbobaaDoor
