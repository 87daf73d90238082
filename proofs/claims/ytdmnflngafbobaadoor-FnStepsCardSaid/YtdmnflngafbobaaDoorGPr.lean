/-
  The argument of a step; zzFits5; spec.Once. Conditions: those that stand in each theorem.
-/
import Derived.Test.YtdmnflngafbobaaDoorArg
import Derived.Test.YtdmnflngafbobaaDoorGSt
import Derived.Test.YtdmnflngafbobaaDoorGGet
namespace Go.Proofs.YtdmnflngafbobaaDoor
open Go.RowKit
set_option linter.unusedVariables false
set_option linter.unusedSimpArgs false
set_option maxRecDepth 100000

/-- No number stands twice. -/
def OnceP (xs : List Ex) : Prop := ∀ (k : Nat) (x : Ex), xs[k]? = some x → fi xs x.id = some k

theorem zz5_walk {what id pr : Int} {A : Option Addr} {n c : Nat} (w : World) :
    Calls Tryd.prog 43 #[.agg (scells what id A n c pr)] w fun e w' => e = .returned (.bool (decide (n ≤ 2147483647))) ∧ Keep w w' Nul := by
  unfold scells
  by_cases h : (2147483647 : Int) < (n : Int)
  · go_enter Tryd.func43, Tryd.ntmps43
    go_wp2_with fail
    (try go_ret)
    have hd : decide (n ≤ 2147483647) = false := decide_eq_false (by omega)
    rw [hd]
    exact ⟨rfl, (Keep.refl w _).alloc _⟩
  · go_enter Tryd.func43, Tryd.ntmps43
    go_wp2_with fail
    (try go_ret)
    have hd : decide (n ≤ 2147483647) = true := decide_eq_true (by omega)
    rw [hd]
    exact ⟨rfl, (Keep.refl w _).alloc _⟩

set_option maxHeartbeats 1600000 in
theorem once_walk {p : Nat → Prop} {v : Value} {hd : Hd} (w : World) (hh : HV w p v hd) (hn : hd.exts.length ≤ 2147483647) :
    Calls Tryd.prog 40 #[v] w fun e w' => Keep w w' Nul ∧ ((e = .returned (.bool true) ∧ OnceP hd.exts) ∨ e = .returned (.bool false)) := by
  obtain ⟨sv, xv, rfl, h1, h2⟩ := hh.mono (q := (· < w.heap.size)) (fun k hk _ => hk)
  obtain ⟨A1, c1, rfl⟩ := h1.shape
  obtain ⟨A2, c2, rfl⟩ := h2.shape
  have HVA := hide (show HV w (· < w.heap.size) (.agg (hcells hd (.slice A1 hd.srcs.length c1) (.slice A2 hd.exts.length c2))) hd from ⟨_, _, rfl, h1, h2⟩)
  have H2 := hide h2
  clear h1 h2 hh
  unfold hcells
  go_enter Tryd.func40, Tryd.ntmps40
  go_upto_region 1 with fail
  generalize hwa : World.alloc w _ = wa
  have BX := hide (show Blk wa w.heap.size 27 (hcells hd (.slice A1 hd.srcs.length c1) (.slice A2 hd.exts.length c2)) by subst hwa; exact Blk.new w _ _)
  have KA := hide (show Keep w wa Nul by subst hwa; exact (Keep.refl w Nul).alloc _)
  generalize hv0 : Value.agg _ = v0
  clear hwa hv0
  have x10 := BX.out.cell 10 (v := .slice A2 hd.exts.length c2) rfl
  go_wp2_with fail
  go_loopw [8] (fun s8 wr => ∃ k : Nat, k ≤ hd.exts.length ∧ s8 = .int .i64 (k : Int) ∧ (∀ (j : Nat) (x : Ex), j < k → hd.exts[j]? = some x → fi hd.exts x.id = some j) ∧ Keep wa wr Nul) (fun s8 _ => hd.exts.length - (intOf s8).toNat)
  case atStart => exact ⟨0, Nat.zero_le _, rfl, fun j x hj => absurd hj (by omega), Keep.refl _ _⟩
  case round =>
    obtain ⟨k, hk, rfl, hall, hK⟩ := hrel
    have HALL := hide hall
    have KK := hide hK
    have BR := hide (BX.out.keep hK (fun e => e))
    have HXr := hide ((H2.out.keep0 KA.out).keep0 hK)
    have HVr := hide ((HVA.out.keep0 KA.out).keep0 hK)
    clear hall hK
    by_cases hlt : k < hd.exts.length
    · have hxk : hd.exts[k]? = some hd.exts[k] := List.getElem?_eq_getElem _
      obtain ⟨b, o, c', dv, hv, q1, q2, q3, q4, p5, p6, q7⟩ := HXr.out.at_ hxk
      injection hv with e1 _ e3
      subst e1 e3
      have HXK := hide hxk
      clear hxk
      generalize hd.exts[k] = x at *
      obtain ⟨Ad, cd, rfl⟩ := q7.shape
      clear q7
      obtain ⟨x0, x1, x2, x3, x4, x5, x6, x7, x8, x9, x10', x11⟩ := hc12 BR.out
      have lgr := BR.out.lt
      go_upto_region 4 with fail
      generalize hw3 : World.alloc wr _ = w3
      obtain ⟨g4, hg4⟩ : ∃ g4, g4 = wr.heap.size := ⟨_, rfl⟩
      rw [← hg4]
      have B4 := hide (show Blk w3 g4 66 #[.int .u8 x.id, .slice Ad x.data.length cd] by subst hw3 hg4; exact Blk.new wr _ _)
      have K3 := hide (show Keep wr w3 Nul by subst hw3; exact (Keep.refl wr Nul).alloc _)
      have HF := hide (find_walk (id := x.id) w3 (HVr.out.keep0 K3.out) hn)
      have e0 := B4.out.cell 0 (v := .int .u8 x.id) rfl
      clear x0 x1 x2 x3 x4 x5 x6 x7 x8 x9 x10' x11 hw3 hg4
      obtain ⟨x0, x1, x2, x3, x4, x5, x6, x7, x8, x9, x10', x11⟩ := hc12 (BR.out.keep K3.out (fun e => e))
      generalize hfi : fiI (fi hd.exts x.id) = z at *
      have HFI := hide hfi
      clear hfi
      go_wp2_with fail
      refine Calls.mono (show Calls _ _ #[.agg (hcells hd (.slice A1 hd.srcs.length c1) (.slice (some ⟨b, o, none⟩) hd.exts.length c2)), .int .u8 x.id] _ _ from HF.out) ?_
      rintro e w5 ⟨rfl, k5⟩
      have K5 := hide ((KK.out.trans0 K3.out).trans0 k5)
      clear k5 HF x0 x1 x2 x3 x4 x5 x6 x7 x8 x9 x10' x11 e0
      by_cases hz : z = (k : Int)
      · have s1 : (z != (k : Int)) = false := by simp [hz]
        have HZ := hide hz
        clear hz
        go_wp2_with fail
        go_roundw
        case rel =>
          refine ⟨k + 1, by omega, by go_num, fun j y hj hy => ?_, K5.out⟩
          by_cases hjk : j < k
          · exact HALL.out j y hjk hy
          · obtain rfl : j = k := by omega
            have hxy := HXK.out
            rw [hxy] at hy
            injection hy with hy
            subst hy
            have hf := HFI.out
            rw [HZ.out] at hf
            cases hq : fi hd.exts x.id with
            | none => rw [hq] at hf; simp only [fiI] at hf; omega
            | some i => rw [hq] at hf; simp only [fiI] at hf; congr 1; omega
        case measure => simp [intOf]; omega
      · have s1 : (z != (k : Int)) = true := by simpa using hz
        clear hz
        go_wp2_with fail
        (try go_ret)
        exact ⟨KA.out.trans0 K5.out, .inr rfl⟩
    · obtain rfl : k = hd.exts.length := by omega
      go_wp2_with fail
      (try go_ret)
      exact ⟨KA.out.trans0 KK.out, .inl ⟨rfl, fun k x hx => HALL.out k x (List.getElem?_eq_some_iff.1 hx).1 hx⟩⟩

section
variable {H : Type} {enc : TypeId × Value → H} {W : World} {base : Nat} {spare held : Bool}
theorem take4 {cs : List Value} (h : cs.length = 4) : ∃ c0 c1 c2 c3, cs = [c0, c1, c2, c3] := by
  match cs, h with
  | [c0, c1, c2, c3], _ => exact ⟨c0, c1, c2, c3, rfl⟩
end
end Go.Proofs.YtdmnflngafbobaaDoor
namespace Go.Proofs.YtdmnflngafbobaaDoor
open Go.ChangeShapes Go.WideShapes Go.ChangeAt Go.RowKit Go.Deep
set_option linter.unusedVariables false
set_option maxRecDepth 20000

section
variable {H : Type} {enc : TypeId × Value → H} {W : World} {base : Nat} {spare : Nat → Bool} {held : Bool}
/-- A step of the reference that came in. -/
def StV (W : World) (v : Value) (s : St) : Prop :=
  (∃ A n c, v = .agg (scells s.what s.id A n c s.prof) ∧ Rd W (fun _ => True) 1 (.slice A n c) n (B8 s.data)) ∧ IsB s.data ∧ (0 ≤ s.id ∧ s.id < 256) ∧ (0 ≤ s.prof ∧ s.prof < 65536)
theorem arg_step {r : Reach} {b0 : Nat} {v : Value} {d : DataW H} {p : List MemPlace} (hv : Value.okWide Tryd.prog W r b0 73 v) (h : DataW.Trod enc Tryd.prog W base spare held 73 v d p) :
    ∃ s : St, StV W v s := by
  obtain ⟨cs, rfl, hsz⟩ := okWide_struct Tryd.underlying73 hv
  rw [show Tryd.prog.cellsOf 73 = 4 by kernel_rfl] at hsz
  obtain ⟨l⟩ := cs
  obtain ⟨c0, c1, c2, c3, rfl⟩ := take4 hsz
  obtain ⟨fuel, hf⟩ := h
  obtain ⟨ys, n, _, _, _, hlen, hg⟩ := DataW.trod_struct Tryd.underlying73 hf
  have hl : ys.length = 4 := hlen
  have s3 : Tryd.prog.cellsOf 3 = 1 := by kernel_rfl
  have s5 : Tryd.prog.cellsOf 5 = 1 := by kernel_rfl
  have s29 : Tryd.prog.cellsOf 29 = 1 := by kernel_rfl
  have s22 : Tryd.prog.cellsOf 22 = 1 := by kernel_rfl
  have g0 : DataW.trod enc Tryd.prog W base spare held n 3 [c0] = some (ys[0]'(by omega)) := (fld1 s3 rfl (hg 0 _ rfl)).trans (List.getElem?_eq_getElem _)
  have g1 : DataW.trod enc Tryd.prog W base spare held n 5 [c1] = some (ys[1]'(by omega)) := (fld1 s5 rfl (hg 1 _ rfl)).trans (List.getElem?_eq_getElem _)
  have g2 : DataW.trod enc Tryd.prog W base spare held n 29 [c2] = some (ys[2]'(by omega)) := (fld1 s29 rfl (hg 2 _ rfl)).trans (List.getElem?_eq_getElem _)
  have g3 : DataW.trod enc Tryd.prog W base spare held n 22 [c3] = some (ys[3]'(by omega)) := (fld1 s22 rfl (hg 3 _ rfl)).trans (List.getElem?_eq_getElem _)
  obtain ⟨z0, e0, _, w0⟩ := DataW.trod_int Tryd.underlying3 g0
  obtain ⟨z1, e1, _, w1⟩ := DataW.trod_int Tryd.underlying5 g1
  obtain ⟨m, zs, hr, hm, hwz⟩ := trod_ints Tryd.underlying29 Tryd.underlying5 (by kernel_rfl) g2
  obtain ⟨z3, e3, _, w3⟩ := DataW.trod_int Tryd.underlying22 g3
  simp only [List.cons.injEq, and_true] at e0 e1 e3
  subst e0 e1 e3
  obtain ⟨A, c, rfl⟩ := hr.shape
  exact ⟨⟨z0, z1, zs, z3⟩, ⟨A, m, c, rfl, hr⟩, fun x hx => wf8 (hwz x hx), wf8 w1, wf16 w3⟩
end
end Go.Proofs.YtdmnflngafbobaaDoor
namespace Go.Proofs.YtdmnflngafbobaaDoor
open Go.RowKit
set_option linter.unusedVariables false
set_option linter.unusedSimpArgs false

def gx (xs : List Ex) (j : Int) : Option Ex := xs.find? fun x => decide (x.id = j)
theorem gx_fi : ∀ (xs : List Ex) (j : Int), (match fi xs j with | none => none | some k => xs[k]?) = gx xs j
  | [], j => rfl
  | x :: xs, j => by
    have ih := gx_fi xs j
    unfold fi gx at *
    by_cases h : x.id = j
    · simp [List.findIdx?_cons, h]
    · simp only [List.findIdx?_cons, List.find?_cons, h, decide_false, Bool.false_eq_true, if_false]
      rw [← ih]
      cases List.findIdx? (fun x => decide (x.id = j)) xs <;> simp
theorem gx_putE : ∀ (xs : List Ex) (id : Int) (d : List Int), gx (putE xs id d) id = some ⟨id, d⟩
  | [], id, d => by simp [gx, putE]
  | x :: xs, id, d => by
    have ih := gx_putE xs id d
    unfold gx at *
    unfold putE
    split
    · simp
    · rename_i h
      simp [h, ih]
theorem gx_putE_ne : ∀ (xs : List Ex) (id : Int) (d : List Int) (j : Int), j ≠ id → gx (putE xs id d) j = gx xs j
  | [], id, d, j, h => by simp [gx, putE]; exact fun e => h e.symm
  | x :: xs, id, d, j, h => by
    have ih := gx_putE_ne xs id d j h
    unfold gx at *
    unfold putE
    split
    · rename_i hx
      have h1 : ¬ id = j := fun e => h e.symm
      have h2 : ¬ x.id = j := by omega
      simp [h1, h2]
    · simp only [List.find?_cons]
      rw [ih]
theorem gx_once {xs : List Ex} (h : OnceP xs) {k : Nat} {x : Ex} (hx : xs[k]? = some x) : gx xs x.id = some x := by
  rw [← gx_fi, h k x hx]
  exact hx

theorem setP_some {hd hd' : Hd} {id : Int} {d : List Int} {pr : Int} (hne : hd.ext = false → hd.exts = []) (h : setP hd id d pr = some hd') : hd'.ext = true ∧ hd'.exts = putE hd.exts id d := by
  have hE : ∀ (h0 h1 : Hd), h0.exts = hd.exts → (h0.ext = false → h0.exts = []) → setE h0 id d = some h1 → h1.ext = true ∧ h1.exts = putE hd.exts id d := by
    intro h0 h1 he hn hs
    unfold setE at hs
    split at hs
    · split at hs
      · injection hs with hs
        subst hs
        rename_i q _
        exact ⟨q, by rw [← he]⟩
      · cases hs
    · rename_i q
      injection hs with hs
      subst hs
      have : h0.exts = [] := hn (by simpa using q)
      refine ⟨rfl, ?_⟩
      show h0.exts ++ [(⟨id, d⟩ : Ex)] = _
      rw [← he, this]
      rfl
  unfold setP at h
  split at h
  · exact hE hd hd' rfl hne h
  · split at h
    · cases h
    · split at h
      · cases h
      · exact hE { hd with prof := pr } hd' rfl hne h
theorem Fd_gx {hd : Hd} {j : Int} (h : hd.ext = true) : Fd hd j = gx hd.exts j := by
  unfold Fd
  rw [if_pos h, ← gx_fi]
  cases fi hd.exts j <;> rfl
/-- It is there. -/
theorem prof_there {hd hd' : Hd} {id : Int} {d : List Int} {pr : Int} (hne : hd.ext = false → hd.exts = []) (h : setP hd id d pr = some hd') : fdd hd' id = d ∧ (Fd hd' id).isSome = true := by
  obtain ⟨h1, h2⟩ := setP_some hne h
  have hF : Fd hd' id = some ⟨id, d⟩ := by rw [Fd_gx h1, h2, gx_putE]
  unfold fdd
  rw [hF]
  exact ⟨rfl, rfl⟩
/-- All others are. -/
theorem prof_others {hd hd' : Hd} {id : Int} {d : List Int} {pr : Int} (hne : hd.ext = false → hd.exts = []) (ho : OnceP hd.exts) (h : setP hd id d pr = some hd') {k : Nat} {x : Ex} (hx : hd.exts[k]? = some x) (hi : x.id ≠ id) : fdd hd' x.id = x.data ∧ (Fd hd' x.id).isSome = true := by
  obtain ⟨h1, h2⟩ := setP_some hne h
  have hF : Fd hd' x.id = some x := by rw [Fd_gx h1, h2, gx_putE_ne _ _ _ _ hi, gx_once ho hx]
  unfold fdd
  rw [hF]
  exact ⟨rfl, rfl⟩
theorem fits_chk {p id : Int} {n : Nat} (h : fitsB p id n = true) : chkB p id n = true := by
  unfold fitsB at h
  unfold chkB
  split at h
  · rename_i q
    rw [if_pos q]
    have := of_decide_eq_true h
    exact decide_eq_true ⟨this.1, this.2.1, this.2.2.2⟩
  · rename_i q
    rw [if_neg q]
    exact h
/-- An error: not all of them fit. -/
theorem prof_none {hd : Hd} {id : Int} {d : List Int} {pr : Int} (h1 : 1 ≤ d.length) (h : setP hd id d pr = none) : (fitsB pr id d.length && fitsAll pr hd.exts) = false := by
  cases hf : fitsB pr id d.length && fitsAll pr hd.exts with
  | false => rfl
  | true =>
    exfalso
    rw [Bool.and_eq_true] at hf
    have hc := fits_chk hf.1
    unfold setP at h
    split at h
    · rename_i q
      unfold setE at h
      split at h
      · rename_i q2
        have hp : hd.prof = pr := by
          rcases q with q | q
          · rw [q2] at q; cases q
          · exact q
        rw [hp, hc] at h
        cases h
      · cases h
    · split at h
      · rename_i q
        rw [hc] at q
        cases q
      · split at h
        · rename_i q
          obtain ⟨_, q⟩ := q
          rw [List.any_eq_true] at q
          obtain ⟨x, hx, hx2⟩ := q
          have := fits_chk ((List.all_eq_true.1 hf.2) x hx)
          rw [this] at hx2
          cases hx2
        · unfold setE at h
          by_cases hx : hd.ext = true
          · rw [if_pos hx, if_pos hc] at h
            cases h
          · rw [if_neg hx] at h
            cases h
end Go.Proofs.YtdmnflngafbobaaDoor
