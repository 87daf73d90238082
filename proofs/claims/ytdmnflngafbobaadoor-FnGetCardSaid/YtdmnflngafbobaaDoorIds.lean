/-
  The ids of a header's extensions. Conditions: those that stand in each theorem.
-/
import Derived.Test.YtdmnflngafbobaaDoorFmh
import Derived.Test.YtdmnflngafbobaaDoorCopy
namespace Go.Proofs.YtdmnflngafbobaaDoor
open Go.RowKit
set_option linter.unusedVariables false
set_option linter.unusedSimpArgs false
set_option maxRecDepth 100000

theorem run_mk0 {P : Program} {t e : TypeId} {z : Value} {sz bytes : Nat} (T : ET P t e z sz bytes) (n : Nat) (hb : bytes * n ≤ 281474976710656) (hm : n ≤ 9223372036854775807) (w : World) :
    (Instr.makeSlice t (.int .i64 0) (.int .i64 (n : Int))).run P w = .ok (.slice (some ⟨w.heap.size, 0, none⟩) 0 n) (w.alloc (.cells (madeCells z.cells (n * sz)) e)) := by
  obtain ⟨ht, hi, hzs, hsz⟩ := T
  cases hI : P.info? e with
  | none => rw [hI] at hi; cases hi
  | some i =>
    rw [hI] at hi
    simp at hi
    have := run_make (P := P) w t e i z ht hI hi.1 .i64 .i64 (0 : Int) (n : Int) (by omega) (by omega) (by rw [hi.2.2]; omega) (by omega)
    rw [hi.2.1] at this
    simpa using this

def idsOf (hd : Hd) : List Int := if hd.ext then hd.exts.map (·.id) else []

def idT (hd : Hd) (k : Nat) : List Int := (hd.exts.take k).map (·.id)
theorem idT_0 (hd : Hd) : idT hd 0 = [] := rfl

set_option maxHeartbeats 1600000 in
/-- The library's GetExtensionIDs. -/
theorem getids_walk {p : Nat → Prop} {hd : Hd} {sv xv : Value} {off : Int} {g : Nat} {t : TypeId} (w : World) (hB : Blk w g t (rcells hd sv xv off)) (hX : XR w p xv hd.exts) (hn : hd.exts.length ≤ 2147483647) :
    Calls Tryd.prog 80 #[.pointer (some ⟨g, 0, none⟩)] w fun e w' => ∃ A c, e = .returned (.slice A (idsOf hd).length c) ∧ Keep w w' Nul ∧
      Rd w' (w.heap.size ≤ ·) 1 (.slice A (idsOf hd).length c) (idsOf hd).length (B8 (idsOf hd)) := by
  have H := hide hX
  obtain ⟨A2, c2, rfl⟩ := hX.shape
  obtain ⟨x0, x1, x2, x3, x4, x5, x6, x7, x8, x9, x10, x11, x12⟩ := rc13 hB
  clear hX hB x0 x1 x3 x4 x5 x6 x7 x8 x9 x11 x12
  cases he : hd.ext
  · have HI := hide (show idsOf hd = [] by simp [idsOf, he])
    rw [he] at x2
    clear he
    go_enter Tryd.func80, Tryd.ntmps80
    go_wp2_with fail
    go_ret
    rw [HI.out]
    exact ⟨_, _, rfl, Keep.refl _ _, Rd.nil_ _ _ _⟩
  have HI := hide (show idsOf hd = hd.exts.map (·.id) by simp [idsOf, he])
  rw [he] at x2
  clear he
  by_cases h0 : hd.exts.length = 0
  · have HI0 := hide (show idsOf hd = [] by rw [HI.out, List.eq_nil_of_length_eq_zero h0]; rfl)
    have h0i : (hd.exts.length : Int) = 0 := by omega
    go_enter Tryd.func80, Tryd.ntmps80
    go_wp2_with fail
    go_ret
    rw [HI0.out]
    exact ⟨_, _, rfl, Keep.refl _ _, Rd.nil_ _ _ _⟩
  have h0i : ¬ (hd.exts.length : Int) = 0 := by omega
  have mkB := run_mk0 etB hd.exts.length (by omega) (by omega)
  simp only [Nat.mul_one] at mkB
  go_enter Tryd.func80, Tryd.ntmps80
  go_upto_region 6 with fail
  generalize hwa : World.alloc w _ = wa
  have KA := hide (show Keep w wa Nul by subst hwa; exact (Keep.refl w Nul).alloc _)
  have OA := hide (show Own wa w.heap.size 5 1 (.slice (some ⟨w.heap.size, 0, none⟩) 0 hd.exts.length) 0 (B8 []) by
    have hb : Blk wa w.heap.size 5 (madeCells (Value.int .u8 0).cells hd.exts.length) := by subst hwa; exact Blk.new w _ _
    exact Own.of_blk (B := w.heap.size) (n := 0) (cap := hd.exts.length) (sz := 1) hb (Nat.le_refl _) (Nat.zero_le _) (by simp only [maxLen]; omega) (by simp [size_madeCells]))
  have x10 := KA.out.cell (fun h => h) x10
  clear hwa mkB x2
  go_wp2_with fail
  clear x10
  go_loopw [3, 28] (fun u i wr => ∃ k : Nat, k ≤ hd.exts.length ∧ i = .int .i64 k ∧ Keep w wr Nul ∧ Own wr w.heap.size 5 1 u k (B8 (idT hd k))) (fun _ i _ => hd.exts.length - (intOf i).toNat)
  case atStart => exact ⟨0, Nat.zero_le _, rfl, KA.out, OA.out⟩
  case round =>
    obtain ⟨k, hk, rfl, hK, hO⟩ := hrel
    by_cases hlt : k < hd.exts.length
    · have hg : hd.exts[k]? = some hd.exts[k] := List.getElem?_eq_getElem _
      obtain ⟨b, o, c', d, hv, q1, q2, q3, q4, q5, q6, q7⟩ := (H.out.keep0 hK).at_ hg
      injection hv with e1 _ e3
      subst e1 e3
      have HO := hide hO
      have HG := hide hg
      clear hO hg
      generalize hd.exts[k] = x at *
      obtain ⟨A', c3, rfl⟩ := q7.shape
      clear q7
      have HK := hide hK
      have hsz := hK.size
      have hat := hide HO.out.at_
      clear hK
      go_wp2_with (at_builtin; go_loud (refine wpList_app etB rfl _ _ rfl ((HO.out.alloc _).alloc _) rfl (src_lit (n := 1) Tryd.underlying29 [x.id] rfl (by simp only [World.size_alloc]) rfl (by simp [maxLen])) rfl (by simp only [maxLen]; omega) (by omega) (by simp; omega) ?_); intro v1 w2 o1 k1 b1 z1 _)
      have HK2 : Hid (Keep w w2 Nul) := hide (((HK.out.alloc _).alloc _).trans k1 fun i hi e => by have := (hat.out i e).1; omega)
      have HO1 := hide o1
      clear o1 k1 b1 z1
      go_roundw
      case rel =>
        have ex : idT hd (k + 1) = idT hd k ++ [x.id] := by
          unfold idT
          rw [List.take_add_one, HG.out]; simp
        refine ⟨_, _, _, ⟨k + 1, by omega, rfl, HK2.out, ?_⟩, rfl, rfl, by go_num⟩
        rw [ex, B8_app]
        exact HO1.out
      case measure => simp [intOf]; omega
    · obtain rfl : k = hd.exts.length := by omega
      have HK := hide hK
      unfold idT at hO
      rw [List.take_length] at hO
      have HO := hide hO
      clear hK hO
      go_wp2_with fail
      go_ret
      obtain ⟨A', c3, rfl⟩ := HO.out.rd.shape
      rw [HI.out, List.length_map]
      exact ⟨_, _, rfl, HK.out, HO.out.rdB⟩

theorem idsOf_len (hd : Hd) : (idsOf hd).length ≤ hd.exts.length := by
  unfold idsOf
  split <;> simp

set_option maxHeartbeats 1600000 in
theorem ids1_walk {p : Nat → Prop} {hd : Hd} {sv xv : Value} {g1 g2 : Nat} (w : World) (hh : HV w p (.agg (hcells hd sv xv)) hd) (hs : hd.srcs.length ≤ 2147483647) (hn : hd.exts.length ≤ 2147483647) (hdn : ∀ x ∈ hd.exts, x.data.length ≤ 2147483647)
    (h1 : Blk w g1 35 (hcells hd sv xv)) (h2 : Blk w g2 29 #[.slice none 0 0]) :
    Calls Tryd.prog 79 #[.pointer (some ⟨g1, 0, none⟩), .pointer (some ⟨g2, 0, none⟩)] w fun e w' => e = .returned (.bool true) ∧ Keep w w' (· = g2) ∧ ∃ A c, Blk w' g2 29 #[.slice A (idsOf hd).length c] ∧
      Rd w' (w.heap.size ≤ ·) 1 (.slice A (idsOf hd).length c) (idsOf hd).length (B8 (idsOf hd)) := by
  have HH := hide (header_walk w hh hn hs hdn)
  obtain ⟨x0, x1, x2, x3, x4, x5, x6, x7, x8, x9, x10, x11⟩ := hc12 h1
  have hg2 := h2.lt
  have H2 := hide h2
  obtain ⟨sv', xv', e', q1, q2⟩ := hh
  injection e' with e'
  have es : sv = sv' := by have := congrArg (fun a : Array Value => a[8]?) e'; simpa [hcells] using this
  have ex : xv = xv' := by have := congrArg (fun a : Array Value => a[10]?) e'; simpa [hcells] using this
  subst es ex
  obtain ⟨A1, c1, rfl⟩ := q1.shape
  obtain ⟨A2, c2, rfl⟩ := q2.shape
  clear q1 q2 e' h1 h2 hdn
  go_enter Tryd.func79, Tryd.ntmps79
  go_wp2_with fail
  refine Calls.mono (show Calls _ _ #[.agg (hcells hd (.slice A1 hd.srcs.length c1) (.slice A2 hd.exts.length c2))] _ _ from HH.out) ?_
  rintro e w1 ⟨k1, g, rfl, hr⟩
  obtain ⟨sv, xv, off, b, r1, r2⟩ := hr.open_
  have HM := hide (getids_walk (off := off) w1 b r2 hn)
  have K1 := hide k1
  have hz1 := k1.size
  clear x0 x1 x2 x3 x4 x5 x6 x7 x8 x9 x10 x11 hr r1 r2 k1 b
  go_wp2_with fail
  refine (HM.out).mono ?_
  rintro e w2 ⟨A, c, rfl, k2, rd⟩
  have RD := hide rd
  have K2 := hide (K1.out.trans0 k2)
  have H3 := hide (H2.out.keep K2.out (fun h => h))
  have f2 := H3.out.free 0
  have c2' := H3.out.cell 0 (v := .slice none 0 0) rfl
  clear k2 rd
  go_wp2_with fail
  go_ret
  refine ⟨rfl, (K2.out.nul (· = g2)).setg (g := g2) 0 (fun _ => rfl) _, A, c, H3.out.set_ 0 _, ?_⟩
  exact ((RD.out.mono (q := (w.heap.size ≤ ·)) (fun k _ hk => Nat.le_trans hz1 hk)).keep (Keep.set1 _ _ _ _) (fun i _ hq e => by have : w.heap.size ≤ i := hq; omega))

set_option maxHeartbeats 1600000 in
/-- impl.IDs. -/
theorem ids_walk {p : Nat → Prop} {v : Value} {hd : Hd} (w : World) (hh : HV w p v hd) (hs : hd.srcs.length ≤ 2147483647) (hn : hd.exts.length ≤ 2147483647) (hdn : ∀ x ∈ hd.exts, x.data.length ≤ 2147483647) :
    Calls Tryd.prog 38 #[v] w fun e w' => ∃ A c, e = .returned (.slice A (idsOf hd).length c) ∧ Keep w w' Nul ∧ Rd w' (w.heap.size ≤ ·) 1 (.slice A (idsOf hd).length c) (idsOf hd).length (B8 (idsOf hd)) := by
  have hh0 := hh
  obtain ⟨sv, xv, rfl, q1, q2⟩ := hh
  obtain ⟨A1, c1, rfl⟩ := q1.shape
  obtain ⟨A2, c2, rfl⟩ := q2.shape
  clear q1 q2
  have b1 := (Blk.new w 35 (hcells hd (.slice A1 hd.srcs.length c1) (.slice A2 hd.exts.length c2))).alloc (.cells #[.slice none 0 0] 29)
  have b2 := Blk.new (w.alloc (.cells (hcells hd (.slice A1 hd.srcs.length c1) (.slice A2 hd.exts.length c2)) 35)) 29 #[.slice none 0 0]
  simp only [World.size_alloc] at b2
  have kW : Keep w ((w.alloc (.cells (hcells hd (.slice A1 hd.srcs.length c1) (.slice A2 hd.exts.length c2)) 35)).alloc (.cells #[.slice none 0 0] 29)) Nul := ((Keep.refl w _).alloc _).alloc _
  have hT := hide (try_out (k := 79) (g2 := w.heap.size + 1) (b := true) (R := fun w' => ∃ A c, Blk w' (w.heap.size + 1) 29 #[.slice A (idsOf hd).length c] ∧ Rd w' (w.heap.size + 3 ≤ ·) 1 (.slice A (idsOf hd).length c) (idsOf hd).length (B8 (idsOf hd))) (fun _ => by kernel_rfl) (by simp only [World.size_alloc]; omega)
    (fun w1 w2 ⟨A, c, hb, hr⟩ k => by
      simp only [World.size_alloc] at k
      exact ⟨A, c, hb.keep k (by omega), hr.keep k (fun i _ hq e => by have : w.heap.size + 3 ≤ i := hq; omega)⟩)
    ((ids1_walk _ (hh0.keep0 (kW.alloc (.cells #[.bool false] 4))) hs hn hdn (b1.alloc (.cells #[.bool false] 4)) (b2.alloc (.cells #[.bool false] 4))).mono (by
      rintro e w' ⟨rfl, hk, A, c, hb, hr⟩
      simp only [World.size_alloc] at hr
      exact ⟨rfl, hk, A, c, hb, hr⟩)))
  have KW := hide kW
  clear kW hh0 hdn b1 b2
  unfold hcells at *
  go_enter Tryd.func38, Tryd.ntmps38
  go_wp2_with (refine (hT.out).mono ?_; rintro e w' ⟨rfl, hk, A, c, hb, hr⟩; have c0 := hb.cell 0 (v := .slice A (idsOf hd).length c) rfl; have f0 := hb.free 0)
  have c1 := (hb.set_ 0 (.slice A (idsOf hd).length c)).cell 0 (v := .slice A (idsOf hd).length c) rfl
  refine bodyPost_ret (v := .slice A (idsOf hd).length c) (by simp [results, Tryd.results38, go_sem, c1]) rfl ⟨_, _, rfl, ?_, ?_⟩
  · exact (KW.out.trans hk (fun i hi e => by omega)).setg _ (fun h => by omega) _
  · exact (hr.keep (Keep.set1 _ _ _ _) (fun i _ hq e => by have : w.heap.size + 3 ≤ i := hq; omega)).mono (fun k _ hk => by have : w.heap.size + 3 ≤ k := hk; show w.heap.size ≤ k; omega)
end Go.Proofs.YtdmnflngafbobaaDoor
