/-
  (*rtp.Header).ClearExtensions, DelExtension. Conditions: those that stand in each theorem.
-/
import Derived.Test.YtdmnflngafbobaaDoorGSt
import Derived.Test.YtdmnflngafbobaaDoorLast2
import Derived.Deep.QuietTactic
import Derived.BigQuiet
namespace Go.Proofs.YtdmnflngafbobaaDoor
open Go.RowKit
set_option linter.unusedVariables false
set_option linter.unusedSimpArgs false
set_option maxRecDepth 100000

theorem Own.take {w : World} {B : Nat} {e : TypeId} {sz n c : Nat} {A : Option Addr} {xs : List Value} (h : Own w B e sz (.slice A n c) n xs) (k : Nat) (hk : k ≤ n) : Own w B e sz (.slice A k c) k (xs.take (k * sz)) := by
  have hl := h.1
  have hm : k * sz ≤ n * sz := Nat.mul_le_mul_right _ hk
  rcases h.2 with ⟨h0, h1⟩ | ⟨g', cap, cur, fr, hv, hB, hg, hnc, hcm, hcs, hfr, htk⟩
  · injection h0 with e1 e2 e3
    subst e1 e3
    obtain rfl : k = 0 := by omega
    exact ⟨by simp, .inl ⟨rfl, rfl⟩⟩
  · injection hv with e1 e2 e3
    subst e1 e3
    refine ⟨by rw [List.length_take, hl]; omega, .inr ⟨g', c, cur, fr, rfl, hB, hg, by omega, hcm, hcs, hfr, ?_⟩⟩
    rw [← htk, List.take_take, Nat.min_eq_left hm]

set_option maxHeartbeats 1600000 in
theorem clear_walk {hd : Hd} {g B : Nat} (w : World) (hP : RP w B g hd) :
    Calls Tryd.prog 110 #[.pointer (some ⟨g, 0, none⟩)] w fun e w' => e = .returned (.tuple #[]) ∧ RP w' B g { hd with ext := false, prof := 0, exts := [] } ∧ Keep w w' (KX w B g) := by
  obtain ⟨hBg, sv, xv, ds, off, hB, hS, hO, hD⟩ := hP
  have HB := hide hB
  have HS := hide hS
  have HO := hide hO
  have HBG := hBg
  obtain ⟨A1, c1, rfl⟩ := hS.rd.shape
  obtain ⟨Ax, cx, rfl⟩ := hO.rd.shape
  have x10 := hB.cell 10 (v := .slice Ax hd.exts.length cx) rfl
  have x2 := hB.cell 2 (v := .bool hd.ext) rfl
  have x9 := hB.cell 9 (v := .int .u16 hd.prof) rfl
  have fg := fun i => HB.out.free i
  have lg := hB.lt
  clear hB hS hO hD
  go_enter Tryd.func110, Tryd.ntmps110
  go_wp2_with fail
  go_end0
  have hk : Keep w (((w.setCell ⟨g, 10, none⟩ (.slice Ax 0 cx)).setCell ⟨g, 2, none⟩ (.bool false)).setCell ⟨g, 9, none⟩ (.int .u16 0)) (· = g) := (((Keep.refl w (· = g)).setg 10 (fun _ => rfl) _).setg 2 (fun _ => rfl) _).setg 9 (fun _ => rfl) _
  have hb := ((HB.out.set_ 10 (.slice Ax 0 cx)).set_ 2 (.bool false)).set_ 9 (.int .u16 0)
  have ho := (HO.out.keep hk (fun q hq e => (HO.out.ne_ HB.out (by decide)) (e ▸ hq))).take 0 (Nat.zero_le _)
  rw [Nat.zero_mul, List.take_zero] at ho
  exact ⟨rfl, ⟨HBG, _, _, [], off, hb, HS.out.keep hk (fun q hq e => (HS.out.ne_ HB.out (by decide)) (e ▸ hq)), ho, ⟨rfl, by simp⟩⟩, hk.kx_g HBG⟩
end Go.Proofs.YtdmnflngafbobaaDoor
namespace Go.Proofs.YtdmnflngafbobaaDoor
open Go.RowKit
set_option linter.unusedVariables false
set_option linter.unusedSimpArgs false

theorem xcells_erase : ∀ (xs : List Ex) (ds : List Value) (k : Nat), ds.length = xs.length → k < xs.length → (xcells xs ds).take (k * 2) ++ (xcells xs ds).drop ((k + 1) * 2) = xcells (xs.eraseIdx k) (ds.eraseIdx k)
  | [], _, k, _, h => by simp at h
  | x :: xs, d :: ds, 0, hl, _ => by simp [xcells]
  | x :: xs, d :: ds, k + 1, hl, h => by
    have ih := xcells_erase xs ds k (by simpa using hl) (by simpa using h)
    have e1 : (k + 1) * 2 = k * 2 + 1 + 1 := by omega
    have e2 : (k + 1 + 1) * 2 = (k + 1) * 2 + 1 + 1 := by omega
    rw [e1, e2]
    simp only [xcells, List.eraseIdx_cons_succ, List.take_succ_cons, List.drop_succ_cons, List.cons_append]
    rw [ih]
  | x :: xs, [], _, hl, _ => by simp at hl
theorem Ds.erase {w : World} {p : Nat → Prop} {xs : List Ex} {ds : List Value} (h : Ds w p xs ds) (k : Nat) : Ds w p (xs.eraseIdx k) (ds.eraseIdx k) := by
  refine ⟨by rw [List.length_eraseIdx, List.length_eraseIdx, h.1], fun j x d h1 h2 => ?_⟩
  rw [List.getElem?_eraseIdx] at h1 h2
  split at h1
  · rename_i hj
    rw [if_pos hj] at h2
    exact h.2 j x d h1 h2
  · rename_i hj
    rw [if_neg hj] at h2
    exact h.2 (j + 1) x d h1 h2
theorem xcells_one {w : World} {p : Nat → Prop} : ∀ (xs : List Ex) (ds : List Value), Ds w p xs ds → ∀ u ∈ xcells xs ds, u.oneCell' = true
  | [], _, _, u, hu => by simp [xcells] at hu
  | x :: xs, [], _, u, hu => by simp [xcells] at hu
  | x :: xs, d :: ds, h, u, hu => by
    simp only [xcells, List.mem_cons] at hu
    rcases hu with rfl | rfl | hu
    · rfl
    · obtain ⟨A, c, rfl⟩ := (h.2 0 x u rfl rfl).shape
      rfl
    · exact xcells_one xs ds ⟨by simpa using h.1, fun k y d' h1 h2 => h.2 (k + 1) y d' (by simpa using h1) (by simpa using h2)⟩ u hu
/-- A piece of the call's own slice, from an element on. -/
theorem Own.from_ {w : World} {B : Nat} {e : TypeId} {sz g n c : Nat} {xs : List Value} (h : Own w B e sz (.slice (some ⟨g, 0, none⟩) n c) n xs) (k : Nat) (hk : k ≤ n) (X : Option Addr) (hX : c ≠ k → X = some ⟨g, k * sz, none⟩) (hX0 : X ≠ none) :
    Rd w (fun q => q = g) sz (.slice X (n - k) (c - k)) (n - k) (xs.drop (k * sz)) := by
  obtain ⟨hl, A, c', hv, h1, h2, h3, h4⟩ := h.rd
  injection hv with e1 _ e3
  subst e1 e3
  have hm : k * sz ≤ n * sz := Nat.mul_le_mul_right _ hk
  refine ⟨by rw [List.length_drop, hl, Nat.sub_mul], X, c - k, rfl, by omega, by omega, fun h => absurd h hX0, fun j u hu => ?_⟩
  rw [List.getElem?_drop] at hu
  have hjl := (List.getElem?_eq_some_iff.1 hu).1
  have hck : c ≠ k := by
    intro e
    subst e
    have : n = c := by omega
    rw [this] at hl
    omega
  obtain ⟨ad, e, hb, hc⟩ := h4 _ _ hu
  injection e with e
  subst e
  rw [add_lit, Nat.zero_add] at hc
  refine ⟨_, hX hck, rfl, ?_⟩
  rw [add_lit]
  exact hc
end Go.Proofs.YtdmnflngafbobaaDoor
namespace Go.Proofs.YtdmnflngafbobaaDoor
open Go.RowKit
set_option linter.unusedVariables false
set_option linter.unusedSimpArgs false
set_option maxRecDepth 100000

structure DErrs (w : World) : Prop where
  e10 : ∃ te ve, w.cell? ⟨10, 0, none⟩ = some (.iface te ve)
  e11 : ∃ te ve, w.cell? ⟨11, 0, none⟩ = some (.iface te ve)
theorem DErrs.keepB {w w' : World} (h : DErrs w) (k : Keep w w' (w.heap.size ≤ ·)) : DErrs w' := by
  obtain ⟨⟨a1, b1, c1⟩, ⟨a2, b2, c2⟩⟩ := h
  exact ⟨⟨a1, b1, k.cell (fun e => by have := block_lt_of_cell c1; omega) c1⟩, ⟨a2, b2, k.cell (fun e => by have := block_lt_of_cell c2; omega) c2⟩⟩

theorem Own.len_eq {w : World} {B : Nat} {e : TypeId} {sz n m : Nat} {v : Value} {xs : List Value} (h : Own w B e sz v n xs) (hn : n = m) : Own w B e sz v m xs := hn ▸ h

set_option maxHeartbeats 3200000 in
theorem del_walk {hd : Hd} {g B : Nat} {id : Int} (w : World) (hP : RP w B g hd) (hx : hd.exts.length ≤ 1000000) (hBw : B ≤ w.heap.size) (hde : DErrs w) :
    Calls Tryd.prog 109 #[.pointer (some ⟨g, 0, none⟩), .int .u8 id] w (OpR (delE hd id) hd B g w) := by
  have HP := hide hP
  have hP1 := hP
  obtain ⟨hBg, sv, xv, ds, off, hB, hS, hO, hD⟩ := hP1
  obtain ⟨A1, c1, rfl⟩ := hS.rd.shape
  obtain ⟨Ax, cx, rfl⟩ := hO.rd.shape
  have HBG := hBg
  have HB := hide hB
  have HS := hide hS
  have HO := hide hO
  have HD := hide hD
  obtain ⟨⟨te1, ve1, he1⟩, ⟨te2, ve2, he2⟩⟩ := hde
  have HE2 := hide he2
  have x2 := hB.cell 2 (v := .bool hd.ext) rfl
  have x10 := hB.cell 10 (v := .slice Ax hd.exts.length cx) rfl
  have lg := hB.lt
  have HNX := hide (show ¬ (Value.slice Ax hd.exts.length cx).ownBlock = some g from hO.ne_ hB (by decide))
  clear hB hS hO hD hP he2
  cases hext : hd.ext with
  | false =>
    have HDE := hide (show delE hd id = none by unfold delE; rw [if_pos hext])
    rw [hext] at x2
    clear hext
    go_enter Tryd.func109, Tryd.ntmps109
    go_wp2_with fail
    (try go_ret)
    exact ⟨Keep.refl _ _, .inr ⟨HDE.out, ⟨_, _, rfl⟩, HP.out⟩⟩
  | true =>
    rw [hext] at x2
    have HEXT := hide hext
    clear hext he1
    go_enter Tryd.func109, Tryd.ntmps109
    go_wp2_with fail
    go_loopw [18] (fun s18 wr => ∃ k : Nat, k ≤ hd.exts.length ∧ s18 = .int .i64 (k : Int) ∧ (∀ x ∈ hd.exts.take k, x.id ≠ id) ∧ Keep w wr Nul) (fun s18 _ => hd.exts.length - (intOf s18).toNat)
    case atStart => exact ⟨0, Nat.zero_le _, rfl, by simp, Keep.refl _ _⟩
    case round =>
      obtain ⟨k, hk, rfl, hne, hK⟩ := hrel
      have HNE := hide hne
      have KK := hide hK
      have BR := hide (HB.out.keep hK (fun e => e))
      by_cases hlt : k < hd.exts.length
      · have hxk : hd.exts[k]? = some hd.exts[k] := List.getElem?_eq_getElem _
        have hXR : XR w (B ≤ ·) (.slice Ax hd.exts.length cx) hd.exts := ⟨ds, HD.out.mono (fun i _ hi => hi.1), HO.out.rdB⟩
        obtain ⟨gx, ox, cx', dv, hv, q1, q2, q3, q4, p5, p6, q7⟩ := hXR.at_ hxk
        injection hv with e1 _ e3
        subst e1 e3
        have hox : ox = 0 := by
          rcases HO.out.2 with ⟨h0, _⟩ | ⟨g', _, _, _, hv', _⟩
          · cases h0
          · injection hv' with e
            injection e with e
            injection e with _ e
        subst hox
        have HXK := hide hxk
        clear hxk
        generalize hd.exts[k] = x at *
        have q5 := hK.cell (fun e => e) p5
        have q6 := hK.cell (fun e => e) p6
        obtain ⟨Ad, cd, rfl⟩ := q7.shape
        rw [Nat.zero_add] at q5 q6
        have hgx : gx < wr.heap.size := Nat.lt_of_lt_of_le q4 hK.size
        have lgr := BR.out.lt
        have x10r := BR.out.cell 10 (v := .slice (some ⟨gx, 0, none⟩) hd.exts.length cx) rfl
        have OR := hide (HO.out.keep0 hK)
        have hbr : B ≤ wr.heap.size := Nat.le_trans hBw hK.size
        clear p5 p6 q7 hXR hne hK
        by_cases hid : x.id = id
        · have s1 : (x.id == id) = true := by simp [hid]
          have HFI := hide (fi_some HNE.out HXK.out hid)
          clear hid
          go_upto_region 7 with fail
          generalize hw4 : World.alloc wr _ = w4
          have K4 := hide (show Keep wr w4 Nul by subst hw4; exact (Keep.refl wr Nul).alloc _)
          have B4 := hide (BR.out.keep K4.out (fun e => e))
          have O4 := hide (OR.out.keep0 K4.out)
          have t10 := B4.out.cell 10 (v := .slice (some ⟨gx, 0, none⟩) hd.exts.length cx) rfl
          have l4 := B4.out.lt
          have hgx4 : gx < w4.heap.size := Nat.lt_of_lt_of_le hgx K4.out.size
          have hbr4 : B ≤ w4.heap.size := Nat.le_trans hbr K4.out.size
          have i1 : (k : Int) ≤ (cx : Int) := by omega
          have i2 : (k : Int) + 1 ≤ (hd.exts.length : Int) := by omega
          have i3 : ((k : Int) + 1).toNat = k + 1 := by omega
          have i4 : IntKind.i64.wrap ((k : Int) + 1) = (k : Int) + 1 := by rw [IntKind.wrap_i64]; omega
          have i5 : k ≤ cx := by omega
          have i6 : k + 1 ≤ hd.exts.length := by omega
          have i7 : (0 : Int) ≤ (k : Int) + 1 := by omega
          clear hw4 x10r q5 q6
          by_cases hck : cx = k + 1
          · subst hck
            have hrd0 := (O4.out.keep0 ((Keep.refl w4 Nul).drew)).from_ (k + 1) i6 (some ⟨gx, 0, none⟩) (fun h => absurd rfl h) (by simp)
            rw [Nat.sub_self] at hrd0
            rw [show hd.exts.length - (k + 1) = 0 by omega] at hrd0
            have hrd := hide hrd0
            clear hrd0
            have i8 : (k : Int) ≤ (k : Int) + 1 := by omega
            refine wp_region_noPanic ?_
            refine region_last2' (S := fun w' => w'.cell? ⟨g, 10, none⟩ = some (.slice (some ⟨gx, 0, none⟩) hd.exts.length (k + 1))) (by kernel_rfl) (by kernel_rfl) (by simp only [List.dropLast_cons_cons, List.dropLast_singleton]; rfl) (by simp only [List.getLast?_cons_cons, List.getLast?_singleton]; rfl) (t10) (fun hHeld => ?_)
            simp only [List.length_cons, List.length_nil, Nat.reduceAdd, Nat.zero_add]
            refine wpAnyH_take (i := 0) (v := ?_) (by simp only [List.getElem?_toArray, List.getElem?_cons_succ, List.getElem?_cons_zero]; rfl) (by kernel_rfl) (by kernel_rfl) (by kernel_rfl) (fun _ _ _ h => h) (Or.inl ⟨by rfl, ?_⟩) (by assumption) ?_
            rotate_left 1
            · (intro w hSw; (try dsimp only at hSw); go_simp; (try with_reducible rfl))
            try simp only [Act.put, List.setIfInBounds_toArray, List.set_cons_zero, List.set_cons_succ]
            refine wpAnyH_take (i := 1) (v := ?_) (by simp only [List.getElem?_toArray, List.getElem?_cons_succ, List.getElem?_cons_zero]; rfl) (by kernel_rfl) (by kernel_rfl) (by kernel_rfl) (fun _ _ _ h => h) (Or.inl ⟨by rfl, ?_⟩) (by assumption) ?_
            rotate_left 1
            · (intro w hSw; (try dsimp only at hSw); go_simp; (try with_reducible rfl))
            try simp only [Act.put, List.setIfInBounds_toArray, List.set_cons_zero, List.set_cons_succ]
            refine wpAnyH_take (i := 2) (v := ?_) (by simp only [List.getElem?_toArray, List.getElem?_cons_succ, List.getElem?_cons_zero]; rfl) (by kernel_rfl) (by kernel_rfl) (by kernel_rfl) (fun _ _ _ h => h) (Or.inl ⟨by rfl, ?_⟩) (by assumption) ?_
            rotate_left 1
            · (intro w hSw; (try dsimp only at hSw); go_simp; (try with_reducible rfl))
            try simp only [Act.put, List.setIfInBounds_toArray, List.set_cons_zero, List.set_cons_succ]
            refine wpAnyH_take (i := 3) (v := ?_) (by simp only [List.getElem?_toArray, List.getElem?_cons_succ, List.getElem?_cons_zero]; rfl) (by kernel_rfl) (by kernel_rfl) (by kernel_rfl) (fun _ _ _ h => h) (Or.inl ⟨by rfl, ?_⟩) (by assumption) ?_
            rotate_left 1
            · (intro w hSw; (try dsimp only at hSw); go_simp; (try with_reducible rfl))
            try simp only [Act.put, List.setIfInBounds_toArray, List.set_cons_zero, List.set_cons_succ]
            refine wpAnyH_take (i := 4) (v := ?_) (by simp only [List.getElem?_toArray, List.getElem?_cons_succ, List.getElem?_cons_zero]; rfl) (by kernel_rfl) (by kernel_rfl) (by kernel_rfl) (fun _ _ _ h => h) (Or.inl ⟨by rfl, ?_⟩) (by assumption) ?_
            rotate_left 1
            · (intro w hSw; (try dsimp only at hSw); go_simp; (try with_reducible rfl))
            try simp only [Act.put, List.setIfInBounds_toArray, List.set_cons_zero, List.set_cons_succ]
            refine wpAnyH_take (i := 5) (v := ?_) (by simp only [List.getElem?_toArray, List.getElem?_cons_succ, List.getElem?_cons_zero]; rfl) (by kernel_rfl) (by kernel_rfl) (by kernel_rfl) (fun _ _ _ h => h) (Or.inl ⟨by rfl, ?_⟩) (by assumption) ?_
            rotate_left 1
            · (intro w hSw; (try dsimp only at hSw); go_simp; (try with_reducible rfl))
            try simp only [Act.put, List.setIfInBounds_toArray, List.set_cons_zero, List.set_cons_succ]
            refine wpAnyH_take (i := 6) (v := ?_) (by simp only [List.getElem?_toArray, List.getElem?_cons_succ, List.getElem?_cons_zero]; rfl) (by kernel_rfl) (by kernel_rfl) (by kernel_rfl) (fun _ _ _ h => h) (Or.inl ⟨by rfl, ?_⟩) (by assumption) ?_
            rotate_left 1
            · (intro w hSw; (try dsimp only at hSw); go_simp; (try with_reducible rfl))
            try simp only [Act.put, List.setIfInBounds_toArray, List.set_cons_zero, List.set_cons_succ]
            refine wpAnyH_take (i := 7) (v := ?_) (by simp only [List.getElem?_toArray, List.getElem?_cons_succ, List.getElem?_cons_zero]; rfl) (by kernel_rfl) (by kernel_rfl) (by kernel_rfl) (fun _ _ _ h => h) (Or.inl ⟨by rfl, ?_⟩) (by assumption) ?_
            rotate_left 1
            · (intro w hSw; (try dsimp only at hSw); go_simp; (try with_reducible rfl))
            try simp only [Act.put, List.setIfInBounds_toArray, List.set_cons_zero, List.set_cons_succ]
            refine wpAnyH_take (i := 8) (v := ?_) (by simp only [List.getElem?_toArray, List.getElem?_cons_succ, List.getElem?_cons_zero]; rfl) (by kernel_rfl) (by kernel_rfl) (by kernel_rfl) (fun _ _ _ h => h) (Or.inl ⟨by rfl, ?_⟩) (by assumption) ?_
            rotate_left 1
            · (intro w hSw; (try dsimp only at hSw); go_simp; (try with_reducible rfl))
            try simp only [Act.put, List.setIfInBounds_toArray, List.set_cons_zero, List.set_cons_succ]
            refine wpAnyH_take (i := 9) (v := ?_) (by simp only [List.getElem?_toArray, List.getElem?_cons_succ, List.getElem?_cons_zero]; rfl) (by kernel_rfl) (by kernel_rfl) (by kernel_rfl) (fun _ _ _ h => h) (Or.inl ⟨by rfl, ?_⟩) (by assumption) ?_
            rotate_left 1
            · (intro w hSw; (try dsimp only at hSw); go_simp; (try with_reducible rfl))
            try simp only [Act.put, List.setIfInBounds_toArray, List.set_cons_zero, List.set_cons_succ]
            refine wpAnyH_take (i := 10) (v := ?_) (by simp only [List.getElem?_toArray, List.getElem?_cons_succ, List.getElem?_cons_zero]; rfl) (by kernel_rfl) (by kernel_rfl) (by kernel_rfl) (fun _ _ _ h => h) (Or.inl ⟨by rfl, ?_⟩) (by assumption) ?_
            rotate_left 1
            · (intro w hSw; (try dsimp only at hSw); go_simp; (try with_reducible rfl))
            try simp only [Act.put, List.setIfInBounds_toArray, List.set_cons_zero, List.set_cons_succ]
            refine wpAnyH_take (i := 11) (v := ?_) (by simp only [List.getElem?_toArray, List.getElem?_cons_succ, List.getElem?_cons_zero]; rfl) (by kernel_rfl) (by kernel_rfl) (by kernel_rfl) (fun _ _ _ h => h) (Or.inl ⟨by rfl, ?_⟩) (by assumption) ?_
            rotate_left 1
            · (intro w hSw; (try dsimp only at hSw); go_simp; (try with_reducible rfl))
            try simp only [Act.put, List.setIfInBounds_toArray, List.set_cons_zero, List.set_cons_succ]
            refine wpAnyH_take (i := 12) (v := ?_) (by simp only [List.getElem?_toArray, List.getElem?_cons_succ, List.getElem?_cons_zero]; rfl) (by kernel_rfl) (by kernel_rfl) (by kernel_rfl) (fun _ _ _ h => h) (Or.inl ⟨by rfl, ?_⟩) (by assumption) ?_
            rotate_left 1
            · (intro w hSw; (try dsimp only at hSw); go_simp; (try with_reducible rfl))
            try simp only [Act.put, List.setIfInBounds_toArray, List.set_cons_zero, List.set_cons_succ]
            refine wpAnyH_take (i := 13) (v := ?_) (by simp only [List.getElem?_toArray, List.getElem?_cons_succ, List.getElem?_cons_zero]; rfl) (by kernel_rfl) (by kernel_rfl) (by kernel_rfl) (fun _ _ _ h => h) (Or.inl ⟨by rfl, ?_⟩) (by assumption) ?_
            rotate_left 1
            · (intro w hSw; (try dsimp only at hSw); go_simp; (try with_reducible rfl))
            try simp only [Act.put, List.setIfInBounds_toArray, List.set_cons_zero, List.set_cons_succ]
            refine wpAnyH_ready (rs := [14]) (by kernel_rfl) (by simp) ?_
            refine AllReadyH.cons (by simp only [List.getElem?_toArray, List.getElem?_cons_succ, List.getElem?_cons_zero]; rfl) (fun K hK => ?_) AllReadyH.nil
            refine step_app etX (by rfl) _ _ (by rfl) ((O4.out.keep0 ((Keep.refl w4 Nul).drew)).take k hk) (by rfl) (src_of_rd (P := Tryd.prog) w4.drew Tryd.underlying106 hrd.out (fun u hu => xcells_one _ _ HD.out u (List.mem_of_mem_drop hu))) (by rfl) (by simp only [maxLen]; omega) (by omega) (by have : w4.heap.size ≤ w4.drew.heap.size := Nat.le_refl _; omega) ?_
            intro v3 w3 o3 k3 b3 z3 _
            have hb3 := B4.out.drew.keep k3 (fun e => HNX.out e)
            have f10 := hb3.free 10
            have g10 := hb3.cell 10 (v := .slice (some ⟨gx, 0, none⟩) hd.exts.length (k + 1)) rfl
            have l3 := hb3.lt
            obtain ⟨A5, c5, rfl⟩ := o3.rd.shape
            refine hK.out _ _ (hb3.cell 10 rfl) (fun hHeld => ?_)
            clear hK K
            try simp only [Act.put, List.setIfInBounds_toArray, List.set_cons_zero, List.set_cons_succ]
            refine wpAnyH_take (i := 15) (v := ?_) (by simp only [List.getElem?_toArray, List.getElem?_cons_succ, List.getElem?_cons_zero]; rfl) (by kernel_rfl) (by kernel_rfl) (by kernel_rfl) (fun _ _ _ h => h) (Or.inl ⟨by rfl, ?_⟩) (by assumption) ?_
            rotate_left 1
            · (intro w hSw; (try dsimp only at hSw); go_simp; (try with_reducible rfl))
            try simp only [Act.put, List.setIfInBounds_toArray, List.set_cons_zero, List.set_cons_succ]
            refine wpAnyH_take (i := 16) (v := ?_) (by simp only [List.getElem?_toArray, List.getElem?_cons_succ, List.getElem?_cons_zero]; rfl) (by kernel_rfl) (by kernel_rfl) (by kernel_rfl) (fun _ _ _ h => h) (Or.inl ⟨by rfl, ?_⟩) (by assumption) ?_
            rotate_left 1
            · (intro w hSw; (try dsimp only at hSw); go_simp; (try with_reducible rfl))
            try simp only [Act.put, List.setIfInBounds_toArray, List.set_cons_zero, List.set_cons_succ]
            refine wpAnyH_done (by kernel_rfl) ?_ _
            intro K hK
            go_simp
            refine hK _ _ (NoPanic.normal ?_)
            clear hK K
            have hO3 := o3
            have K3 := hide k3
            obtain ⟨m, hm⟩ : ∃ m, m = k + 0 := ⟨_, rfl⟩
            rw [Nat.add_zero, ← show Value.slice A5 m c5 = Value.slice A5 k c5 by rw [hm, Nat.add_zero]] at hO3
            rw [← show Value.slice A5 m c5 = Value.slice A5 k c5 by rw [hm, Nat.add_zero]]
            replace hO3 := hO3.len_eq (show k = m by omega)
            have hml : (hd.exts.eraseIdx k).length = m := by rw [List.length_eraseIdx, if_pos hlt]; omega
            have HML := hide hml
            have hin := HO.out.1
            have kst : Keep w3 (w3.setCell ⟨g, 10, none⟩ (.slice A5 m c5)) (· = g) := Keep.set1 _ _ _ _
            have hgo3 : ∀ q, (Value.slice A5 m c5).ownBlock = some q → ¬ q = g := fun q hq e => (hO3.ne_ hb3 (by decide)) (e ▸ hq)
            have k13 : Keep wr w3 (fun q => q = gx) := ((K4.out.nul (fun q => q = gx)).drew).trans K3.out (fun i _ e => by have : (Value.slice (some ⟨gx, 0, none⟩) k (k + 1)).ownBlock = some i := e; simp [Value.ownBlock] at this; omega)
            have hbyt : ∀ q, Byt wr B q → ¬ q = gx := fun q hq e => hq.ne_own OR.out (by decide) (by rw [e]; rfl)
            have hbyt2 : ∀ q, Byt w3 B q → ¬ q = g := fun q hq e => hq.ne_blk hb3 (by decide) e
            have hS3 := (((HS.out.keep0 KK.out).keep k13 (fun q hq e => (OR.out.ne_own (HS.out.keep0 KK.out) (by decide) (g := q) (by have : q = gx := e; rw [this]; rfl)) hq)).keep kst (fun q hq e => ((HS.out.ne_ HB.out (by decide)) (e ▸ hq))))
            have hD3 := ((((HD.out.byt KK.out (fun _ _ e => e)).byt k13 hbyt).byt kst hbyt2).erase k)
            have hX3 := hO3.keep kst hgo3
            rw [xcells_erase hd.exts ds k HD.out.1 hlt] at hX3
            have hB3 := hb3.set_ 10 (.slice A5 m c5)
            have hgxo := OR.out.at_ gx rfl
            have kall : Keep w (w3.setCell ⟨g, 10, none⟩ (.slice A5 m c5)) (KX w B g) := ((KK.out.nul (KX w B g)).kx_trans (k13.mono (fun i _ e => by have e' : i = gx := e; subst e'; exact ⟨hgxo.1, .inr hgxo.2.2⟩))).kx_trans (kst.kx_g HBG)
            have HS3 := hide hS3
            have HD3 := hide hD3
            have HX3 := hide hX3
            have HB3 := hide hB3
            have KALL := hide kall
            have HLB := hide hlt
            have HMM := hide hm
            clear hO3 hm hml kst hgo3 k13 hbyt hbyt2 hS3 hD3 hX3 hB3 hgxo kall o3 k3 b3 z3 hb3 hHeld f10 g10 t10 x10 x2 hin
            generalize hw5 : World.setCell w3 _ _ = w5 at *
            have y10 := HB3.out.cell 10 (v := .slice A5 m c5) rfl
            have y2 := HB3.out.cell 2 (v := .bool hd.ext) rfl
            have y9 := HB3.out.cell 9 (v := .int .u16 hd.prof) rfl
            have fg := fun i => HB3.out.free i
            have l5 := HB3.out.lt
            have HDE := hide (show delE hd id = some (if (hd.exts.eraseIdx k).length = 0 then { hd with ext := false, prof := 0, exts := [] } else { hd with exts := hd.exts.eraseIdx k }) by unfold delE; rw [if_neg (by rw [HEXT.out]; simp), HFI.out])
            clear hw5
            by_cases hm0 : m = 0
            · have b0 : ((m : Int) == 0) = true := by simp [hm0]
              have HM0 := hide hm0
              clear hm0
              go_wp2_with fail
              (try go_ret)
              have hk9 : Keep w5 ((w5.setCell ⟨g, 2, none⟩ (.bool false)).setCell ⟨g, 9, none⟩ (.int .u16 0)) (· = g) := ((Keep.refl w5 (· = g)).setg 2 (fun _ => rfl) _).setg 9 (fun _ => rfl) _
              have hb9 := (HB3.out.set_ 2 (.bool false)).set_ 9 (.int .u16 0)
              have hx9 := (HX3.out.keep hk9 (fun q hq e => (HX3.out.ne_ HB3.out (by decide)) (e ▸ hq)))
              have hm0 := HM0.out
              subst hm0
              have hxn : xcells (hd.exts.eraseIdx k) (ds.eraseIdx k) = [] := List.eq_nil_of_length_eq_zero (by have := hx9.1; simpa using this)
              rw [hxn] at hx9
              refine ⟨KALL.out.kx_trans (hk9.kx_g HBG), .inl ⟨{ hd with ext := false, prof := 0, exts := [] }, by rw [HDE.out, HML.out, if_pos rfl], rfl, HBG, _, _, [], off, hb9, HS3.out.keep hk9 (fun q hq e => (HS3.out.ne_ HB3.out (by decide)) (e ▸ hq)), hx9, ⟨rfl, by simp⟩⟩⟩
            · have b0 : ((m : Int) == 0) = false := by simpa using hm0
              have HM0 := hide hm0
              clear hm0
              go_wp2_with fail
              (try go_ret)
              refine ⟨KALL.out, .inl ⟨{ hd with exts := hd.exts.eraseIdx k }, by rw [HDE.out, HML.out, if_neg HM0.out], rfl, HBG, _, _, ds.eraseIdx k, off, HB3.out, HS3.out, ?_, HD3.out⟩⟩
              show Own _ B _ 2 _ (hd.exts.eraseIdx k).length _
              rw [HML.out]
              exact HX3.out
          · have hc1 : ¬ cx = k + 1 := hck
            refine wp_region_noPanic ?_
            refine region_last2' (S := fun w' => w'.cell? ⟨g, 10, none⟩ = some (.slice (some ⟨gx, 0, none⟩) hd.exts.length cx)) (by kernel_rfl) (by kernel_rfl) (by simp only [List.dropLast_cons_cons, List.dropLast_singleton]; rfl) (by simp only [List.getLast?_cons_cons, List.getLast?_singleton]; rfl) (t10) (fun hHeld => ?_)
            simp only [List.length_cons, List.length_nil, Nat.reduceAdd, Nat.zero_add]
            refine wpAnyH_take (i := 0) (v := ?_) (by simp only [List.getElem?_toArray, List.getElem?_cons_succ, List.getElem?_cons_zero]; rfl) (by kernel_rfl) (by kernel_rfl) (by kernel_rfl) (fun _ _ _ h => h) (Or.inl ⟨by rfl, ?_⟩) (by assumption) ?_
            rotate_left 1
            · (intro w hSw; (try dsimp only at hSw); go_simp; (try with_reducible rfl))
            try simp only [Act.put, List.setIfInBounds_toArray, List.set_cons_zero, List.set_cons_succ]
            refine wpAnyH_take (i := 1) (v := ?_) (by simp only [List.getElem?_toArray, List.getElem?_cons_succ, List.getElem?_cons_zero]; rfl) (by kernel_rfl) (by kernel_rfl) (by kernel_rfl) (fun _ _ _ h => h) (Or.inl ⟨by rfl, ?_⟩) (by assumption) ?_
            rotate_left 1
            · (intro w hSw; (try dsimp only at hSw); go_simp; (try with_reducible rfl))
            try simp only [Act.put, List.setIfInBounds_toArray, List.set_cons_zero, List.set_cons_succ]
            refine wpAnyH_take (i := 2) (v := ?_) (by simp only [List.getElem?_toArray, List.getElem?_cons_succ, List.getElem?_cons_zero]; rfl) (by kernel_rfl) (by kernel_rfl) (by kernel_rfl) (fun _ _ _ h => h) (Or.inl ⟨by rfl, ?_⟩) (by assumption) ?_
            rotate_left 1
            · (intro w hSw; (try dsimp only at hSw); go_simp; (try with_reducible rfl))
            try simp only [Act.put, List.setIfInBounds_toArray, List.set_cons_zero, List.set_cons_succ]
            refine wpAnyH_take (i := 3) (v := ?_) (by simp only [List.getElem?_toArray, List.getElem?_cons_succ, List.getElem?_cons_zero]; rfl) (by kernel_rfl) (by kernel_rfl) (by kernel_rfl) (fun _ _ _ h => h) (Or.inl ⟨by rfl, ?_⟩) (by assumption) ?_
            rotate_left 1
            · (intro w hSw; (try dsimp only at hSw); go_simp; (try with_reducible rfl))
            try simp only [Act.put, List.setIfInBounds_toArray, List.set_cons_zero, List.set_cons_succ]
            refine wpAnyH_take (i := 4) (v := ?_) (by simp only [List.getElem?_toArray, List.getElem?_cons_succ, List.getElem?_cons_zero]; rfl) (by kernel_rfl) (by kernel_rfl) (by kernel_rfl) (fun _ _ _ h => h) (Or.inl ⟨by rfl, ?_⟩) (by assumption) ?_
            rotate_left 1
            · (intro w hSw; (try dsimp only at hSw); go_simp; (try with_reducible rfl))
            try simp only [Act.put, List.setIfInBounds_toArray, List.set_cons_zero, List.set_cons_succ]
            refine wpAnyH_take (i := 5) (v := ?_) (by simp only [List.getElem?_toArray, List.getElem?_cons_succ, List.getElem?_cons_zero]; rfl) (by kernel_rfl) (by kernel_rfl) (by kernel_rfl) (fun _ _ _ h => h) (Or.inl ⟨by rfl, ?_⟩) (by assumption) ?_
            rotate_left 1
            · (intro w hSw; (try dsimp only at hSw); go_simp; (try with_reducible rfl))
            try simp only [Act.put, List.setIfInBounds_toArray, List.set_cons_zero, List.set_cons_succ]
            refine wpAnyH_take (i := 6) (v := ?_) (by simp only [List.getElem?_toArray, List.getElem?_cons_succ, List.getElem?_cons_zero]; rfl) (by kernel_rfl) (by kernel_rfl) (by kernel_rfl) (fun _ _ _ h => h) (Or.inl ⟨by rfl, ?_⟩) (by assumption) ?_
            rotate_left 1
            · (intro w hSw; (try dsimp only at hSw); go_simp; (try with_reducible rfl))
            try simp only [Act.put, List.setIfInBounds_toArray, List.set_cons_zero, List.set_cons_succ]
            refine wpAnyH_take (i := 7) (v := ?_) (by simp only [List.getElem?_toArray, List.getElem?_cons_succ, List.getElem?_cons_zero]; rfl) (by kernel_rfl) (by kernel_rfl) (by kernel_rfl) (fun _ _ _ h => h) (Or.inl ⟨by rfl, ?_⟩) (by assumption) ?_
            rotate_left 1
            · (intro w hSw; (try dsimp only at hSw); go_simp; (try with_reducible rfl))
            try simp only [Act.put, List.setIfInBounds_toArray, List.set_cons_zero, List.set_cons_succ]
            refine wpAnyH_take (i := 8) (v := ?_) (by simp only [List.getElem?_toArray, List.getElem?_cons_succ, List.getElem?_cons_zero]; rfl) (by kernel_rfl) (by kernel_rfl) (by kernel_rfl) (fun _ _ _ h => h) (Or.inl ⟨by rfl, ?_⟩) (by assumption) ?_
            rotate_left 1
            · (intro w hSw; (try dsimp only at hSw); go_simp; (try with_reducible rfl))
            try simp only [Act.put, List.setIfInBounds_toArray, List.set_cons_zero, List.set_cons_succ]
            refine wpAnyH_take (i := 9) (v := ?_) (by simp only [List.getElem?_toArray, List.getElem?_cons_succ, List.getElem?_cons_zero]; rfl) (by kernel_rfl) (by kernel_rfl) (by kernel_rfl) (fun _ _ _ h => h) (Or.inl ⟨by rfl, ?_⟩) (by assumption) ?_
            rotate_left 1
            · (intro w hSw; (try dsimp only at hSw); go_simp; (try with_reducible rfl))
            try simp only [Act.put, List.setIfInBounds_toArray, List.set_cons_zero, List.set_cons_succ]
            refine wpAnyH_take (i := 10) (v := ?_) (by simp only [List.getElem?_toArray, List.getElem?_cons_succ, List.getElem?_cons_zero]; rfl) (by kernel_rfl) (by kernel_rfl) (by kernel_rfl) (fun _ _ _ h => h) (Or.inl ⟨by rfl, ?_⟩) (by assumption) ?_
            rotate_left 1
            · (intro w hSw; (try dsimp only at hSw); go_simp; (try with_reducible rfl))
            try simp only [Act.put, List.setIfInBounds_toArray, List.set_cons_zero, List.set_cons_succ]
            refine wpAnyH_take (i := 11) (v := ?_) (by simp only [List.getElem?_toArray, List.getElem?_cons_succ, List.getElem?_cons_zero]; rfl) (by kernel_rfl) (by kernel_rfl) (by kernel_rfl) (fun _ _ _ h => h) (Or.inl ⟨by rfl, ?_⟩) (by assumption) ?_
            rotate_left 1
            · (intro w hSw; (try dsimp only at hSw); go_simp; (try with_reducible rfl))
            try simp only [Act.put, List.setIfInBounds_toArray, List.set_cons_zero, List.set_cons_succ]
            refine wpAnyH_take (i := 12) (v := ?_) (by simp only [List.getElem?_toArray, List.getElem?_cons_succ, List.getElem?_cons_zero]; rfl) (by kernel_rfl) (by kernel_rfl) (by kernel_rfl) (fun _ _ _ h => h) (Or.inl ⟨by rfl, ?_⟩) (by assumption) ?_
            rotate_left 1
            · (intro w hSw; (try dsimp only at hSw); go_simp; (try with_reducible rfl))
            try simp only [Act.put, List.setIfInBounds_toArray, List.set_cons_zero, List.set_cons_succ]
            refine wpAnyH_take (i := 13) (v := ?_) (by simp only [List.getElem?_toArray, List.getElem?_cons_succ, List.getElem?_cons_zero]; rfl) (by kernel_rfl) (by kernel_rfl) (by kernel_rfl) (fun _ _ _ h => h) (Or.inl ⟨by rfl, ?_⟩) (by assumption) ?_
            rotate_left 1
            · (intro w hSw; (try dsimp only at hSw); go_simp; (try with_reducible rfl))
            try simp only [Act.put, List.setIfInBounds_toArray, List.set_cons_zero, List.set_cons_succ]
            refine wpAnyH_ready (rs := [14]) (by kernel_rfl) (by simp) ?_
            refine AllReadyH.cons (by simp only [List.getElem?_toArray, List.getElem?_cons_succ, List.getElem?_cons_zero]; rfl) (fun K hK => ?_) AllReadyH.nil
            refine step_app etX (by rfl) _ _ (by rfl) ((O4.out.keep0 ((Keep.refl w4 Nul).drew)).take k hk) (by rfl) (src_of_rd (P := Tryd.prog) w4.drew Tryd.underlying106 ((O4.out.keep0 ((Keep.refl w4 Nul).drew)).from_ (k + 1) i6 (some ⟨gx, (k + 1) * 2, none⟩) (fun _ => rfl) (by simp)) (fun u hu => xcells_one _ _ HD.out u (List.mem_of_mem_drop hu))) (by rfl) (by simp only [maxLen]; omega) (by omega) (by have : w4.heap.size ≤ w4.drew.heap.size := Nat.le_refl _; omega) ?_
            intro v3 w3 o3 k3 b3 z3 _
            have hb3 := B4.out.drew.keep k3 (fun e => HNX.out e)
            have f10 := hb3.free 10
            have g10 := hb3.cell 10 (v := .slice (some ⟨gx, 0, none⟩) hd.exts.length cx) rfl
            have l3 := hb3.lt
            obtain ⟨A5, c5, rfl⟩ := o3.rd.shape
            refine hK.out _ _ (hb3.cell 10 rfl) (fun hHeld => ?_)
            clear hK K
            try simp only [Act.put, List.setIfInBounds_toArray, List.set_cons_zero, List.set_cons_succ]
            refine wpAnyH_take (i := 15) (v := ?_) (by simp only [List.getElem?_toArray, List.getElem?_cons_succ, List.getElem?_cons_zero]; rfl) (by kernel_rfl) (by kernel_rfl) (by kernel_rfl) (fun _ _ _ h => h) (Or.inl ⟨by rfl, ?_⟩) (by assumption) ?_
            rotate_left 1
            · (intro w hSw; (try dsimp only at hSw); go_simp; (try with_reducible rfl))
            try simp only [Act.put, List.setIfInBounds_toArray, List.set_cons_zero, List.set_cons_succ]
            refine wpAnyH_take (i := 16) (v := ?_) (by simp only [List.getElem?_toArray, List.getElem?_cons_succ, List.getElem?_cons_zero]; rfl) (by kernel_rfl) (by kernel_rfl) (by kernel_rfl) (fun _ _ _ h => h) (Or.inl ⟨by rfl, ?_⟩) (by assumption) ?_
            rotate_left 1
            · (intro w hSw; (try dsimp only at hSw); go_simp; (try with_reducible rfl))
            try simp only [Act.put, List.setIfInBounds_toArray, List.set_cons_zero, List.set_cons_succ]
            refine wpAnyH_done (by kernel_rfl) ?_ _
            intro K hK
            go_simp
            refine hK _ _ (NoPanic.normal ?_)
            clear hK K
            have hO3 := o3
            have K3 := hide k3
            obtain ⟨m, hm⟩ : ∃ m, m = k + (hd.exts.length - (k + 1)) := ⟨_, rfl⟩
            rw [← hm] at hO3 ⊢
            have hml : (hd.exts.eraseIdx k).length = m := by rw [List.length_eraseIdx, if_pos hlt]; omega
            have HML := hide hml
            have hin := HO.out.1
            have kst : Keep w3 (w3.setCell ⟨g, 10, none⟩ (.slice A5 m c5)) (· = g) := Keep.set1 _ _ _ _
            have hgo3 : ∀ q, (Value.slice A5 m c5).ownBlock = some q → ¬ q = g := fun q hq e => (hO3.ne_ hb3 (by decide)) (e ▸ hq)
            have k13 : Keep wr w3 (fun q => q = gx) := ((K4.out.nul (fun q => q = gx)).drew).trans K3.out (fun i _ e => by have : (Value.slice (some ⟨gx, 0, none⟩) k cx).ownBlock = some i := e; simp [Value.ownBlock] at this; omega)
            have hbyt : ∀ q, Byt wr B q → ¬ q = gx := fun q hq e => hq.ne_own OR.out (by decide) (by rw [e]; rfl)
            have hbyt2 : ∀ q, Byt w3 B q → ¬ q = g := fun q hq e => hq.ne_blk hb3 (by decide) e
            have hS3 := (((HS.out.keep0 KK.out).keep k13 (fun q hq e => (OR.out.ne_own (HS.out.keep0 KK.out) (by decide) (g := q) (by have : q = gx := e; rw [this]; rfl)) hq)).keep kst (fun q hq e => ((HS.out.ne_ HB.out (by decide)) (e ▸ hq))))
            have hD3 := ((((HD.out.byt KK.out (fun _ _ e => e)).byt k13 hbyt).byt kst hbyt2).erase k)
            have hX3 := hO3.keep kst hgo3
            rw [xcells_erase hd.exts ds k HD.out.1 hlt] at hX3
            have hB3 := hb3.set_ 10 (.slice A5 m c5)
            have hgxo := OR.out.at_ gx rfl
            have kall : Keep w (w3.setCell ⟨g, 10, none⟩ (.slice A5 m c5)) (KX w B g) := ((KK.out.nul (KX w B g)).kx_trans (k13.mono (fun i _ e => by have e' : i = gx := e; subst e'; exact ⟨hgxo.1, .inr hgxo.2.2⟩))).kx_trans (kst.kx_g HBG)
            have HS3 := hide hS3
            have HD3 := hide hD3
            have HX3 := hide hX3
            have HB3 := hide hB3
            have KALL := hide kall
            have HLB := hide hlt
            have HMM := hide hm
            clear hO3 hm hml kst hgo3 k13 hbyt hbyt2 hS3 hD3 hX3 hB3 hgxo kall o3 k3 b3 z3 hb3 hHeld f10 g10 t10 x10 x2 hin
            generalize hw5 : World.setCell w3 _ _ = w5 at *
            have y10 := HB3.out.cell 10 (v := .slice A5 m c5) rfl
            have y2 := HB3.out.cell 2 (v := .bool hd.ext) rfl
            have y9 := HB3.out.cell 9 (v := .int .u16 hd.prof) rfl
            have fg := fun i => HB3.out.free i
            have l5 := HB3.out.lt
            have HDE := hide (show delE hd id = some (if (hd.exts.eraseIdx k).length = 0 then { hd with ext := false, prof := 0, exts := [] } else { hd with exts := hd.exts.eraseIdx k }) by unfold delE; rw [if_neg (by rw [HEXT.out]; simp), HFI.out])
            clear hw5
            by_cases hm0 : m = 0
            · have b0 : ((m : Int) == 0) = true := by simp [hm0]
              have HM0 := hide hm0
              clear hm0
              go_wp2_with fail
              (try go_ret)
              have hk9 : Keep w5 ((w5.setCell ⟨g, 2, none⟩ (.bool false)).setCell ⟨g, 9, none⟩ (.int .u16 0)) (· = g) := ((Keep.refl w5 (· = g)).setg 2 (fun _ => rfl) _).setg 9 (fun _ => rfl) _
              have hb9 := (HB3.out.set_ 2 (.bool false)).set_ 9 (.int .u16 0)
              have hx9 := (HX3.out.keep hk9 (fun q hq e => (HX3.out.ne_ HB3.out (by decide)) (e ▸ hq)))
              have hm0 := HM0.out
              subst hm0
              have hxn : xcells (hd.exts.eraseIdx k) (ds.eraseIdx k) = [] := List.eq_nil_of_length_eq_zero (by have := hx9.1; simpa using this)
              rw [hxn] at hx9
              refine ⟨KALL.out.kx_trans (hk9.kx_g HBG), .inl ⟨{ hd with ext := false, prof := 0, exts := [] }, by rw [HDE.out, HML.out, if_pos rfl], rfl, HBG, _, _, [], off, hb9, HS3.out.keep hk9 (fun q hq e => (HS3.out.ne_ HB3.out (by decide)) (e ▸ hq)), hx9, ⟨rfl, by simp⟩⟩⟩
            · have b0 : ((m : Int) == 0) = false := by simpa using hm0
              have HM0 := hide hm0
              clear hm0
              go_wp2_with fail
              (try go_ret)
              refine ⟨KALL.out, .inl ⟨{ hd with exts := hd.exts.eraseIdx k }, by rw [HDE.out, HML.out, if_neg HM0.out], rfl, HBG, _, _, ds.eraseIdx k, off, HB3.out, HS3.out, ?_, HD3.out⟩⟩
              show Own _ B _ 2 _ (hd.exts.eraseIdx k).length _
              rw [HML.out]
              exact HX3.out
        · have s1 : (x.id == id) = false := by simpa using hid
          have HID := hide hid
          clear hid
          go_wp2_with fail
          go_roundw
          case rel =>
            refine ⟨k + 1, by omega, by go_num, fun y hy => ?_, KK.out.alloc _⟩
            obtain ⟨hk', e⟩ := List.getElem?_eq_some_iff.1 HXK.out
            rw [List.take_succ_eq_append_getElem hk', e] at hy
            rcases List.mem_append.1 hy with hy | hy
            · exact HNE.out y hy
            · simp at hy
              rw [hy]; exact HID.out
          case measure => simp [intOf]; omega
      · obtain rfl : k = hd.exts.length := by omega
        have HDE := hide (show delE hd id = none by unfold delE; rw [if_neg (by rw [HEXT.out]; simp), fi_none HNE.out (Nat.le_refl _)])
        have he2 := KK.out.cell (fun e => e) HE2.out
        have hPr : RP wr B g hd := by
          obtain ⟨hBg, sv, xv, ds, off, hB, hS, hO, hD⟩ := HP.out
          exact ⟨hBg, sv, xv, ds, off, hB.keep hK (fun e => e), hS.keep0 hK, hO.keep0 hK, hD.byt hK (fun _ _ e => e)⟩
        have HPr := hide hPr
        clear hne hK hPr
        go_wp2_with fail
        (try go_ret)
        exact ⟨KK.out.nul _, .inr ⟨HDE.out, ⟨_, _, rfl⟩, HPr.out⟩⟩
end Go.Proofs.YtdmnflngafbobaaDoor
