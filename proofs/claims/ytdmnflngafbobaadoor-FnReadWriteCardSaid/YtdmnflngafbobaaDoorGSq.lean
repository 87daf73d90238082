/-
  The reference's read of a packet: its ways out. Conditions: those that stand in each theorem.
-/
import Derived.Test.YtdmnflngafbobaaDoorGSp
import Derived.Test.YtdmnflngafbobaaDoorRok
namespace Go.Proofs.YtdmnflngafbobaaDoor
open Go.RowKit
set_option linter.unusedVariables false
set_option linter.unusedSimpArgs false
set_option maxRecDepth 100000

set_option maxHeartbeats 1600000 in
theorem sp_r3 {g : Nat} {v : Int} {post : Ending → World → Prop} {Q : Exit → Act → World → Prop} (hq : ∀ a w, bodyPost Tryd.prog Tryd.f28 post .ret a w → Q .ret a w) (w : World) (u0 u1 u3 u4 u5 u7 u8 u9 u10 u11 u12 u13 u14 u15 u16 u17 u18 u19 u20 u21 u22 u23 u24 u25 u26 u27 u28 u29 u30 u31 u32 u33 u34 u35 u36 u37 u38 u39 u40 u41 u42 u43 u44 u45 u46 u47 u48 u49 u50 u51 u52 u53 u54 : Value) (hB : Blk w g 40 (kcells hd0 (.slice none 0 0) (.slice none 0 0) (.slice none 0 0)))
    (hp : ∀ w', Keep w w' (· = g) → post (.returned (.tuple #[.agg (kcells hd0 (.slice none 0 0) (.slice none 0 0) (.slice none 0 0)), .int .i64 v])) w') :
    Part Tryd.prog Tryd.f28 3 Q ⟨List.toArray (u0 :: u1 :: .pointer (some ⟨g, 0, none⟩) :: u3 :: u4 :: u5 :: .int .i64 v :: u7 :: u8 :: u9 :: u10 :: u11 :: u12 :: u13 :: u14 :: u15 :: u16 :: u17 :: u18 :: u19 :: u20 :: u21 :: u22 :: u23 :: u24 :: u25 :: u26 :: u27 :: u28 :: u29 :: u30 :: u31 :: u32 :: u33 :: u34 :: u35 :: u36 :: u37 :: u38 :: u39 :: u40 :: u41 :: u42 :: u43 :: u44 :: u45 :: u46 :: u47 :: u48 :: u49 :: u50 :: u51 :: u52 :: u53 :: u54 :: []), []⟩ w := by
  have HB := hide hB
  have HP := hide hp
  have HQ := hide hq
  clear hB hp hq
  refine part_open (fun c hc K hK => ?_)
  conv at hc => rhs; whnf
  subst hc
  dsimp only [xOf, yOf] at hK ⊢
  go_wp2_with (refine wpList_stRow rfl _ _ rfl rfl rfl HB.out (by kernel_rfl) rfl (by simp [Value.oneCell']) ?_; intro w2 hb2 hk2; have HB2 := hide hb2; have HK2 := hide hk2; clear hb2 hk2)
  obtain ⟨y0, y1, y2, y3, y4, y5, y6, y7, y8, y9, y10, y11, y12⟩ := kc13 (show Blk w2 g 40 (kcells hd0 (.slice none 0 0) (.slice none 0 0) (.slice none 0 0)) from HB2.out)
  refine HQ.out _ _ ?_
  refine bodyPost_ret (v := .tuple #[.agg (kcells hd0 (.slice none 0 0) (.slice none 0 0) (.slice none 0 0)), .int .i64 v]) (by unfold kcells hd0 at *; simp [results, Tryd.results28, go_sem, y0, y1, y2, y3, y4, y5, y6, y7, y8, y9, y10, y11, y12]) rfl ?_
  exact HP.out _ HK2.out

set_option maxHeartbeats 1600000 in
theorem sp_r7 {g : Nat} {post : Ending → World → Prop} {Q : Exit → Act → World → Prop} (hq : ∀ a w, bodyPost Tryd.prog Tryd.f28 post .ret a w → Q .ret a w) (w : World) (u0 u1 u3 u4 u5 u6 u7 u8 u9 u10 u11 u12 u13 u14 u15 u16 u17 u18 u19 u20 u21 u22 u23 u24 u25 u26 u27 u28 u29 u30 u31 u32 u33 u34 u35 u36 u37 u38 u39 u40 u41 u42 u43 u44 u45 u46 u47 u48 u49 u50 u51 u52 u53 u54 : Value) (hB : Blk w g 40 (kcells hd0 (.slice none 0 0) (.slice none 0 0) (.slice none 0 0)))
    (hp : ∀ w', Keep w w' (· = g) → post (.returned (.tuple #[.agg (kcells hd0 (.slice none 0 0) (.slice none 0 0) (.slice none 0 0)), .int .i64 1])) w') :
    Part Tryd.prog Tryd.f28 7 Q ⟨List.toArray (u0 :: u1 :: .pointer (some ⟨g, 0, none⟩) :: u3 :: u4 :: u5 :: u6 :: u7 :: u8 :: u9 :: u10 :: u11 :: u12 :: u13 :: u14 :: u15 :: u16 :: u17 :: u18 :: u19 :: u20 :: u21 :: u22 :: u23 :: u24 :: u25 :: u26 :: u27 :: u28 :: u29 :: u30 :: u31 :: u32 :: u33 :: u34 :: u35 :: u36 :: u37 :: u38 :: u39 :: u40 :: u41 :: u42 :: u43 :: u44 :: u45 :: u46 :: u47 :: u48 :: u49 :: u50 :: u51 :: u52 :: u53 :: u54 :: []), []⟩ w := by
  have HB := hide hB
  have HP := hide hp
  have HQ := hide hq
  clear hB hp hq
  refine part_open (fun c hc K hK => ?_)
  conv at hc => rhs; whnf
  subst hc
  dsimp only [xOf, yOf] at hK ⊢
  go_wp2_with (refine wpList_stRow rfl _ _ rfl rfl rfl HB.out (by kernel_rfl) rfl (by simp [Value.oneCell']) ?_; intro w2 hb2 hk2; have HB2 := hide hb2; have HK2 := hide hk2; clear hb2 hk2)
  obtain ⟨y0, y1, y2, y3, y4, y5, y6, y7, y8, y9, y10, y11, y12⟩ := kc13 (show Blk w2 g 40 (kcells hd0 (.slice none 0 0) (.slice none 0 0) (.slice none 0 0)) from HB2.out)
  refine HQ.out _ _ ?_
  refine bodyPost_ret (v := .tuple #[.agg (kcells hd0 (.slice none 0 0) (.slice none 0 0) (.slice none 0 0)), .int .i64 1]) (by unfold kcells hd0 at *; simp [results, Tryd.results28, go_sem, y0, y1, y2, y3, y4, y5, y6, y7, y8, y9, y10, y11, y12]) rfl ?_
  exact HP.out _ HK2.out

set_option maxHeartbeats 1600000 in
theorem sp_r10 {g : Nat} {post : Ending → World → Prop} {Q : Exit → Act → World → Prop} (hq : ∀ a w, bodyPost Tryd.prog Tryd.f28 post .ret a w → Q .ret a w) (w : World) (u0 u1 u3 u4 u5 u6 u7 u8 u9 u10 u11 u12 u13 u14 u15 u16 u17 u18 u19 u20 u21 u22 u23 u24 u25 u26 u27 u28 u29 u30 u31 u32 u33 u34 u35 u36 u37 u38 u39 u40 u41 u42 u43 u44 u45 u46 u47 u48 u49 u50 u51 u52 u53 u54 : Value) (hB : Blk w g 40 (kcells hd0 (.slice none 0 0) (.slice none 0 0) (.slice none 0 0)))
    (hp : ∀ w', Keep w w' (· = g) → post (.returned (.tuple #[.agg (kcells hd0 (.slice none 0 0) (.slice none 0 0) (.slice none 0 0)), .int .i64 2])) w') :
    Part Tryd.prog Tryd.f28 10 Q ⟨List.toArray (u0 :: u1 :: .pointer (some ⟨g, 0, none⟩) :: u3 :: u4 :: u5 :: u6 :: u7 :: u8 :: u9 :: u10 :: u11 :: u12 :: u13 :: u14 :: u15 :: u16 :: u17 :: u18 :: u19 :: u20 :: u21 :: u22 :: u23 :: u24 :: u25 :: u26 :: u27 :: u28 :: u29 :: u30 :: u31 :: u32 :: u33 :: u34 :: u35 :: u36 :: u37 :: u38 :: u39 :: u40 :: u41 :: u42 :: u43 :: u44 :: u45 :: u46 :: u47 :: u48 :: u49 :: u50 :: u51 :: u52 :: u53 :: u54 :: []), []⟩ w := by
  have HB := hide hB
  have HP := hide hp
  have HQ := hide hq
  clear hB hp hq
  refine part_open (fun c hc K hK => ?_)
  conv at hc => rhs; whnf
  subst hc
  dsimp only [xOf, yOf] at hK ⊢
  go_wp2_with (refine wpList_stRow rfl _ _ rfl rfl rfl HB.out (by kernel_rfl) rfl (by simp [Value.oneCell']) ?_; intro w2 hb2 hk2; have HB2 := hide hb2; have HK2 := hide hk2; clear hb2 hk2)
  obtain ⟨y0, y1, y2, y3, y4, y5, y6, y7, y8, y9, y10, y11, y12⟩ := kc13 (show Blk w2 g 40 (kcells hd0 (.slice none 0 0) (.slice none 0 0) (.slice none 0 0)) from HB2.out)
  refine HQ.out _ _ ?_
  refine bodyPost_ret (v := .tuple #[.agg (kcells hd0 (.slice none 0 0) (.slice none 0 0) (.slice none 0 0)), .int .i64 2]) (by unfold kcells hd0 at *; simp [results, Tryd.results28, go_sem, y0, y1, y2, y3, y4, y5, y6, y7, y8, y9, y10, y11, y12]) rfl ?_
  exact HP.out _ HK2.out

set_option maxHeartbeats 1600000 in
theorem sp_r12 {g : Nat} {post : Ending → World → Prop} {Q : Exit → Act → World → Prop} (hq : ∀ a w, bodyPost Tryd.prog Tryd.f28 post .ret a w → Q .ret a w) (w : World) (u0 u1 u3 u4 u5 u6 u7 u8 u9 u10 u11 u12 u13 u14 u15 u16 u17 u18 u19 u20 u21 u22 u23 u24 u25 u26 u27 u28 u29 u30 u31 u32 u33 u34 u35 u36 u37 u38 u39 u40 u41 u42 u43 u44 u45 u46 u47 u48 u49 u50 u51 u52 u53 u54 : Value) (hB : Blk w g 40 (kcells hd0 (.slice none 0 0) (.slice none 0 0) (.slice none 0 0)))
    (hp : ∀ w', Keep w w' (· = g) → post (.returned (.tuple #[.agg (kcells hd0 (.slice none 0 0) (.slice none 0 0) (.slice none 0 0)), .int .i64 1])) w') :
    Part Tryd.prog Tryd.f28 12 Q ⟨List.toArray (u0 :: u1 :: .pointer (some ⟨g, 0, none⟩) :: u3 :: u4 :: u5 :: u6 :: u7 :: u8 :: u9 :: u10 :: u11 :: u12 :: u13 :: u14 :: u15 :: u16 :: u17 :: u18 :: u19 :: u20 :: u21 :: u22 :: u23 :: u24 :: u25 :: u26 :: u27 :: u28 :: u29 :: u30 :: u31 :: u32 :: u33 :: u34 :: u35 :: u36 :: u37 :: u38 :: u39 :: u40 :: u41 :: u42 :: u43 :: u44 :: u45 :: u46 :: u47 :: u48 :: u49 :: u50 :: u51 :: u52 :: u53 :: u54 :: []), []⟩ w := by
  have HB := hide hB
  have HP := hide hp
  have HQ := hide hq
  clear hB hp hq
  refine part_open (fun c hc K hK => ?_)
  conv at hc => rhs; whnf
  subst hc
  dsimp only [xOf, yOf] at hK ⊢
  go_wp2_with (refine wpList_stRow rfl _ _ rfl rfl rfl HB.out (by kernel_rfl) rfl (by simp [Value.oneCell']) ?_; intro w2 hb2 hk2; have HB2 := hide hb2; have HK2 := hide hk2; clear hb2 hk2)
  obtain ⟨y0, y1, y2, y3, y4, y5, y6, y7, y8, y9, y10, y11, y12⟩ := kc13 (show Blk w2 g 40 (kcells hd0 (.slice none 0 0) (.slice none 0 0) (.slice none 0 0)) from HB2.out)
  refine HQ.out _ _ ?_
  refine bodyPost_ret (v := .tuple #[.agg (kcells hd0 (.slice none 0 0) (.slice none 0 0) (.slice none 0 0)), .int .i64 1]) (by unfold kcells hd0 at *; simp [results, Tryd.results28, go_sem, y0, y1, y2, y3, y4, y5, y6, y7, y8, y9, y10, y11, y12]) rfl ?_
  exact HP.out _ HK2.out

set_option maxHeartbeats 1600000 in
theorem sp_r14 {h : Hd} {g gh n1 c1 n2 c2 n3 c3 : Nat} {A1 A2 A3 : Option Addr} {post : Ending → World → Prop} {Q : Exit → Act → World → Prop} (hq : ∀ a w, bodyPost Tryd.prog Tryd.f28 post .ret a w → Q .ret a w) (w : World) (u1 u3 u5 u6 u7 u8 u9 u10 u11 u12 u13 u14 u15 u16 u17 u18 u19 u20 u21 u22 u23 u24 u25 u26 u27 u28 u29 u30 u31 u32 u33 u34 u35 u36 u37 u38 u39 u40 u41 u42 u43 u44 u45 u46 u47 u48 u49 u50 u51 u52 u53 u54 : Value) (hB : Blk w g 40 (kcells hd0 (.slice none 0 0) (.slice none 0 0) (.slice none 0 0))) (hH : Blk w gh 27 (hcells h (.slice A1 n1 c1) (.slice A2 n2 c2)))
    (hp : ∀ w', Keep w w' (· = g) → post (.returned (.tuple #[.agg (kcells h (.slice A1 n1 c1) (.slice A2 n2 c2) (.slice A3 n3 c3)), .int .i64 0])) w') :
    Part Tryd.prog Tryd.f28 14 Q ⟨List.toArray (.slice A3 n3 c3 :: u1 :: .pointer (some ⟨g, 0, none⟩) :: u3 :: .pointer (some ⟨gh, 0, none⟩) :: u5 :: u6 :: u7 :: u8 :: u9 :: u10 :: u11 :: u12 :: u13 :: u14 :: u15 :: u16 :: u17 :: u18 :: u19 :: u20 :: u21 :: u22 :: u23 :: u24 :: u25 :: u26 :: u27 :: u28 :: u29 :: u30 :: u31 :: u32 :: u33 :: u34 :: u35 :: u36 :: u37 :: u38 :: u39 :: u40 :: u41 :: u42 :: u43 :: u44 :: u45 :: u46 :: u47 :: u48 :: u49 :: u50 :: u51 :: u52 :: u53 :: u54 :: []), []⟩ w := by
  have HB := hide hB
  have HP := hide hp
  have HQ := hide hq
  obtain ⟨x0, x1, x2, x3, x4, x5, x6, x7, x8, x9, x10, x11⟩ := hc12 hH
  clear hB hp hq hH
  refine part_open (fun c hc K hK => ?_)
  conv at hc => rhs; whnf
  subst hc
  dsimp only [xOf, yOf] at hK ⊢
  go_wp2_with (refine wpList_stRow rfl _ _ rfl rfl rfl HB.out (by kernel_rfl) rfl (by simp [Value.oneCell']) ?_; intro w2 hb2 hk2; have HB2 := hide hb2; have HK2 := hide hk2; clear hb2 hk2)
  obtain ⟨y0, y1, y2, y3, y4, y5, y6, y7, y8, y9, y10, y11, y12⟩ := kc13 (show Blk w2 g 40 (kcells h (.slice A1 n1 c1) (.slice A2 n2 c2) (.slice A3 n3 c3)) from HB2.out)
  clear x0 x1 x2 x3 x4 x5 x6 x7 x8 x9 x10 x11
  refine HQ.out _ _ ?_
  refine bodyPost_ret (v := .tuple #[.agg (kcells h (.slice A1 n1 c1) (.slice A2 n2 c2) (.slice A3 n3 c3)), .int .i64 0]) (by unfold kcells; simp [results, Tryd.results28, go_sem, y0, y1, y2, y3, y4, y5, y6, y7, y8, y9, y10, y11, y12]) rfl ?_
  exact HP.out _ HK2.out
end Go.Proofs.YtdmnflngafbobaaDoor
namespace Go.Proofs.YtdmnflngafbobaaDoor
open Go.RowKit
set_option linter.unusedVariables false
set_option linter.unusedSimpArgs false
set_option maxRecDepth 100000

/-- What the reference's read of a packet leaves. -/
def RpPost (bs : List Int) (w0 : World) (e : Ending) (w' : World) : Prop :=
  Keep w0 w' Nul ∧ ((readP bs = .bad ∧ e = .returned (.tuple #[.agg (kcells hd0 (.slice none 0 0) (.slice none 0 0) (.slice none 0 0)), .int .i64 1])) ∨ (readP bs = .wide ∧ e = .returned (.tuple #[.agg (kcells hd0 (.slice none 0 0) (.slice none 0 0) (.slice none 0 0)), .int .i64 2])) ∨
    (∃ (h : Hd) (pay : List Int) (A1 : Option Addr) (n1 c1 : Nat) (A2 : Option Addr) (n2 c2 : Nat) (A3 : Option Addr) (c3 : Nat), readP bs = .good h pay ∧ e = .returned (.tuple #[.agg (kcells h (.slice A1 n1 c1) (.slice A2 n2 c2) (.slice A3 pay.length c3)), .int .i64 0]) ∧ PV w' (fun _ => True) (.agg (kcells h (.slice A1 n1 c1) (.slice A2 n2 c2) (.slice A3 pay.length c3))) h pay))

set_option maxHeartbeats 3200000 in
theorem rp_walk {p : Nat → Prop} {bs : List Int} {n c : Nat} {A : Option Addr} (w0 : World) (hR : Rd w0 p 1 (.slice A n c) n (B8 bs)) (hI : IsB bs) (hnm : n ≤ 2147483647) :
    Calls Tryd.prog 28 #[.slice A n c] w0 (RpPost bs w0) := by
  replace hR := hR.mono (q := (· < w0.heap.size)) (fun k hk _ => hk)
  have HR := hide hR
  have HI := hide hI
  have hl : bs.length = n := by have := hR.len; rwa [B8_len] at this
  have HL := hide hl
  clear hI hl hR
  go_enter Tryd.func28, Tryd.ntmps28
  go_upto_region 1 with fail
  generalize hw1 : World.alloc w0 _ = w1
  have B1 := hide (show Blk w1 w0.heap.size 40 (kcells hd0 (.slice none 0 0) (.slice none 0 0) (.slice none 0 0)) by subst hw1; exact Blk.new w0 _ _)
  have K1 := hide (show Keep w0 w1 Nul by subst hw1; exact (Keep.refl w0 Nul).alloc _)
  have hz1 : w1.heap.size = w0.heap.size + 1 := by subst hw1; simp [World.size_alloc]
  clear hw1
  have hRh := hide (rh_walk w1 (HR.out.keep0 K1.out) HI.out hnm)
  go_wp2_with fail
  refine (hRh.out).mono ?_
  rintro e w2 ⟨k2, h, A1, n1, c1, A2, n2, c2, m, vd, rfl, hcase⟩
  have B2 := hide (B1.out.keep k2 id)
  have K2 := hide (K1.out.trans0 k2)
  have hz2 := k2.size
  clear k2 hRh
  have KE := hide (show ∀ w w', Keep w0 w Nul → Keep w w' (fun i => i = w0.heap.size ∨ w2.heap.size ≤ i) → Keep w0 w' Nul from fun w w' k k' => k.trans k' (fun i hi e => by omega))
  rcases hcase with ⟨hb, rfl⟩ | ⟨hb, rfl⟩ | ⟨mm, hb, rfl, rfl, hv⟩
  · have HB := hide (show readP bs = .bad by unfold readP; rw [hb])
    clear hb
    unfold hcells
    go_upto_region 3 with (refine wpList_stA rfl _ _ rfl rfl rfl (by kernel_rfl) rfl (by simp [Value.oneCell']) ?_)
    refine part_use (sp_r3 (post := RpPost bs w0) (by intro _ _ h; exact h) _ _ _ _ _ _ _ _ _ _ _ _ _ _ _ _ _ _ _ _ _ _ _ _ _ _ _ _ _ _ _ _ _ _ _ _ _ _ _ _ _ _ _ _ _ _ _ _ _ _ _ _ _ _ (B2.out.alloc _) (fun w' k => ⟨KE.out _ w' (K2.out.alloc _) (k.mono (fun i _ e => .inl e)), .inl ⟨HB.out, rfl⟩⟩)) rfl rfl (by assumption)
  · have HB := hide (show readP bs = .wide by unfold readP; rw [hb])
    clear hb
    unfold hcells
    go_upto_region 3 with (refine wpList_stA rfl _ _ rfl rfl rfl (by kernel_rfl) rfl (by simp [Value.oneCell']) ?_)
    refine part_use (sp_r3 (post := RpPost bs w0) (by intro _ _ h; exact h) _ _ _ _ _ _ _ _ _ _ _ _ _ _ _ _ _ _ _ _ _ _ _ _ _ _ _ _ _ _ _ _ _ _ _ _ _ _ _ _ _ _ _ _ _ _ _ _ _ _ _ _ _ _ (B2.out.alloc _) (fun w' k => ⟨KE.out _ w' (K2.out.alloc _) (k.mono (fun i _ e => .inl e)), .inr (.inl ⟨HB.out, rfl⟩)⟩)) rfl rfl (by assumption)
  · obtain ⟨hhs, hmn, h12, hp0⟩ := hsSpec HI.out _ _ hb
    have HG := hide hb
    have hmn2 : mm ≤ n := by have := HL.out; omega
    obtain ⟨b, o, c', hv', q1, q2, q3, q4, -⟩ := HR.out.lit (by omega)
    injection hv' with e1 _ e3
    subst e1 e3
    have HP0 := hide hp0
    obtain ⟨s1, s2⟩ := hv.parts
    have hn1 : n1 = h.srcs.length := by
      obtain ⟨_, _, _, e, _⟩ := s1
      injection e
    have hn2 : n2 = h.exts.length := by
      obtain ⟨_, _, e⟩ := s2.shape
      injection e
    have HQN := hide (show ∀ i, (i < w0.heap.size ∨ w1.heap.size ≤ i) → i = w0.heap.size → False from fun i hi e => by omega)
    have HV2 := hide (hv.mono (q := fun i => (i < w0.heap.size ∨ w1.heap.size ≤ i) ∧ i < w2.heap.size) (fun i hi hp => ⟨hp, hi⟩))
    have HN1 := hide hn1
    have HN2 := hide hn2
    clear hb hp0 hv hhs s1 s2 hmn hn1 hn2
    have hmi : (mm : Int) ≤ (n : Int) := by omega
    obtain ⟨pd, hpd⟩ : ∃ pd, pd = h.pad := ⟨_, rfl⟩
    have HPD := hide hpd
    unfold hcells at *
    simp only [← hpd]
    clear hpd
    -- the rest of the bytes
    have hcut : ∀ (X : Option Addr), (c ≠ mm → X = some ⟨b, o + mm, none⟩) → X ≠ none → ∀ (e : Nat), mm ≤ e → e ≤ n → ∀ w', Keep w0 w' Nul → Rd w' (fun _ => True) 1 (.slice X (e - mm) (c - mm)) (e - mm) (B8 ((bs.drop mm).take (e - mm))) :=
      fun X hX hX0 e h1 h2 w' k => ((HR.out.keep0 k).sub mm e h1 h2 X hX hX0).mono (fun _ _ _ => trivial)
    have HCUT := hide hcut
    clear hcut
    by_cases hcm : c = mm
    · subst hcm
      obtain rfl : n = c := by omega
      cases pd with
      | false =>
        go_upto_region 14 with (refine wpList_stA rfl _ _ rfl rfl rfl (by kernel_rfl) rfl (by simp [Value.oneCell']) ?_)
        generalize hw3 : World.alloc w2 _ = w3
        have H3 := hide (show Blk w3 w2.heap.size 27 (hcells h (.slice A1 n1 c1) (.slice A2 n2 c2)) by subst hw3; unfold hcells; rw [← HPD.out]; exact Blk.new w2 _ _)
        have k23 : Keep w2 w3 Nul := by subst hw3; exact (Keep.refl w2 Nul).alloc _
        have K3 := hide (K2.out.trans0 k23)
        have B3 := hide (B2.out.keep k23 id)
        have HV3 := hide (HV2.out.keep0 k23)
        clear hw3 k23
        refine part_use (sp_r14 (h := h) (post := RpPost bs w0) (by intro _ _ h; exact h) w3 _ _ _ _ _ _ _ _ _ _ _ _ _ _ _ _ _ _ _ _ _ _ _ _ _ _ _ _ _ _ _ _ _ _ _ _ _ _ _ _ _ _ _ _ _ _ _ _ _ _ _ _ B3.out H3.out ?_) rfl rfl (by assumption)
        intro w' kw
        have k' := KE.out _ w' K3.out (kw.mono (fun i _ e => .inl e))
        have hlp : (bs.drop n).length = 0 := by rw [List.length_drop]; have := HL.out; omega
        have hrd : Rd w' (fun _ => True) 1 (.slice (some ⟨b, o, none⟩) (bs.drop n).length (0)) (bs.drop n).length (B8 (bs.drop n)) := by
          have h0 := HCUT.out (some ⟨b, o, none⟩) (fun h => absurd rfl h) (by simp) n (Nat.le_refl _) (Nat.le_refl _) w' k'; rw [Nat.sub_self, List.take_zero] at h0; rw [show bs.drop n = [] from List.drop_of_length_le (by have := HL.out; omega)] at *
          rw [hlp]
          exact h0
        have hvw := (HV3.out).keep kw (fun i hi hp e => HQN.out i hp.1 e)
        refine ⟨k', .inr (.inr ⟨h, bs.drop n, A1, n1, c1, A2, n2, c2, some ⟨b, o, none⟩, 0, ?_, by rw [hlp], PV.of_hv (hvw.mono (fun _ _ _ => trivial)) hrd⟩)⟩
        unfold readP
        rw [HG.out]
        simp [← HPD.out]
      | true =>
        have HB := hide (show readP bs = .bad by unfold readP; rw [HG.out]; simp [← HPD.out]; have := HL.out; omega)
        go_upto_region 7 with (refine wpList_stA rfl _ _ rfl rfl rfl (by kernel_rfl) rfl (by simp [Value.oneCell']) ?_)
        generalize hw3 : World.alloc w2 _ = w3
        have H3 := hide (show Blk w3 w2.heap.size 27 (hcells h (.slice A1 n1 c1) (.slice A2 n2 c2)) by subst hw3; unfold hcells; rw [← HPD.out]; exact Blk.new w2 _ _)
        have k23 : Keep w2 w3 Nul := by subst hw3; exact (Keep.refl w2 Nul).alloc _
        have K3 := hide (K2.out.trans0 k23)
        have B3 := hide (B2.out.keep k23 id)
        have HV3 := hide (HV2.out.keep0 k23)
        clear hw3 k23
        refine part_use (sp_r7 (post := RpPost bs w0) (by intro _ _ h; exact h) w3 _ _ _ _ _ _ _ _ _ _ _ _ _ _ _ _ _ _ _ _ _ _ _ _ _ _ _ _ _ _ _ _ _ _ _ _ _ _ _ _ _ _ _ _ _ _ _ _ _ _ _ _ _ _ B3.out (fun w' k => ⟨KE.out _ w' K3.out (k.mono (fun i _ e => .inl e)), .inl ⟨HB.out, rfl⟩⟩)) rfl rfl (by assumption)
    · have hc1 : ¬ c = mm := hcm
      cases pd with
      | false =>
        go_upto_region 14 with (refine wpList_stA rfl _ _ rfl rfl rfl (by kernel_rfl) rfl (by simp [Value.oneCell']) ?_)
        generalize hw3 : World.alloc w2 _ = w3
        have H3 := hide (show Blk w3 w2.heap.size 27 (hcells h (.slice A1 n1 c1) (.slice A2 n2 c2)) by subst hw3; unfold hcells; rw [← HPD.out]; exact Blk.new w2 _ _)
        have k23 : Keep w2 w3 Nul := by subst hw3; exact (Keep.refl w2 Nul).alloc _
        have K3 := hide (K2.out.trans0 k23)
        have B3 := hide (B2.out.keep k23 id)
        have HV3 := hide (HV2.out.keep0 k23)
        clear hw3 k23
        refine part_use (sp_r14 (h := h) (post := RpPost bs w0) (by intro _ _ h; exact h) w3 _ _ _ _ _ _ _ _ _ _ _ _ _ _ _ _ _ _ _ _ _ _ _ _ _ _ _ _ _ _ _ _ _ _ _ _ _ _ _ _ _ _ _ _ _ _ _ _ _ _ _ _ B3.out H3.out ?_) rfl rfl (by assumption)
        intro w' kw
        have k' := KE.out _ w' K3.out (kw.mono (fun i _ e => .inl e))
        have hlp : (bs.drop mm).length = n - mm := by rw [List.length_drop, HL.out]
        have hrd : Rd w' (fun _ => True) 1 (.slice (some ⟨b, o + mm, none⟩) (bs.drop mm).length (c - mm)) (bs.drop mm).length (B8 (bs.drop mm)) := by
          have h0 := HCUT.out (some ⟨b, o + mm, none⟩) (fun _ => rfl) (by simp) n hmn2 (Nat.le_refl _) w' k'; rw [List.take_of_length_le (by rw [List.length_drop]; have := HL.out; omega)] at h0
          rw [hlp]
          exact h0
        have hvw := (HV3.out).keep kw (fun i hi hp e => HQN.out i hp.1 e)
        refine ⟨k', .inr (.inr ⟨h, bs.drop mm, A1, n1, c1, A2, n2, c2, some ⟨b, o + mm, none⟩, c - mm, ?_, by rw [hlp], PV.of_hv (hvw.mono (fun _ _ _ => trivial)) hrd⟩)⟩
        unfold readP
        rw [HG.out]
        simp [← HPD.out]
      | true =>
        go_upto_region 6 with (refine wpList_stA rfl _ _ rfl rfl rfl (by kernel_rfl) rfl (by simp [Value.oneCell']) ?_)
        generalize hw3 : World.alloc w2 _ = w3
        have H3 := hide (show Blk w3 w2.heap.size 27 (hcells h (.slice A1 n1 c1) (.slice A2 n2 c2)) by subst hw3; unfold hcells; rw [← HPD.out]; exact Blk.new w2 _ _)
        have k23 : Keep w2 w3 Nul := by subst hw3; exact (Keep.refl w2 Nul).alloc _
        have K3 := hide (K2.out.trans0 k23)
        have B3 := hide (B2.out.keep k23 id)
        have HV3 := hide (HV2.out.keep0 k23)
        clear hw3 k23
        obtain ⟨l, hl⟩ : ∃ l, l = n - mm := ⟨_, rfl⟩
        have HLL := hide hl
        rw [← hl]
        clear hl
        by_cases hl0 : l = 0
        · have HB := hide (show readP bs = .bad by unfold readP; rw [HG.out]; simp [← HPD.out]; have := HL.out; have := HLL.out; omega)
          subst hl0
          go_upto_region 7 with fail
          refine part_use (sp_r7 (post := RpPost bs w0) (by intro _ _ h; exact h) w3 _ _ _ _ _ _ _ _ _ _ _ _ _ _ _ _ _ _ _ _ _ _ _ _ _ _ _ _ _ _ _ _ _ _ _ _ _ _ _ _ _ _ _ _ _ _ _ _ _ _ _ _ _ _ B3.out (fun w' k => ⟨KE.out _ w' K3.out (k.mono (fun i _ e => .inl e)), .inl ⟨HB.out, rfl⟩⟩)) rfl rfl (by assumption)
        · have l0 : ((l : Int) == 0) = false := by simp; omega
          obtain ⟨z, hz⟩ : ∃ z, z = g8 bs (n - 1) := ⟨_, rfl⟩
          have hzr := g8_rng HI.out (n - 1)
          have hcz := rd_at (HR.out.keep0 K3.out) (n - 1) (by omega)
          rw [← hz] at hzr hcz
          have hoo : o + (n - 1) = o + mm + (l - 1) := by have := HLL.out; omega
          rw [hoo] at hcz
          have HZ := hide hz
          have i1 : ((l : Int) - 1).toNat = l - 1 := by omega
          have i2 : (0 : Int) ≤ (l : Int) - 1 := by omega
          have i3 : (l : Int) - 1 < (l : Int) := by omega
          have x11 := H3.out.cell 11 (v := .int .u8 h.padn) rfl
          have f11 := H3.out.free 11
          have lh := H3.out.lt
          have bne : ¬ b = w2.heap.size := by omega
          have bne2 : ¬ w2.heap.size = b := by omega
          have HLN := hide (show bs.length ≤ mm ↔ False from ⟨fun h => by have := HL.out; have := HLL.out; omega, fun h => h.elim⟩)
          have y11 := (H3.out.set_ 11 (.int .u8 z)).cell 11 (v := .int .u8 z) rfl
          have H4 := hide (show Blk (w3.setCell ⟨w2.heap.size, 11, none⟩ (.int .u8 z)) w2.heap.size 27 (hcells { h with padn := z } (.slice A1 n1 c1) (.slice A2 n2 c2)) from H3.out.set_ 11 (.int .u8 z))
          have kst : Keep w3 (w3.setCell ⟨w2.heap.size, 11, none⟩ (.int .u8 z)) (· = w2.heap.size) := Keep.set1 _ _ _ _
          have B4 := hide (B3.out.keep kst (by omega))
          have K4 := hide (K3.out.trans kst (fun i hi e => by omega))
          have HV4 := hide (show HV (w3.setCell ⟨w2.heap.size, 11, none⟩ (.int .u8 z)) (fun i => (i < w0.heap.size ∨ w1.heap.size ≤ i) ∧ i < w2.heap.size) (.agg (hcells { h with padn := z } (.slice A1 n1 c1) (.slice A2 n2 c2))) { h with padn := z } from by
            obtain ⟨p1, p2⟩ := HV3.out.parts
            exact ⟨_, _, rfl, p1.keep kst (fun i hi hp e => by have := hp.2; omega), p2.keep kst (fun i hi hp e => by have := hp.2; omega)⟩)
          clear hz kst hoo
          obtain ⟨c9, hc9⟩ : ∃ c9, c9 = c - mm := ⟨_, rfl⟩
          have hlc : l ≤ c9 := by have := HLL.out; omega
          have hll : l ≤ 2147483647 := by have := HLL.out; omega
          rw [← hc9]
          have HC9 := hide hc9
          clear hc9
          by_cases hz0 : z = 0
          · have zb : (z == 0) = true := by simp [hz0]
            have HB := hide (show readP bs = .wide by unfold readP; rw [HG.out]; simp only [← HPD.out, Bool.true_eq_false, if_false]; rw [if_neg (fun h => HLN.out.1 h), HL.out, if_pos (by rw [← HZ.out]; exact hz0)])
            clear hz0
            go_upto_region 10 with fail
            refine part_use (sp_r10 (post := RpPost bs w0) (by intro _ _ h; exact h) _ _ _ _ _ _ _ _ _ _ _ _ _ _ _ _ _ _ _ _ _ _ _ _ _ _ _ _ _ _ _ _ _ _ _ _ _ _ _ _ _ _ _ _ _ _ _ _ _ _ _ _ _ _ _ B4.out (fun w' k => ⟨KE.out _ w' K4.out (k.mono (fun i _ e => .inl e)), .inr (.inl ⟨HB.out, rfl⟩)⟩)) rfl rfl (by assumption)
          · have zb : (z == 0) = false := by simpa using hz0
            by_cases hlz : (l : Int) < z
            · have HB := hide (show readP bs = .bad by unfold readP; rw [HG.out]; simp only [← HPD.out, Bool.true_eq_false, if_false]; rw [if_neg (fun h => HLN.out.1 h), HL.out, if_neg (by rw [← HZ.out]; exact hz0), if_pos (by rw [← HZ.out]; have := HLL.out; omega)])
              clear hz0
              go_upto_region 12 with fail
              refine part_use (sp_r12 (post := RpPost bs w0) (by intro _ _ h; exact h) _ _ _ _ _ _ _ _ _ _ _ _ _ _ _ _ _ _ _ _ _ _ _ _ _ _ _ _ _ _ _ _ _ _ _ _ _ _ _ _ _ _ _ _ _ _ _ _ _ _ _ _ _ _ _ B4.out (fun w' k => ⟨KE.out _ w' K4.out (k.mono (fun i _ e => .inl e)), .inl ⟨HB.out, rfl⟩⟩)) rfl rfl (by assumption)
            · have i4 : (0 : Int) ≤ (l : Int) - z := by omega
              have i5 : ((l : Int) - z).toNat = l - z.toNat := by omega
              have i6 : (l : Int) - z ≤ (c9 : Int) := by omega
              have HB := hide (show readP bs = .good { h with padn := z } ((bs.drop mm).take (l - z.toNat)) by unfold readP; rw [HG.out]; simp only [← HPD.out, Bool.true_eq_false, if_false]; rw [if_neg (fun h => HLN.out.1 h), HL.out, if_neg (by rw [← HZ.out]; exact hz0), if_neg (by rw [← HZ.out]; have := HLL.out; omega), ← HZ.out, ← HLL.out])
              clear hz0
              go_upto_region 14 with fail
              refine part_use (sp_r14 (h := { h with padn := z }) (post := RpPost bs w0) (by intro _ _ h; exact h) _ _ _ _ _ _ _ _ _ _ _ _ _ _ _ _ _ _ _ _ _ _ _ _ _ _ _ _ _ _ _ _ _ _ _ _ _ _ _ _ _ _ _ _ _ _ _ _ _ _ _ _ _ B4.out H4.out ?_) rfl rfl (by assumption)
              intro w' kw
              have k' := KE.out _ w' K4.out (kw.mono (fun i _ e => .inl e))
              have hlp : ((bs.drop mm).take (l - z.toNat)).length = l - z.toNat := by rw [List.length_take, List.length_drop, HL.out]; have := HLL.out; omega
              have hrd : Rd w' (fun _ => True) 1 (.slice (some ⟨b, o + mm, none⟩) ((bs.drop mm).take (l - z.toNat)).length (c9)) ((bs.drop mm).take (l - z.toNat)).length (B8 ((bs.drop mm).take (l - z.toNat))) := by
                have h0 := HCUT.out (some ⟨b, o + mm, none⟩) (fun _ => rfl) (by simp) (n - z.toNat) (by have := HLL.out; omega) (by omega) w' k'; rw [show n - z.toNat - mm = l - z.toNat by have := HLL.out; omega, ← HC9.out] at h0
                rw [hlp]
                exact h0
              have hvw := (HV4.out).keep kw (fun i hi hp e => HQN.out i hp.1 e)
              refine ⟨k', .inr (.inr ⟨{ h with padn := z }, (bs.drop mm).take (l - z.toNat), A1, n1, c1, A2, n2, c2, some ⟨b, o + mm, none⟩, c9, ?_, by rw [hlp], PV.of_hv (hvw.mono (fun _ _ _ => trivial)) hrd⟩)⟩
              exact HB.out
end Go.Proofs.YtdmnflngafbobaaDoor
