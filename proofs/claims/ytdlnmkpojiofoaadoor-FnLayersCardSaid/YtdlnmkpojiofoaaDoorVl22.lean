/-
  VLA.unmarshalTemporalLayers: the layers are made. Conditions: those that stand in each theorem.
-/
import Derived.Test.YtdlnmkpojiofoaaDoorVl21
namespace Go.Proofs.YtdlnmkpojiofoaaDoor
open Go.RowKit
set_option linter.unusedVariables false
set_option linter.unusedSimpArgs false
set_option maxRecDepth 100000

theorem andK2 {P : Pv} (h : P.Ok) {k : Nat} (hk : k < 4) : (bits .and .u8 P.cm (2 ^ k % 256) == 0) = decide (P.K ≤ k) := by
  have h1 := andK (K := P.K) (by have := h.k4; omega) hk
  have e : IntKind.u8.wrap ((2 : Int) ^ k) = 2 ^ k % 256 := by
    match k, hk with
    | 0, _ => decide
    | 1, _ => decide
    | 2, _ => decide
    | 3, _ => decide
  rw [e] at h1
  exact h1
theorem divK {P : Pv} (h : P.Ok) {s k : Nat} (hk : k < P.K) : (s * P.K + k) / P.K = s ∧ (s * P.K + k) % P.K = k := by
  have hK := h.k1
  rw [Nat.mul_comm]
  exact ⟨by rw [Nat.mul_add_div (by omega)]; simp [Nat.div_eq_of_lt hk], by rw [Nat.mul_add_mod]; exact Nat.mod_eq_of_lt hk⟩

set_option maxHeartbeats 6400000 in
theorem ut_p4 {P : Pv} {b o n c gv gu B : Nat} {Q : Exit → Act → World → Prop} (w : World) (u2 u3 u4 u6 u7 u8 u9 u10 u11 u12 u13 u14 u15 u16 u17 u18 u19 u20 u21 u22 u23 u24 u25 u26 u27 u28 u29 u30 u31 u32 u33 u34 u35 u36 u37 u38 u39 u40 u41 u42 u43 u44 u45 u46 u47 u48 u49 u50 u51 u52 u53 u54 u55 u56 u57 u58 u59 u60 u61 u62 u63 u64 u65 u66 u67 u68 u69 u70 u71 u72 u73 u74 u75 u76 u77 u78 u79 u80 u81 u82 u83 u84 u85 u86 u87 u88 u89 u90 u91 u92 u93 u94 u95 u96 u97 u98 u99 u100 u101 u102 u103 u104 u105 u106 u107 u108 u109 u110 u111 u112 u113 u114 u115 u116 u117 u118 u119 u120 u121 u122 u123 u124 u125 u126 u127 u128 u129 u130 u131 u132 u133 u134 u135 u136 u137 u138 u139 u140 u141 u142 u143 u144 u145 u146 u147 u148 u149 u150 u151 u152 u153 u154 u155 u156 u157 u158 : Value)
    (R : RD w P b o gv gu B) (hn : n = P.len) (hnc : n ≤ c) (hv : Blk w gv 69 (P.vv (.slice none 0 0) false)) (hu : Blk w gu 88 (uctV (some ⟨b, o, none⟩) n c 1 P.cm (mbL P.K P.L)))
    (hQ : ∀ (w' : World) (u2 u3 u4 u5 u6 u7 u8 u9 u10 u11 u12 u13 u14 u15 u16 u17 u18 u19 u20 u21 u22 u23 u24 u25 u26 u27 u28 u29 u30 u31 u32 u33 u34 u35 u36 u37 u38 u39 u40 u41 u42 u43 u44 u45 u46 u47 u48 u49 u50 u51 u52 u53 u54 u55 u56 u57 u58 u59 u60 u61 u62 u63 u64 u65 u66 u67 u68 u69 u70 u71 u72 u73 u74 u75 u76 u77 u78 u79 u80 u81 u82 u83 u84 u85 u86 u87 u88 u89 u90 u91 u92 u93 u94 u95 u96 u97 u98 u99 u100 u101 u102 u103 u104 u105 u106 u107 u108 u109 u110 u111 u112 u113 u114 u115 u116 u117 u118 u119 u120 u121 u122 u123 u124 u125 u126 u127 u128 u129 u130 u131 u132 u133 u134 u135 u136 u137 u138 u139 u140 u141 u142 u143 u144 u145 u146 u147 u148 u149 u150 u151 u152 u153 u154 u155 u156 u157 u158 : Value) (A2 : Option Addr) (c2 : Nat) (gs : List Nat), Blk w' gv 69 (P.vv (.slice A2 P.L c2) false) → Blk w' gu 88 (uctV (some ⟨b, o, none⟩) n c (P.tl : Nat) P.cm (mbL P.K P.L)) → LQ w' B P.l0 P.rs.length (.slice A2 P.L c2) P.L gs (val0 P.rs.length) → Keep w w' (fun x => (x = gv ∨ x = gu) ∨ B ≤ x) → Q .normal ⟨List.toArray (.pointer (some ⟨gv, 0, none⟩) :: .pointer (some ⟨gu, 0, none⟩) :: u2 :: u3 :: u4 :: u5 :: u6 :: u7 :: u8 :: u9 :: u10 :: u11 :: u12 :: u13 :: u14 :: u15 :: u16 :: u17 :: u18 :: u19 :: u20 :: u21 :: u22 :: u23 :: u24 :: u25 :: u26 :: u27 :: u28 :: u29 :: u30 :: u31 :: u32 :: u33 :: u34 :: u35 :: u36 :: u37 :: u38 :: u39 :: u40 :: u41 :: u42 :: u43 :: u44 :: u45 :: u46 :: u47 :: u48 :: u49 :: u50 :: u51 :: u52 :: u53 :: u54 :: u55 :: u56 :: u57 :: u58 :: u59 :: u60 :: u61 :: u62 :: u63 :: u64 :: u65 :: u66 :: u67 :: u68 :: u69 :: u70 :: u71 :: u72 :: u73 :: u74 :: u75 :: u76 :: u77 :: u78 :: u79 :: u80 :: u81 :: u82 :: u83 :: u84 :: u85 :: u86 :: u87 :: u88 :: u89 :: u90 :: u91 :: u92 :: u93 :: u94 :: u95 :: u96 :: u97 :: u98 :: u99 :: u100 :: u101 :: u102 :: u103 :: u104 :: u105 :: u106 :: u107 :: u108 :: u109 :: u110 :: u111 :: u112 :: u113 :: u114 :: u115 :: u116 :: u117 :: u118 :: u119 :: u120 :: u121 :: u122 :: u123 :: u124 :: u125 :: u126 :: u127 :: u128 :: u129 :: u130 :: u131 :: u132 :: u133 :: u134 :: u135 :: u136 :: u137 :: u138 :: u139 :: u140 :: u141 :: u142 :: u143 :: u144 :: u145 :: u146 :: u147 :: u148 :: u149 :: u150 :: u151 :: u152 :: u153 :: u154 :: u155 :: u156 :: u157 :: u158 :: []), []⟩ w') :
    Part Tryd.prog Tryd.f32 4 Q ⟨List.toArray (.pointer (some ⟨gv, 0, none⟩) :: .pointer (some ⟨gu, 0, none⟩) :: u2 :: u3 :: u4 :: .int .i64 0 :: u6 :: u7 :: u8 :: u9 :: u10 :: u11 :: u12 :: u13 :: u14 :: u15 :: u16 :: u17 :: u18 :: u19 :: u20 :: u21 :: u22 :: u23 :: u24 :: u25 :: u26 :: u27 :: u28 :: u29 :: u30 :: u31 :: u32 :: u33 :: u34 :: u35 :: u36 :: u37 :: u38 :: u39 :: u40 :: u41 :: u42 :: u43 :: u44 :: u45 :: u46 :: u47 :: u48 :: u49 :: u50 :: u51 :: u52 :: u53 :: u54 :: u55 :: u56 :: u57 :: u58 :: u59 :: u60 :: u61 :: u62 :: u63 :: u64 :: u65 :: u66 :: u67 :: u68 :: u69 :: u70 :: u71 :: u72 :: u73 :: u74 :: u75 :: u76 :: u77 :: u78 :: u79 :: u80 :: u81 :: u82 :: u83 :: u84 :: u85 :: u86 :: u87 :: u88 :: u89 :: u90 :: u91 :: u92 :: u93 :: u94 :: u95 :: u96 :: u97 :: u98 :: u99 :: u100 :: u101 :: u102 :: u103 :: u104 :: u105 :: u106 :: u107 :: u108 :: u109 :: u110 :: u111 :: u112 :: u113 :: u114 :: u115 :: u116 :: u117 :: u118 :: u119 :: u120 :: u121 :: u122 :: u123 :: u124 :: u125 :: u126 :: u127 :: u128 :: u129 :: u130 :: u131 :: u132 :: u133 :: u134 :: u135 :: u136 :: u137 :: u138 :: u139 :: u140 :: u141 :: u142 :: u143 :: u144 :: u145 :: u146 :: u147 :: u148 :: u149 :: u150 :: u151 :: u152 :: u153 :: u154 :: u155 :: u156 :: u157 :: u158 :: []), []⟩ w := by
  have HQ := hide hQ
  have RR := hide R
  have HV := hide hv
  have HU := hide hu
  have hL16 := R.ok.L16
  have hlb := R.ok.lenB
  have hS4 := R.ok.s4
  have hS1 := R.ok.s1
  have hK4 := R.ok.k4
  have hK1 := R.ok.k1
  have hlen : P.tl + 1 ≤ n := by rw [hn]; unfold Pv.len; omega
  have HNN := hide hn
  have hn4 : n ≤ 400 := by omega
  have nvu := R.vu
  have nbv := R.bv
  have nbu := R.bu
  have hBv := R.vB
  have hBu := R.uB
  have hbB := R.bB
  clear hQ R hv hu hn
  refine part_open (fun c0 hc K hK => ?_)
  conv at hc => rhs; whnf
  subst hc
  dsimp only [xOf, yOf] at hK ⊢
  go_wp2_with fail
  go_loopw [5, 6] (fun s5 s6 wr => ∃ (s x y : Nat) (A' : Option Addr) (c' : Nat) (gs : List Nat), s ≤ P.S ∧ s6 = .int .i64 (s : Int) ∧ s5 = .int .i64 (y : Int) ∧ OT (s * P.K) x y ∧ Blk wr gv 69 (P.vv (.slice A' (s * P.K) c') false) ∧ Blk wr gu 88 (uctV (some ⟨b, o, none⟩) n c (x : Int) P.cm (mbL P.K P.L)) ∧ LQ wr B P.l0 P.rs.length (.slice A' (s * P.K) c') (s * P.K) gs (val0 P.rs.length) ∧ Keep w wr (fun x => (x = gv ∨ x = gu) ∨ B ≤ x)) (fun _ s6 _ => P.S - (intOf s6).toNat)
  case atStart => exact ⟨0, 1, 0, none, 0, [], by omega, rfl, rfl, .inl ⟨by simp, rfl, rfl⟩, by simpa using HV.out, HU.out, by simpa using LQ.nil_ w B P.l0 P.rs.length (val0 P.rs.length), Keep.refl _ _⟩
  case round =>
    obtain ⟨s, x, y, A', c', gs, hs, rfl, rfl, hot, hbv, hbu, hlq, hk⟩ := hrel
    have HV1 := hide hbv
    have HU1 := hide hbu
    have HL1 := hide hlq
    have HK1 := hide hk
    have HOT := hide hot
    have v1 := hbv.cell 1 (v := .int .i64 (P.S : Nat)) rfl
    have hgv := hbv.lt
    clear hbv hbu hlq hk hot
    by_cases hlt : s < P.S
    · have kl : (s : Int) < (P.S : Int) := by omega
      go_wp2_with fail
      go_loopw [5, 29] (fun s5 s29 wq => ∃ (k x y : Nat) (A' : Option Addr) (c' : Nat) (gs : List Nat), k ≤ 4 ∧ s29 = .int .i64 (k : Int) ∧ s5 = .int .i64 (y : Int) ∧ OT (nl P.K s k) x y ∧ Blk wq gv 69 (P.vv (.slice A' (nl P.K s k) c') false) ∧ Blk wq gu 88 (uctV (some ⟨b, o, none⟩) n c (x : Int) P.cm (mbL P.K P.L)) ∧ LQ wq B P.l0 P.rs.length (.slice A' (nl P.K s k) c') (nl P.K s k) gs (val0 P.rs.length) ∧ Keep w wq (fun x => (x = gv ∨ x = gu) ∨ B ≤ x)) (fun _ s29 _ => 4 - (intOf s29).toNat)
      case atStart =>
        have e : nl P.K s 0 = s * P.K := by unfold nl; omega
        exact ⟨0, x, y, A', c', gs, by omega, rfl, rfl, by rw [e]; exact HOT.out, by rw [e]; exact HV1.out, HU1.out, by rw [e]; exact HL1.out, HK1.out⟩
      case round =>
        obtain ⟨k, x, y, A', c', gs, hk4, rfl, rfl, hot, hbv, hbu, hlq, hk⟩ := hrel
        have HV2 := hide hbv
        have HU2 := hide hbu
        have HL2 := hide hlq
        have HK2 := hide hk
        have HOT2 := hide hot
        have RR2 := hide (RR.out.keep hk (fun e => by rcases e with (e | e) | e <;> omega))
        have hgu2 := hbu.lt
        have hgv2 := hbv.lt
        clear hbv hbu hlq hk v1
        by_cases hlt2 : k < 4
        · have kl2 : (k : Int) < 4 := by omega
          have hmb := HU2.out.cell (3 + s) (uct_m (by rw [cm_at RR.out.ok (by omega), if_pos hlt]))
          have hak := andK2 RR.out.ok hlt2
          have ks : (s : Int) < 4 := by omega
          have hnb := nl_b RR.out.ok hlt (k := k)
          by_cases hkK : k < P.K
          · have hak2 : (bits .and .u8 P.cm (2 ^ k % 256) == 0) = false := by rw [hak]; simp; omega
            clear hak
            have hll := lay_lt hlt hkK
            have hnl : nl P.K s k = s * P.K + k := by unfold nl; omega
            have hnl1 : nl P.K s (k + 1) = s * P.K + k + 1 := by unfold nl; omega
            obtain ⟨hd1, hd2⟩ := divK RR.out.ok (s := s) hkK
            rw [hnl] at HV2 HL2 HOT2 hot hnb
            generalize s * P.K + k = m at *
            have HN1 := hide hnl1
            have HD1 := hide hd1
            have HD2 := hide hd2
            have u1 := HU2.out.cell 1 uct_1
            have fu := HU2.out.free 1
            clear hnl hnl1 hd1 hd2
            by_cases hy : y = 4
            · have hxn : x = m / 4 ∧ m % 4 = 0 := by
                rcases hot with ⟨_, _, h⟩ | ⟨h1, h2, h3⟩
                · omega
                · omega
              subst hy
              have hxb : x ≤ 4 := by omega
              go_upto_region 10 with fail
              go_quiet (fail)
              go_upto_region 14 with fail
              generalize hw4 : World.setCell _ _ _ = w4
              have k4 : Keep wr w4 (· = gu) := by subst hw4; exact ((Keep.refl wr (· = gu)).drewN _).setg 1 (fun _ => rfl) _
              have hu4 : Blk w4 gu 88 (uctV (some ⟨b, o, none⟩) n c ((x + 1 : Nat) : Int) P.cm (mbL P.K P.L)) := by subst hw4; rw [show ((x + 1 : Nat) : Int) = (m : Int) / 4 + 1 by omega, ← uct_s1 (off := (x : Int))]; exact (HU2.out.keep ((Keep.refl wr Nul).drewN _) (fun e => e)).set_ 1 _
              have hm4 : m / 4 + 1 ≤ P.tl := by unfold Pv.tl; omega
              have hChk := hide (chk_walk (off := x + 1) (m := 1) w4 hu4 (by omega) (by omega))
              have HV4 := hide (HV2.out.keep k4 (fun e => nvu e))
              have HL4 := hide (HL2.out.keep k4 (fun q _ e => by have : q = gu := e; omega))
              have RR4 := hide (RR2.out.keep k4 (fun e => nbu e))
              have HU4 := hide hu4
              have HK4 := hide (HK2.out.trans k4 (fun _ _ e => .inl (.inr e)))
              clear hw4 k4 hu4 hot u1 fu hmb hak2
              go_wp2_with fail
              refine Calls.mono (show Calls _ _ #[.pointer (some ⟨gu, 0, none⟩), .int .i64 1] _ _ from hChk.out) ?_
              rintro e w5 ⟨rfl, k5⟩
              have HV3 := hide (HV4.out.keep k5 (fun e => e))
              have HL3 := hide (HL4.out.keep0 k5)
              have RR3 := hide (RR4.out.keep k5 (fun e => e))
              have HK3 := hide (HK4.out.trans0 k5)
              have hu3 := HU4.out.keep k5 (fun e => e)
              rw [show ((x + 1 : Nat) : Int) = 1 + ((m / 4 : Nat) : Int) by omega] at hu3
              have HU3 := hide hu3
              clear k5 hu3 hChk
              go_upto_region 16 with fail
              refine part_use (ut_p16 (q := m / 4) (r := m % 4) (s := s) (k := k) w5 _ _ _ _ _ _ _ _ _ _ _ _ _ _ _ _ _ _ _ _ _ _ _ _ _ _ _ _ _ _ _ _ _ _ _ _ _ _ _ _ _ _ _ _ _ _ _ _ _ _ _ _ _ _ _ _ _ _ _ _ _ _ _ _ _ _ _ _ _ _ _ _ _ _ _ _ _ _ _ _ _ _ _ _ _ _ _ _ _ _ _ _ _ _ _ _ _ _ _ _ _ _ _ _ _ _ _ _ _ _ _ _ _ _ _ _ _ _ _ _ _ _ _ _ _ _ _ _ _ _ _ _ _ _ _ _ _ _ _ _ _ _ _ _ _ _ _ _ _ _ _ _ _ _ RR3.out HNN.out hnc HV3.out HU3.out HL3.out hll rfl rfl (by omega) HD1.out.symm HD2.out.symm ?_) rfl rfl (by assumption)
              intro w6
              intros
              rename_i A2 c2 g hv6 hl6 hk6
              have HU6 := hide (HU3.out.keep hk6 (fun e => by rcases e with e | e <;> omega))
              have HV6 := hide hv6
              have HL6 := hide hl6
              have HK6 := hide (HK3.out.trans hk6 (fun _ _ e => by rcases e with e | e; exact .inl (.inl e); exact .inr e))
              clear hv6 hl6 hk6
              refine (show ∀ a w, _ → _ by assumption) _ _ ?_
              go_wp2_with fail
              go_roundw
              case rel => exact ⟨k + 1, 1 + m / 4, m % 4 + 1, A2, c2, gs ++ [g], by omega, by go_num, by congr 1, by rw [HN1.out]; exact .inr ⟨by omega, by rw [Nat.add_sub_cancel], by rw [Nat.add_sub_cancel]⟩, by rw [HN1.out]; exact HV6.out, by push_cast; exact HU6.out, by rw [HN1.out]; exact HL6.out, HK6.out⟩
              case measure => simp [intOf]; omega
            · have hy4 : y ≤ 3 := by
                rcases hot with ⟨_, _, h⟩ | ⟨h1, h2, h3⟩ <;> omega
              have hxn : x = 1 + m / 4 ∧ y = m % 4 := by
                rcases hot with ⟨h1, h2, h3⟩ | ⟨h1, h2, h3⟩ <;> omega
              have kc : ¬ (4 : Int) ≤ (y : Int) := by omega
              go_upto_region 10 with fail
              go_quiet (fail)
              go_upto_region 16 with fail
              generalize hw3 : World.drewN _ _ = w3
              have k3 : Keep wr w3 Nul := by subst hw3; exact (Keep.refl wr Nul).drewN _
              have HV3 := hide (HV2.out.keep k3 (fun e => e))
              have HL3 := hide (HL2.out.keep0 k3)
              have RR3 := hide (RR2.out.keep k3 (fun e => e))
              have HK3 := hide (HK2.out.trans0 k3)
              have hu3 := HU2.out.keep k3 (fun e => e)
              rw [show (x : Int) = 1 + ((m / 4 : Nat) : Int) by omega] at hu3
              have HU3 := hide hu3
              clear hw3 k3 hu3 hot u1 fu hmb hak2
              refine part_use (ut_p16 (q := m / 4) (r := m % 4) (s := s) (k := k) w3 _ _ _ _ _ _ _ _ _ _ _ _ _ _ _ _ _ _ _ _ _ _ _ _ _ _ _ _ _ _ _ _ _ _ _ _ _ _ _ _ _ _ _ _ _ _ _ _ _ _ _ _ _ _ _ _ _ _ _ _ _ _ _ _ _ _ _ _ _ _ _ _ _ _ _ _ _ _ _ _ _ _ _ _ _ _ _ _ _ _ _ _ _ _ _ _ _ _ _ _ _ _ _ _ _ _ _ _ _ _ _ _ _ _ _ _ _ _ _ _ _ _ _ _ _ _ _ _ _ _ _ _ _ _ _ _ _ _ _ _ _ _ _ _ _ _ _ _ _ _ _ _ _ _ RR3.out HNN.out hnc HV3.out HU3.out HL3.out hll rfl rfl (by omega) HD1.out.symm HD2.out.symm ?_) rfl rfl (by assumption)
              intro w6
              intros
              rename_i A2 c2 g hv6 hl6 hk6
              have HU6 := hide (HU3.out.keep hk6 (fun e => by rcases e with e | e <;> omega))
              have HV6 := hide hv6
              have HL6 := hide hl6
              have HK6 := hide (HK3.out.trans hk6 (fun _ _ e => by rcases e with e | e; exact .inl (.inl e); exact .inr e))
              clear hv6 hl6 hk6
              refine (show ∀ a w, _ → _ by assumption) _ _ ?_
              go_wp2_with fail
              go_roundw
              case rel => exact ⟨k + 1, 1 + m / 4, m % 4 + 1, A2, c2, gs ++ [g], by omega, by go_num, by congr 1, by rw [HN1.out]; exact .inr ⟨by omega, by rw [Nat.add_sub_cancel], by rw [Nat.add_sub_cancel]⟩, by rw [HN1.out]; exact HV6.out, by push_cast; exact HU6.out, by rw [HN1.out]; exact HL6.out, HK6.out⟩
              case measure => simp [intOf]; omega
          · have hak2 : (bits .and .u8 P.cm (2 ^ k % 256) == 0) = true := by rw [hak]; simp; omega
            have hnl1 : nl P.K s (k + 1) = nl P.K s k := by unfold nl; omega
            have HN1 := hide hnl1
            clear hak hnl1 hot
            go_upto_region 10 with fail
            go_quiet (fail)
            go_wp2_with fail
            go_roundw
            case rel => exact ⟨k + 1, x, y, A', c', gs, by omega, by go_num, rfl, by rw [HN1.out]; exact HOT2.out, by rw [HN1.out]; exact HV2.out.keep ((Keep.refl _ Nul).drewN _) (fun e => e), HU2.out.keep ((Keep.refl _ Nul).drewN _) (fun e => e), by rw [HN1.out]; exact HL2.out.keep0 ((Keep.refl _ Nul).drewN _), HK2.out.drewN _⟩
            case measure => simp [intOf]; omega
        · obtain rfl : k = 4 := by omega
          have hnl1 : nl P.K s 4 = (s + 1) * P.K := by unfold nl; rw [Nat.succ_mul]; omega
          rw [hnl1] at HV2 HL2 HOT2
          clear hnl1 hot
          go_wp2_with fail
          go_roundw
          case rel => exact ⟨s + 1, x, y, A', c', gs, by omega, by go_num, rfl, HOT2.out, HV2.out, HU2.out, HL2.out, HK2.out⟩
          case measure => simp [intOf]; omega
    · obtain rfl : s = P.S := by omega
      have hx : x = P.tl := by
        have h := HOT.out
        unfold Pv.tl Pv.L
        have := hL16.1
        unfold Pv.L at this
        rcases h with ⟨h1, _, _⟩ | ⟨h1, h2, h3⟩ <;> omega
      subst hx
      go_wp2_with fail
      exact HQ.out wr _ _ _ _ _ _ _ _ _ _ _ _ _ _ _ _ _ _ _ _ _ _ _ _ _ _ _ _ _ _ _ _ _ _ _ _ _ _ _ _ _ _ _ _ _ _ _ _ _ _ _ _ _ _ _ _ _ _ _ _ _ _ _ _ _ _ _ _ _ _ _ _ _ _ _ _ _ _ _ _ _ _ _ _ _ _ _ _ _ _ _ _ _ _ _ _ _ _ _ _ _ _ _ _ _ _ _ _ _ _ _ _ _ _ _ _ _ _ _ _ _ _ _ _ _ _ _ _ _ _ _ _ _ _ _ _ _ _ _ _ _ _ _ _ _ _ _ _ _ _ _ _ _ _ _ _ _ A' c' gs HV1.out HU1.out HL1.out HK1.out
end Go.Proofs.YtdlnmkpojiofoaaDoor
