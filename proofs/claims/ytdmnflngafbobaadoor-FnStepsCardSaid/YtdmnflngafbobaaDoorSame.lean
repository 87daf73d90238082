/-
  The reference's Same, of headers that are the same. Conditions: those that stand in each theorem.
-/
import Derived.Test.YtdmnflngafbobaaDoorGiven
import Derived.Deep.Cut
import Derived.Deep.QuietTactic
import Derived.BigQuiet
namespace Go.Proofs.YtdmnflngafbobaaDoor
open Go.RowKit
set_option linter.unusedVariables false
set_option linter.unusedSimpArgs false
set_option maxRecDepth 20000

set_option maxHeartbeats 3200000 in
theorem same_walk {p q : Nat → Prop} {va vb : Value} {a : Hd} {pr : Int} (w : World) (ha : HV w p va a) (hb : HV w q vb { a with prof := pr }) (hok : a.Ok) (hp : a.ext = true → pr = a.prof) :
    Calls Tryd.prog 26 #[va, vb] w fun e w' => e = .returned (.bool true) ∧ Keep w w' Nul := by
  obtain ⟨sa, xa, rfl, a1, a2⟩ := ha
  obtain ⟨sb, xb, rfl, b1, b2⟩ := hb
  simp only at b1 b2
  obtain ⟨A1, c1, rfl⟩ := a1.shape
  obtain ⟨A2, c2, rfl⟩ := a2.shape
  obtain ⟨B1, d1, rfl⟩ := b1.shape
  obtain ⟨B2, d2, rfl⟩ := b2.shape
  have l1 := a1.le
  have l2 : a.exts.length ≤ 9223372036854775807 := by obtain ⟨_, _, h⟩ := a2; exact h.le
  have HA1 := hide a1
  have HA2 := hide a2
  have HB1 := hide b1
  have HB2 := hide b2
  have HP := hide hp
  have HO := hide hok
  clear a1 a2 b1 b2 hp hok
  unfold hcells at *
  simp only
  go_enter Tryd.func26, Tryd.ntmps26
  go_upto_region 3 with fail
  generalize hwa : World.alloc (World.alloc w _) _ = wa
  have BA := hide (show Blk wa w.heap.size 27 (hcells a (.slice A1 a.srcs.length c1) (.slice A2 a.exts.length c2)) by subst hwa; exact (Blk.new w _ _).alloc _)
  have BB := hide (show Blk wa (w.heap.size + 1) 27 (hcells { a with prof := pr } (.slice B1 a.srcs.length d1) (.slice B2 a.exts.length d2)) by subst hwa; exact Blk.new' (by simp [World.size_alloc]))
  have HK := hide (show Keep w wa Nul by subst hwa; exact ((Keep.refl w Nul).alloc _).alloc _)
  have t8 := BA.out.cell 8 (v := .slice A1 a.srcs.length c1) rfl
  generalize hv0 : Value.agg _ = v0
  clear hv0 hwa
  go_wp2_with fail
  go_loopw [90] (fun i wr => ∃ k : Nat, k ≤ a.srcs.length ∧ i = .int .i64 k ∧ Keep wa wr Nul) (fun i _ => a.srcs.length - (intOf i).toNat)
  case atStart => exact ⟨0, Nat.zero_le _, rfl, Keep.refl _ _⟩
  case round =>
    obtain ⟨k, hk, rfl, hK⟩ := hrel
    have s8 := (BA.out.keep hK id).cell 8 (v := .slice A1 a.srcs.length c1) rfl
    have u8 := (BB.out.keep hK id).cell 8 (v := .slice B1 a.srcs.length d1) rfl
    have HKw := hide (HK.out.trans0 hK)
    by_cases hlt : k < a.srcs.length
    · have hg : (U32 a.srcs)[k]? = some (.int .u32 a.srcs[k]) := by simp [U32, List.getElem?_eq_getElem hlt]
      obtain ⟨b, o, c', hv, _, _, _, _, q5⟩ := (HA1.out.keep0 HKw.out).lit (by omega)
      injection hv with e1 _ e3
      subst e1 e3
      obtain ⟨b', o', c'', hv, _, _, _, _, q5'⟩ := (HB1.out.keep0 HKw.out).lit (by omega)
      injection hv with e1 _ e3
      subst e1 e3
      have g1 := q5 k _ hg
      have g2 := q5' k _ hg
      have HKK := hide hK
      clear hg q5 q5' hK
      generalize a.srcs[k] = x at *
      have kl : (k : Int) < (a.srcs.length : Int) := by omega
      go_upto_region 6 with fail
      go_quiet (fail)
      go_wp2_with fail
      go_roundw
      case rel => exact ⟨k + 1, by omega, by go_num, HKK.out.drewN _⟩
      case measure => simp [intOf]; omega
    · have HKK := hide hK
      have s10 := (BA.out.keep hK id).cell 10 (v := .slice A2 a.exts.length c2) rfl
      clear hK s8 u8
      go_wp2_with fail
      go_loopw [108] (fun i wq => ∃ m : Nat, m ≤ a.exts.length ∧ i = .int .i64 m ∧ Keep wa wq Nul) (fun i _ => a.exts.length - (intOf i).toNat)
      case atStart => exact ⟨0, Nat.zero_le _, rfl, HKK.out⟩
      case round =>
        obtain ⟨m, hm, rfl, hK⟩ := hrel
        by_cases hlt2 : m < a.exts.length
        · have HKw2 := hide (HK.out.trans0 hK)
          have hg : a.exts[m]? = some a.exts[m] := List.getElem?_eq_getElem _
          obtain ⟨b, o, c', d, hv, _, _, _, q4, q5, q6, q7⟩ := (HA2.out.keep0 HKw2.out).at_ hg
          injection hv with e1 _ e3
          subst e1 e3
          obtain ⟨b', o', c'', d', hv, _, _, _, q4', q5', q6', q7'⟩ := (HB2.out.keep0 HKw2.out).at_ hg
          injection hv with e1 _ e3
          subst e1 e3
          have hI := (HO.out.exts _ (List.mem_of_getElem? hg)).2
          clear hg
          generalize a.exts[m] = x at *
          obtain ⟨A3, c3, rfl⟩ := q7.shape
          obtain ⟨A4, c4, rfl⟩ := q7'.shape
          have v10 := (BB.out.keep hK id).cell 10 (v := .slice (some ⟨b', o', none⟩) a.exts.length d2) rfl
          have vl := (BB.out.keep hK id).lt
          have r1 := fun n : Nat => run_str (P := Tryd.prog) (tb := 29) (ts := 9) Tryd.underlying29 Tryd.underlying5 Tryd.underlying9 ((q7.alloc (.cells #[.int .u8 x.id, .slice A3 x.data.length c3] 66)).keep0 ((Keep.refl _ Nul).drewN n)) hI
          have r2 := fun n : Nat => run_str (P := Tryd.prog) (tb := 29) (ts := 9) Tryd.underlying29 Tryd.underlying5 Tryd.underlying9 ((q7'.alloc (.cells #[.int .u8 x.id, .slice A3 x.data.length c3] 66)).keep0 ((Keep.refl _ Nul).drewN n)) hI
          have HKK2 := hide hK
          clear hK q7 q7' hI
          have ml : (m : Int) < (a.exts.length : Int) := by omega
          go_upto_region 12 with fail
          go_quiet (fail)
          go_wp2_with fail
          go_roundw
          case rel => exact ⟨m + 1, by omega, by go_num, (HKK2.out.alloc _).drewN _⟩
          case measure => simp [intOf]; omega
        · have z2 := (BA.out.keep hK id).cell 2 (v := .bool a.ext) rfl
          have z9 := (BA.out.keep hK id).cell 9 (v := .int .u16 a.prof) rfl
          have z9' := (BB.out.keep hK id).cell 9 (v := .int .u16 pr) rfl
          have HKK2 := hide (HK.out.trans0 hK)
          clear hK
          cases he : a.ext
          · rw [he] at z2
            go_wp2_with fail
            go_ret
            exact ⟨rfl, HKK2.out⟩
          · rw [he] at z2
            rw [HP.out he] at z9'
            go_wp2_with fail
            go_ret
            exact ⟨rfl, HKK2.out⟩
end Go.Proofs.YtdmnflngafbobaaDoor
