/-
  LEB128 written and read. Conditions: those that stand in each theorem.
-/
import Derived.Test.YtdlnmkpojiofoaaDoorVl1
import Derived.Test.YtdlnmkpojiofoaaDoorBufz
namespace Go.Proofs.YtdlnmkpojiofoaaDoor
open Go.RowKit
set_option linter.unusedVariables false
set_option linter.unusedSimpArgs false
set_option maxRecDepth 20000

theorem leb_lo {y : Nat} (h : y < 128) : leb y = [(y : Int)] := by unfold leb; rw [if_pos h]
theorem leb_hi {y : Nat} (h : 128 ≤ y) (hy : y < 268435456) : leb y = ((y % 128 + 128 : Nat) : Int) :: leb (y / 128) := by
  unfold leb
  rw [if_neg (by omega)]
  by_cases h1 : y < 16384
  · rw [if_pos h1, if_pos (by omega)]
  · rw [if_neg h1]
    by_cases h2 : y < 2097152
    · rw [if_pos h2, if_neg (by omega), if_pos (by omega)]
    · rw [if_neg h2, if_neg (by omega), if_neg (by omega), if_pos (by omega)]
theorem lebN_b (x : Nat) : 1 ≤ lebN x ∧ lebN x ≤ 4 := by
  unfold lebN
  (repeat' split) <;> omega
theorem leb_isB (y : Nat) (hy : y < 268435456) : IsB (leb y) := by
  intro z hz
  unfold leb at hz
  split at hz
  · simp at hz; omega
  · split at hz
    · simp at hz; omega
    · split at hz
      · simp at hz; omega
      · simp at hz; omega

set_option maxHeartbeats 1600000 in
theorem wleb_walk {done : List Int} {g m c k x : Nat} (w : World) (hb : Buf w g done (Z8 m)) (hk : k = done.length) (hx : x < 268435456) (hm : lebN x ≤ m) (hmc : m ≤ c) :
    Calls Tryd.prog 67 #[.slice (some ⟨g, k, none⟩) m c, .int .u64 (x : Int)] w fun e w' => e = .returned (.int .i64 (lebN x : Nat)) ∧ Buf w' g (done ++ leb x) (Z8 (m - lebN x)) ∧ Keep w w' (· = g) := by
  have HB := hide hb
  have HK := hide hk
  rw [← leb_len] at hm
  clear hb hk
  go_enter Tryd.func67, Tryd.ntmps67
  go_wp2_with fail
  go_loopw [1, 8] (fun s1 s8 wr => ∃ (i y : Nat) (hs : List Int), s1 = .int .u64 (y : Int) ∧ s8 = .int .i64 (i : Int) ∧ hs.length = i ∧ hs ++ leb y = leb x ∧ y < 268435456 ∧ Buf wr g (done ++ hs) (Z8 (m - i)) ∧ Keep w wr (· = g)) (fun s1 _ _ => (intOf s1).toNat)
  case atStart => exact ⟨0, x, [], rfl, rfl, rfl, rfl, hx, by simpa using HB.out, Keep.refl _ _⟩
  case round =>
    obtain ⟨i, y, hs, rfl, rfl, hl, hsy, hy, hbr, hkr⟩ := hrel
    have HKR := hide hkr
    have hlen : i + (leb y).length = (leb x).length := by rw [← hsy, List.length_append, hl]
    have hly : 1 ≤ (leb y).length := by rw [leb_len]; exact (lebN_b y).1
    have hi100 : i ≤ 4 := by have := (lebN_b x).2; rw [leb_len x] at hlen; omega
    have him : i < m := by omega
    have kl : (i : Int) < (m : Int) := by omega
    have hki : k + i = (done ++ hs).length := by rw [List.length_append, hl, HK.out]
    obtain ⟨y0, hc0⟩ : ∃ v, wr.cell? ⟨g, k + i, none⟩ = some v := ⟨_, hbr.zcell (k := k + i) (by omega) (by omega)⟩
    have hf := fun j => hbr.free j
    have hgl := hbr.lt
    have hb1 := hbr.z1 (by omega) hki ((y : Int) % 128)
    have HB1 := hide hb1
    have HSY := hide hsy
    have HKI := hide hki
    have HL := hide hl
    have q1 : bits .and .u64 (y : Int) 127 = (y : Int) % 128 := and64 7 (y : Int) 127 (by omega) (by omega) (by decide) (by decide)
    clear hb1 hbr hkr hsy hki hl
    by_cases h0 : y < 128
    · have e1 : (((y : Int) / 128) == 0) = true := by simp; omega
      go_wp2_with fail
      go_ret
      have hfin : done ++ leb x = (done ++ hs) ++ [(y : Int) % 128] := by rw [← HSY.out, leb_lo h0, List.append_assoc]; congr 2; congr 1; omega
      have hln : lebN x = i + 1 := by rw [← leb_len, ← HSY.out, leb_lo h0, List.length_append, HL.out]; rfl
      rw [hfin, hln]
      exact ⟨by simp [wrap64], by rw [← Nat.sub_sub]; exact HB1.out, HKR.out.setg (k + i) (fun _ => rfl) _⟩
    · have e1 : (((y : Int) / 128) == 0) = false := by simp; omega
      have q2 : bits .or .u8 ((y : Int) % 128) 128 = (y : Int) % 128 + 128 := by
        have : bits .or .u8 ((y : Int) % 128) 128 = (y : Int) % 128 + 128 := or8' 7 _ _ (by omega) (by omega) (by decide) (by omega) (by omega) (by decide)
        exact this
      have H0 := hide h0
      clear h0
      go_wp2_with fail
      go_roundw
      case rel =>
        have hb2 := (show Buf _ g ((done ++ hs) ++ (y : Int) % 128 :: []) _ from HB1.out).mid (k := k + i) HKI.out ((y : Int) % 128 + 128)
        refine ⟨i + 1, y / 128, hs ++ [(y : Int) % 128 + 128], by simp, by go_num, by rw [List.length_append, HL.out]; rfl, ?_, by omega, ?_, (HKR.out.setg (k + i) (fun _ => rfl) _).setg (k + i) (fun _ => rfl) _⟩
        · rw [← HSY.out, leb_hi (by have := H0.out; omega) hy, List.append_assoc]
          congr 2
        · rw [← List.append_assoc, ← Nat.sub_sub]
          exact hb2
      case measure => have := H0.out; simp [intOf]; omega
end Go.Proofs.YtdlnmkpojiofoaaDoor
