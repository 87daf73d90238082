/-
  LEB128: its lengths and bytes. Conditions: those that stand in each theorem.
-/
import Derived.Test.YtdlnmkpojiofoaaDoorBe
import Derived.Test.YtdlnmkpojiofoaaDoorGMem
namespace Go.Proofs.YtdlnmkpojiofoaaDoor
open Go.RowKit
set_option linter.unusedVariables false
set_option linter.unusedSimpArgs false
set_option maxRecDepth 20000

/-- How many bytes a number takes. -/
def lebN (x : Nat) : Nat := if x < 128 then 1 else if x < 16384 then 2 else if x < 2097152 then 3 else 4
/-- Its bytes. -/
def leb (x : Nat) : List Int :=
  if x < 128 then [(x : Int)] else if x < 16384 then [((x % 128 + 128 : Nat) : Int), ((x / 128 : Nat) : Int)]
  else if x < 2097152 then [((x % 128 + 128 : Nat) : Int), ((x / 128 % 128 + 128 : Nat) : Int), ((x / 128 / 128 : Nat) : Int)]
  else [((x % 128 + 128 : Nat) : Int), ((x / 128 % 128 + 128 : Nat) : Int), ((x / 128 / 128 % 128 + 128 : Nat) : Int), ((x / 128 / 128 / 128 : Nat) : Int)]
/-- What ReadLeb128 gathers: the bytes, the first in front. -/
def lebE (x : Nat) : Nat :=
  if x < 128 then x else if x < 16384 then (x % 128 + 128) * 256 + x / 128
  else if x < 2097152 then ((x % 128 + 128) * 256 + (x / 128 % 128 + 128)) * 256 + x / 128 / 128
  else (((x % 128 + 128) * 256 + (x / 128 % 128 + 128)) * 256 + (x / 128 / 128 % 128 + 128)) * 256 + x / 128 / 128 / 128
theorem leb_len (x : Nat) : (leb x).length = lebN x := by
  unfold leb lebN
  split
  · rfl
  · split
    · rfl
    · split <;> rfl

theorem lsize_walk (x : Nat) (hx : x < 268435456) (w : World) :
    Calls Tryd.prog 70 #[.int .u64 (x : Int)] w fun e w' => e = .returned (.int .i64 (lebN x : Nat)) ∧ w = w' := by
  go_enter Tryd.func70, Tryd.ntmps70
  go_wp2_with fail
  go_loopw [0, 3] (fun s0 s3 wr => ∃ y j : Nat, s0 = .int .u64 (y : Int) ∧ s3 = .int .i64 (j : Int) ∧ wr = w ∧ ((j = 1 ∧ y = x / 128) ∨ (j = 2 ∧ y = x / 16384 ∧ 128 ≤ x) ∨ (j = 3 ∧ y = x / 2097152 ∧ 16384 ≤ x) ∨ (j = 4 ∧ y = 0 ∧ 2097152 ≤ x))) (fun s0 _ _ => (intOf s0).toNat)
  case atStart => exact ⟨x / 128, 1, by simp, rfl, rfl, .inl ⟨rfl, rfl⟩⟩
  case round =>
    obtain ⟨y, j, rfl, rfl, rfl, hc⟩ := hrel
    by_cases hy : y = 0
    · have e1 : ((y : Int) != 0) = false := by simp [hy]
      have hN : lebN x = j := by unfold lebN; split; omega; split; omega; split <;> omega
      have HN := hide hN
      clear hc hy hN
      go_wp2_with fail
      go_ret
      exact ⟨by rw [HN.out]; rfl, rfl⟩
    · have e1 : ((y : Int) != 0) = true := by simp; omega
      have HC := hide hc
      have hj : j ≤ 4 := by omega
      clear hc
      go_wp2_with fail
      go_roundw
      case rel =>
        have hc := HC.out
        exact ⟨y / 128, j + 1, by simp, by go_num, by first | rfl | trivial, by omega⟩
      case measure => simp [intOf]; omega

def decD : Nat → Nat → Nat → Option Nat
  | 0, _, _ => none
  | n + 1, a, b => if a / 256 = 0 then some (b + a % 128) else decD n (a / 256) ((b + a % 128) * 128)
theorem decS (n r s b : Nat) (hs : s < 256) (hr : r ≠ 0) : decD (n + 1) (r * 256 + s) b = decD n r ((b + s % 128) * 128) := by
  have e1 : (r * 256 + s) / 256 = r := by omega
  have e2 : (r * 256 + s) % 128 = s % 128 := by omega
  simp only [decD, e1, e2, if_neg hr]
theorem decB (n s b : Nat) (hs : s < 256) : decD (n + 1) s b = some (b + s % 128) := by
  have e1 : s / 256 = 0 := by omega
  simp only [decD, e1, if_pos]
theorem decD_leb (x : Nat) (hx : x < 268435456) : decD 4 (lebE x) 0 = some x := by
  obtain ⟨p, hp⟩ : ∃ p, p = x / 128 := ⟨_, rfl⟩
  obtain ⟨q, hq⟩ : ∃ q, q = p / 128 := ⟨_, rfl⟩
  obtain ⟨r, hr⟩ : ∃ r, r = q / 128 := ⟨_, rfl⟩
  have x1 : x % 128 < 128 := Nat.mod_lt _ (by decide)
  have p1 : p % 128 < 128 := Nat.mod_lt _ (by decide)
  have q1 : q % 128 < 128 := Nat.mod_lt _ (by decide)
  unfold lebE
  rw [← hp, ← hq, ← hr]
  split
  · rw [decB _ _ _ (by omega)]
    congr 1; omega
  · split
    · rw [decS _ _ _ _ (by omega) (by omega), decB _ _ _ (by omega)]
      congr 1; omega
    · split
      · rw [decS _ _ _ _ (by omega) (by omega), decS _ _ _ _ (by omega) (by omega), decB _ _ _ (by omega)]
        congr 1; omega
      · rw [decS _ _ _ _ (by omega) (by omega), decS _ _ _ _ (by omega) (by omega), decS _ _ _ _ (by omega) (by omega), decB _ _ _ (by omega)]
        congr 1; omega

set_option maxHeartbeats 1600000 in
theorem ldec_walk (x : Nat) (hx : x < 268435456) (w : World) :
    Calls Tryd.prog 37 #[.int .u64 (lebE x : Nat)] w fun e w' => e = .returned (.int .u64 (x : Int)) ∧ w = w' := by
  have hD := hide (decD_leb x hx)
  have hb : lebE x < 4294967296 := by unfold lebE; split; omega; split; omega; split <;> omega
  generalize lebE x = y at *
  go_enter Tryd.func37, Tryd.ntmps37
  go_wp2_with fail
  go_loopw [0, 2] (fun s0 s2 wr => ∃ n a b : Nat, s0 = .int .u64 (a : Int) ∧ s2 = .int .u64 (b : Int) ∧ wr = w ∧ n ≤ 4 ∧ a < 4294967296 ∧ decD n a b = some x ∧ b % 128 = 0 ∧ b < 128 ^ (5 - n)) (fun s0 _ _ => (intOf s0).toNat)
  case atStart => exact ⟨4, y, 0, rfl, rfl, rfl, Nat.le_refl _, hb, hD.out, rfl, by decide⟩
  case round =>
    obtain ⟨n, a, b, rfl, rfl, rfl, hn, ha, hd, hb1, hb2⟩ := hrel
    match n, hd with
    | n + 1, hd =>
    have hbb : b < 268435456 := Nat.lt_of_lt_of_le hb2 (show 128 ^ (5 - (n + 1)) ≤ 268435456 from Nat.le_trans (Nat.pow_le_pow_right (by decide) (show 5 - (n + 1) ≤ 4 by omega)) (by decide))
    have q1 : bits .and .u64 (a : Int) 127 = (a : Int) % 128 := and64 7 (a : Int) 127 (by omega) (by omega) (by decide) (by decide)
    have q2 : bits .or .u64 (b : Int) ((a : Int) % 128) = (b : Int) + (a : Int) % 128 := or64 7 _ _ (by omega) (by omega) (by omega) (by omega) (by decide) (by omega)
    have HD := hide hd
    clear hd
    by_cases h0 : a / 256 = 0
    · have e1 : (((a : Int) / 256) == 0) = true := by simp; omega
      have HX := hide (show b + a % 128 = x by have h := HD.out; simp only [decD, h0, if_pos] at h; injection h)
      go_wp2_with fail
      go_ret
      exact ⟨by have h := HX.out; subst h; simp, rfl⟩
    · have e1 : (((a : Int) / 256) == 0) = false := by simp; omega
      have HX := hide (show decD n (a / 256) ((b + a % 128) * 128) = some x by have h := HD.out; simp only [decD, if_neg h0] at h; exact h)
      have hn1 : n ≤ 3 := by omega
      have hb3 : (b + a % 128) * 128 < 128 ^ (5 - n) := by
        have e : 128 ^ (5 - n) = 128 ^ (5 - (n + 1)) * 128 := by rw [← Nat.pow_succ]; congr 1; omega
        have e2 : 128 ^ (5 - (n + 1)) = 128 ^ (5 - (n + 1) - 1) * 128 := by rw [← Nat.pow_succ]; congr 1; omega
        rw [e]
        refine Nat.mul_lt_mul_of_pos_right ?_ (by decide)
        rw [e2] at hb2 ⊢
        generalize 128 ^ (5 - (n + 1) - 1) = z at *
        omega
      have HB3 := hide hb3
      have H0 := hide h0
      have HB2 := hide hb2
      clear hb3 h0 hb2
      go_wp2_with fail
      go_roundw
      case rel => exact ⟨n, a / 256, (b + a % 128) * 128, by simp, by simp, by first | rfl | trivial, by omega, by omega, HX.out, by omega, HB3.out⟩
      case measure => have := H0.out; simp [intOf]; omega
end Go.Proofs.YtdlnmkpojiofoaaDoor
