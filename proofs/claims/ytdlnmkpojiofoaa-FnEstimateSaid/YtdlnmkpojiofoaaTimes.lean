/-
  What toNtpTime, toTime and the functions over them compute, each for the arguments that the laws hand on; then the arithmetic of the two laws FnTimes and FnEstimate. Conditions: those that stand in each theorem.
-/
import Derived.Test.YtdlnmkpojiofoaaRows
import Derived.WalkKit
import Derived.Laws.BitsAllLaws
namespace Go.Proofs.Ytdlnmkpojiofoaa
open Go.RowKit
set_option linter.unusedVariables false

/-- The NTP time of nanoseconds since 1970, and the way back. -/
def nt (n : Int) : Int := (n / 1000000000 + 2208988800) * 4294967296 + (n % 1000000000 * 4294967296) / 1000000000
def tt (t : Int) : Int := (t / 4294967296 - 2208988800) * 1000000000 + (t % 4294967296 * 1000000000) / 4294967296

theorem ret_int {k : IntKind} {a b : Int} (h : a = b) : Ending.returned (.int k a) = .returned (.int k b) := by rw [h]

/-! ### the bits -/
theorem or_join (i : Nat) (a b : Int) (h0 : 0 ≤ a) (ha : a < 18446744073709551616) (hb0 : 0 ≤ b) (hb : b < 2 ^ i) (hi : (2 : Int) ^ i ≤ 18446744073709551616) (hd : a % 2 ^ i = 0) :
    bits .or .u64 a b = a + b := by
  obtain ⟨x, rfl⟩ := Int.eq_ofNat_of_zero_le h0
  obtain ⟨y, rfl⟩ := Int.eq_ofNat_of_zero_le hb0
  rw [u64_or_nat x y (by omega) (by omega), nat_join i x y (by exact_mod_cast hd) (by exact_mod_cast hb)]
  omega
theorem and_low (i : Nat) (a : Int) (m : Nat) (h0 : 0 ≤ a) (ha : a < 18446744073709551616) (hm : m = 2 ^ i - 1) (hm' : m < 18446744073709551616) :
    bits .and .u64 a (m : Int) = a % 2 ^ i := by
  obtain ⟨x, rfl⟩ := Int.eq_ofNat_of_zero_le h0
  rw [u64_and_nat x m (by omega) hm', hm, Nat.and_two_pow_sub_one_eq_mod]
  exact_mod_cast rfl
/-- The mask of all but the low 38 bits. -/
theorem and_high (a : Int) (h0 : 0 ≤ a) (ha : a < 18446744073709551616) :
    bits .and .u64 a 18446743798831644672 = a / 274877906944 * 274877906944 := by
  obtain ⟨x, rfl⟩ := Int.eq_ofNat_of_zero_le h0
  have hx : x < 18446744073709551616 := by omega
  have e1 : bits .and .u64 (x : Int) 18446743798831644672 = ((x &&& 18446743798831644672 : Nat) : Int) := u64_and_nat x 18446743798831644672 hx (by decide)
  have e2 : x &&& 18446743798831644672 = x / 274877906944 * 274877906944 := by
    have h : x &&& 18446743798831644672 = (x >>> 38 &&& 67108863) <<< 38 := by
      apply Nat.eq_of_testBit_eq
      intro j
      have hc : (18446743798831644672 : Nat) = 67108863 <<< 38 := by decide
      rw [hc]
      simp only [Nat.testBit_and, Nat.testBit_shiftLeft, Nat.testBit_shiftRight]
      by_cases hj : 38 ≤ j
      · have : 38 + (j - 38) = j := by omega
        simp [hj, this]
      · simp [hj]
    rw [h, show (67108863 : Nat) = 2 ^ 26 - 1 from by decide, Nat.and_two_pow_sub_one_eq_mod, Nat.shiftLeft_eq, Nat.shiftRight_eq_div_pow]
    omega
  rw [e1, e2]
  omega

/-! ### the functions -/
theorem nt_bd (n : Int) (h0 : 0 ≤ n) (h1 : n < 2085978496000000000) : 9487534653230284800 ≤ nt n ∧ nt n < 18446744073709551616 := by
  unfold nt; omega

theorem to_ntp (n : Int) (h0 : 0 ≤ n) (h1 : n < 2085978496000000000) (w : World) :
    Calls Try.prog 13 #[.int .i64 n] w fun e w' => e = .returned (.int .u64 (nt n)) ∧ w = w' := by
  go_enter Try.func13, Try.ntmps13
  go_wp2
  go_ret
  refine ⟨ret_int ?_, rfl⟩
  show bits .or .u64 _ _ = _
  rw [or_join 32 _ _ (by omega) (by omega) (by omega) (by omega) (by decide) (by omega)]
  rfl

theorem to_time (t : Int) (h0 : 9487534653230284800 ≤ t) (h1 : t < 18446744073709551616) (w : World) :
    Calls Try.prog 14 #[.int .u64 t] w fun e w' => e = .returned (.int .i64 (tt t)) ∧ w = w' := by
  have h00 : 0 ≤ t := by omega
  have e : bits .and .u64 t 4294967295 = t % 4294967296 := and_low 32 t 4294967295 (by omega) h1 (by decide) (by decide)
  go_enter Try.func14, Try.ntmps14
  go_wp2
  go_ret
  exact ⟨rfl, rfl⟩

theorem send_time_of (n : Int) (h0 : 0 ≤ n) (h1 : n < 2085978496000000000) (w : World) :
    Calls Try.prog 7 #[.int .i64 n] w fun e w' => e = .returned (.int .u64 (nt n / 16384)) ∧ Grown w w' := by
  have b := nt_bd n h0 h1
  have b0 : 0 ≤ nt n := by omega
  go_enter Try.func7, Try.ntmps7
  go_wp2_with (first | (go_at_call 13; refine (to_ntp n h0 h1 _).mono ?_; rintro e w' ⟨rfl, rfl⟩) | go_in)
  go_ret
  exact ⟨rfl, by repeat (first | exact Grown.refl _ | apply Grown.drew | apply Grown.alloc)⟩

theorem near (n d : Int) (h0 : 0 ≤ n) (h2 : 0 ≤ d) (h3 : d ≤ 60000000000) : 0 ≤ nt (n + d) - nt n ∧ nt (n + d) - nt n ≤ 60 * 4294967296 + 1 := by
  unfold nt; constructor <;> omega

/-- The time of sending with the bits of the time of receiving above it. -/
def up (T R : Int) : Int := R / 274877906944 * 274877906944 + T * 16384
theorem up_est (S R : Int) (h1 : S ≤ R) (h2 : R ≤ S + 60 * 4294967296 + 1) :
    (R < up (S / 16384 % 16777216) R → up (S / 16384 % 16777216) R - 274877906944 = S - S % 16384) ∧ (¬ R < up (S / 16384 % 16777216) R → up (S / 16384 % 16777216) R = S - S % 16384) := by
  unfold up
  constructor <;> intro <;> omega
theorem est_near (n : Int) (h0 : 0 ≤ n) (h1 : n < 2085978000000000000) :
    tt (nt n - nt n % 16384) - n ≤ 4000 ∧ n - tt (nt n - nt n % 16384) ≤ 4000 := by
  unfold tt nt
  generalize hq : n / 1000000000 = q
  generalize hr : n % 1000000000 = r
  have : n = q * 1000000000 + r := by omega
  have hr0 : 0 ≤ r := by omega
  have hr1 : r < 1000000000 := by omega
  generalize hf : r * 4294967296 / 1000000000 = f
  have hf0 : 0 ≤ f := by omega
  have hf1 : f < 4294967296 := by omega
  have e1 : ((q + 2208988800) * 4294967296 + f) % 16384 = f % 16384 := by omega
  rw [e1]
  have e2 : ((q + 2208988800) * 4294967296 + f - f % 16384) / 4294967296 = q + 2208988800 := by omega
  have e3 : ((q + 2208988800) * 4294967296 + f - f % 16384) % 4294967296 = f - f % 16384 := by omega
  rw [e2, e3]
  refine ⟨?_, ?_⟩ <;> omega
theorem back_near (n : Int) : tt (nt n) - n ≤ 1 ∧ n - tt (nt n) ≤ 1 ∧ nt n / 4294967296 = n / 1000000000 + 2208988800 := by
  unfold tt nt
  generalize hq : n / 1000000000 = q
  generalize hr : n % 1000000000 = r
  have : n = q * 1000000000 + r := by omega
  have hr0 : 0 ≤ r := by omega
  have hr1 : r < 1000000000 := by omega
  generalize hf : r * 4294967296 / 1000000000 = f
  have hf0 : 0 ≤ f := by omega
  have hf1 : f < 4294967296 := by omega
  have e2 : ((q + 2208988800) * 4294967296 + f) / 4294967296 = q + 2208988800 := by omega
  have e3 : ((q + 2208988800) * 4294967296 + f) % 4294967296 = f := by omega
  rw [e2, e3]
  refine ⟨?_, ?_, ?_⟩ <;> omega

theorem estimate (T n d : Int) (hT : T = nt n / 16384 % 16777216) (h0 : 0 ≤ n) (h1 : n < 2085978000000000000) (h2 : 0 ≤ d) (h3 : d ≤ 60000000000) (w : World) :
    Calls Try.prog 8 #[.int .u64 T, .int .i64 (n + d)] w fun e w' => e = .returned (.int .i64 (tt (nt n - nt n % 16384))) ∧ Grown w w' := by
  have T0 : 0 ≤ T := by omega
  have T1 : T < 16777216 := by omega
  have b := nt_bd n h0 (by omega)
  have c := nt_bd (n + d) (by omega) (by omega)
  have nr := near n d h0 h2 h3
  have ue := up_est (nt n) (nt (n + d)) (by omega) (by omega)
  rw [← hT] at ue
  have m1 : bits .and .u64 (nt (n + d)) 18446743798831644672 = nt (n + d) / 274877906944 * 274877906944 := and_high _ (by omega) (by omega)
  have m2 : bits .and .u64 T 16777215 = T := by rw [show (16777215 : Int) = ((16777215 : Nat) : Int) from rfl, and_low 24 T 16777215 (by omega) (by omega) (by decide) (by decide)]; omega
  have m3 : bits .or .u64 (nt (n + d) / 274877906944 * 274877906944) (T * 16384) = up T (nt (n + d)) := or_join 38 _ _ (by omega) (by omega) (by omega) (by omega) (by decide) (by omega)
  have u0 : 0 ≤ up T (nt (n + d)) := by unfold up; omega
  have u1 : up T (nt (n + d)) < 18446744073709551616 := by unfold up; omega
  clear hT
  by_cases hlt : nt (n + d) < up T (nt (n + d))
  · have H := ue.1 hlt
    have u2 : 274877906944 ≤ up T (nt (n + d)) := by omega
    have q0 : 9487534653230284800 ≤ up T (nt (n + d)) - 274877906944 := by omega
    rw [← H]
    clear H ue
    go_enter Try.func8, Try.ntmps8
    go_wp2_with (first | (go_at_call 13; refine (to_ntp _ (by omega) (by omega) _).mono ?_; rintro e w' ⟨rfl, rfl⟩) | (go_at_call 14; refine (to_time _ (by omega) (by omega) _).mono ?_; rintro e w' ⟨rfl, rfl⟩) | go_in)
    go_ret
    exact ⟨rfl, by repeat (first | exact Grown.refl _ | apply Grown.drew | apply Grown.alloc)⟩
  · have H := ue.2 hlt
    have q0 : 9487534653230284800 ≤ up T (nt (n + d)) := by omega
    rw [← H]
    clear H ue
    go_enter Try.func8, Try.ntmps8
    go_wp2_with (first | (go_at_call 13; refine (to_ntp _ (by omega) (by omega) _).mono ?_; rintro e w' ⟨rfl, rfl⟩) | (go_at_call 14; refine (to_time _ (by omega) (by omega) _).mono ?_; rintro e w' ⟨rfl, rfl⟩) | go_in)
    go_ret
    exact ⟨rfl, by repeat (first | exact Grown.refl _ | apply Grown.drew | apply Grown.alloc)⟩

end Go.Proofs.Ytdlnmkpojiofoaa
