/-
  LEB128 read. Conditions: those that stand in each theorem.
-/
import Derived.Test.YtdlnmkpojiofoaaDoorVl2
namespace Go.Proofs.YtdlnmkpojiofoaaDoor
open Go.RowKit
set_option linter.unusedVariables false
set_option linter.unusedSimpArgs false
set_option maxRecDepth 20000

def encL (l : List Int) : Int := l.foldl (fun a b => a * 256 + b) 0
theorem encL_snoc (l : List Int) (z : Int) : encL (l ++ [z]) = encL l * 256 + z := by simp [encL, List.foldl_append]
theorem encL_b : ∀ (l : List Int), IsB l → l.length ≤ 4 → 0 ≤ encL l ∧ encL l < 4294967296 ∧ (l.length ≤ 3 → encL l < 16777216)
  | [], _, _ => by simp [encL]
  | [a], h, _ => by have := h a (by simp); simp [encL]; omega
  | [a, b], h, _ => by have := h a (by simp); have := h b (by simp); simp [encL]; omega
  | [a, b, c], h, _ => by have := h a (by simp); have := h b (by simp); have := h c (by simp); simp [encL]; omega
  | [a, b, c, d], h, _ => by have := h a (by simp); have := h b (by simp); have := h c (by simp); have := h d (by simp); simp [encL]; omega
  | _ :: _ :: _ :: _ :: _ :: _, _, h => by simp at h
theorem encL_leb (x : Nat) : encL (leb x) = (lebE x : Nat) := by
  unfold leb lebE encL
  by_cases h1 : x < 128
  · simp only [if_pos h1, List.foldl]; omega
  · by_cases h2 : x < 16384
    · simp only [if_neg h1, if_pos h2, List.foldl]; omega
    · by_cases h3 : x < 2097152
      · simp only [if_neg h1, if_neg h2, if_pos h3, List.foldl]; omega
      · simp only [if_neg h1, if_neg h2, if_neg h3, List.foldl]; omega
theorem leb_at {x i : Nat} {z : Int} (hx : x < 268435456) (h : (leb x)[i]? = some z) : 0 ≤ z ∧ z < 256 ∧ ((i + 1 < lebN x ∧ 128 ≤ z) ∨ (i + 1 = lebN x ∧ z < 128)) := by
  induction i generalizing x with
  | zero =>
    by_cases h1 : x < 128
    · rw [leb_lo h1] at h
      have hl : lebN x = 1 := by unfold lebN; rw [if_pos h1]
      simp at h
      omega
    · rw [leb_hi (by omega) hx] at h
      have hl : 1 < lebN x := by unfold lebN; rw [if_neg h1]; (repeat' split) <;> omega
      simp only [List.getElem?_cons_zero, Option.some.injEq] at h
      omega
  | succ i ih =>
    by_cases h1 : x < 128
    · rw [leb_lo h1] at h
      simp at h
    · have hl := leb_len x
      rw [leb_hi (by omega) hx] at h hl
      rw [List.length_cons, leb_len] at hl
      have := ih (x := x / 128) (by omega) (by simpa using h)
      omega

set_option maxHeartbeats 1600000 in
theorem rleb_walk {p : Nat → Prop} {x n c : Nat} {A : Option Addr} {rest : List Int} (w : World) (h : Rd w p 1 (.slice A n c) n (B8 (leb x ++ rest))) (hx : x < 268435456) :
    Calls Tryd.prog 36 #[.slice A n c] w fun e w' => e = .returned (.tuple #[.int .u64 (x : Int), .int .u64 (lebN x : Nat), .nilIface]) ∧ w = w' := by
  have hn : n = (leb x).length + rest.length := by have := h.len; rw [B8_len, List.length_append] at this; omega
  have hl := leb_len x
  have hlb := lebN_b x
  obtain ⟨b, o, c', hv, hnc, hcm, _, _, hcell⟩ := h.lit (by omega)
  injection hv with e1 _ e3
  subst e1 e3
  have HCELL := hide hcell
  have hnl : lebN x ≤ n := by omega
  have hni : (n : Int) ≤ 9223372036854775807 := by have := hcm; simp only [maxLen] at this; omega
  have hD := hide (ldec_walk x hx)
  have HN := hide hn
  have HL := hide hl
  clear hcell h hn hl
  go_enter Tryd.func36, Tryd.ntmps36
  go_wp2_with fail
  go_loopw [5, 9] (fun s5 s9 wr => ∃ i : Nat, s9 = .int .i64 (i : Int) ∧ i < lebN x ∧ s5 = .int .u64 (256 * encL ((leb x).take i)) ∧ wr = w) (fun _ s9 _ => n - (intOf s9).toNat)
  case atStart => exact ⟨0, rfl, by omega, by simp [encL], rfl⟩
  case round =>
    obtain ⟨i, rfl, hi, rfl, rfl⟩ := hrel
    have hl := HL.out
    have hgi : (leb x)[i]? = some ((leb x)[i]'(by omega)) := List.getElem?_eq_getElem _
    have hz := leb_at hx hgi
    have htk : (leb x).take (i + 1) = (leb x).take i ++ [(leb x)[i]'(by omega)] := List.take_succ_eq_append_getElem (by omega)
    have hce := HCELL.out i _ (show (B8 (leb x ++ rest))[i]? = some (.int .u8 ((leb x)[i]'(by omega))) from B8_get (by rw [List.getElem?_append_left (by omega)]; exact hgi))
    have hbnd := encL_b ((leb x).take i) (fun z hz => leb_isB x hx z (List.mem_of_mem_take hz)) (by rw [List.length_take]; omega)
    have hb3 := hbnd.2.2 (by rw [List.length_take]; omega)
    have hes := encL_snoc ((leb x).take i) ((leb x)[i]'(by omega))
    rw [← htk] at hes
    generalize (leb x)[i]'(by omega) = z at *
    have HES := hide hes
    generalize hE : encL ((leb x).take i) = E at *
    have kl : (i : Int) < (n : Int) := by omega
    have q1 : bits .or .u64 (256 * E) z = 256 * E + z := or64 8 _ _ (by omega) (by omega) (by omega) (by omega) (by decide) (by omega)
    have qz : IntKind.u64.wrap z = z := by rw [IntKind.wrap_u64]; omega
    clear hgi hes hE htk hl
    by_cases h0 : z < 128
    · have q2 : bits .and .u8 z 128 = 0 := by
        have : bits .and .u8 z (128 : Nat) = z / 2 ^ 7 % 2 ^ 1 * 2 ^ 7 := and8m 1 7 z 128 (by omega) (by omega) (by decide) (by decide)
        rw [show (128 : Int) = ((128 : Nat) : Int) by rfl, this]; omega
      have hiN : i + 1 = lebN x := by omega
      have hEE : 256 * E + z = (lebE x : Nat) := by
        have h1 := HES.out
        rw [hiN, ← HL.out, List.take_length, encL_leb] at h1
        omega
      rw [hEE] at q1
      have HIN := hide hiN
      clear hEE hiN hz
      go_wp2_with fail
      refine (hD.out wr).mono ?_
      rintro e w1 ⟨rfl, rfl⟩
      go_wp2_with fail
      refine bodyPost_ret (v := .tuple #[.int .u64 (x : Int), .int .u64 ((i : Int) + 1), .nilIface]) (by simp [results, Tryd.results36, go_sem]) rfl ?_
      exact ⟨by rw [← HIN.out]; simp, rfl⟩
    · have q2 : bits .and .u8 z 128 = 128 := by
        have : bits .and .u8 z (128 : Nat) = z / 2 ^ 7 % 2 ^ 1 * 2 ^ 7 := and8m 1 7 z 128 (by omega) (by omega) (by decide) (by decide)
        rw [show (128 : Int) = ((128 : Nat) : Int) by rfl, this]; omega
      have hiN : i + 1 < lebN x := by omega
      have q3 : IntKind.u64.wrap ((256 * E + z) * 256) = (256 * E + z) * 256 := by rw [IntKind.wrap_u64]; omega
      have HZ := hide hz
      clear hz
      go_wp2_with fail
      go_roundw
      case rel =>
        exact ⟨i + 1, by go_num, hiN, by rw [HES.out]; congr 1; omega, by first | rfl | trivial⟩
      case measure => simp [intOf]; omega
end Go.Proofs.YtdlnmkpojiofoaaDoor
