/-
  Reading a header and a packet, as plain things; what is written is read back. Conditions: those that stand in each theorem.
-/
import Derived.Test.YtdmnflngafbobaaDoorOut
namespace Go.Proofs.YtdmnflngafbobaaDoor
open Go.RowKit
set_option linter.unusedVariables false
set_option linter.unusedSimpArgs false

def g8 (bs : List Int) (i : Nat) : Int := bs.getD i 0
def g16 (bs : List Int) (i : Nat) : Int := g8 bs i * 256 + g8 bs (i + 1)
def g32 (bs : List Int) (i : Nat) : Int := g16 bs i * 65536 + g16 bs (i + 2)
/-- The extensions of a block of one or of two bytes. -/
def readX (two : Bool) : Nat → List Int → Option (List Ex)
  | 0, _ => some []
  | _ + 1, [] => some []
  | k + 1, b :: bs =>
    if b = 0 then readX two k bs
    else if two then
      match bs with
      | [] => none
      | n :: r => if r.length < n.toNat then none else (readX two k (r.drop n.toNat)).map (⟨b, r.take n.toNat⟩ :: ·)
    else if bs.length < (b % 16).toNat + 1 ∨ b / 16 = 15 ∨ b / 16 = 0 then none
    else (readX two k (bs.drop ((b % 16).toNat + 1))).map (⟨b / 16, bs.take ((b % 16).toNat + 1)⟩ :: ·)
def rx (two : Bool) (bs : List Int) : Option (List Ex) := readX two bs.length bs

theorem readX_fuel (two : Bool) : ∀ (k1 k2 : Nat) (bs : List Int), bs.length ≤ k1 → bs.length ≤ k2 → readX two k1 bs = readX two k2 bs
  | 0, k2, bs, h1, h2 => by
    have : bs = [] := List.eq_nil_of_length_eq_zero (by omega)
    subst this
    cases k2 <;> rfl
  | k1 + 1, k2, [], h1, h2 => by cases k2 <;> rfl
  | k1 + 1, 0, b :: bs, h1, h2 => by simp at h2
  | k1 + 1, k2 + 1, b :: bs, h1, h2 => by
    simp only [List.length_cons] at h1 h2
    have ih := fun (l : List Int) (hl : l.length ≤ bs.length) => readX_fuel two k1 k2 l (by omega) (by omega)
    unfold readX
    rw [ih bs (Nat.le_refl _)]
    cases bs with
    | nil => simp only [List.drop_nil]; rw [ih [] (Nat.le_refl _)]
    | cons n r =>
      simp only
      rw [ih (r.drop n.toNat) (by simp; omega), ih ((n :: r).drop ((b % 16).toNat + 1)) (by simp; omega)]

theorem rx_nil (two : Bool) : rx two [] = some [] := rfl
theorem rx_zero (two : Bool) (bs : List Int) : rx two (0 :: bs) = rx two bs := by
  show readX two (bs.length + 1) (0 :: bs) = _
  unfold readX
  rw [if_pos rfl]
  rfl
theorem rx_two1 (b : Int) (hb : b ≠ 0) : rx true [b] = none := by
  show readX true 1 [b] = _
  unfold readX
  rw [if_neg hb]
  rfl
theorem rx_two (b n : Int) (r : List Int) (hb : b ≠ 0) : rx true (b :: n :: r) = if r.length < n.toNat then none else (rx true (r.drop n.toNat)).map (⟨b, r.take n.toNat⟩ :: ·) := by
  show readX true (r.length + 1 + 1) (b :: n :: r) = _
  unfold readX
  rw [if_neg hb]
  simp only [if_true]
  rw [readX_fuel true (r.length + 1) (r.drop n.toNat).length _ (by simp; omega) (Nat.le_refl _)]
  rfl
theorem rx_one (b : Int) (bs : List Int) (hb : b ≠ 0) : rx false (b :: bs) = if bs.length < (b % 16).toNat + 1 ∨ b / 16 = 15 ∨ b / 16 = 0 then none else (rx false (bs.drop ((b % 16).toNat + 1))).map (⟨b / 16, bs.take ((b % 16).toNat + 1)⟩ :: ·) := by
  show readX false (bs.length + 1) (b :: bs) = _
  unfold readX
  rw [if_neg hb]
  simp only [Bool.false_eq_true, if_false]
  rw [readX_fuel false bs.length (bs.drop ((b % 16).toNat + 1)).length _ (by simp) (Nat.le_refl _)]
  rfl

/-- The extensions of a block, by its profile. -/
def extsOf (prof : Int) (bs : List Int) : Option (List Ex) :=
  if plainB prof = false then none
  else if prof ≠ 48862 ∧ prof ≠ 4096 then some [⟨0, bs⟩]
  else rx (decide (prof = 4096)) bs

def cc (bs : List Int) : Nat := (g8 bs 0 % 16).toNat
/-- A header's fields, without its extensions. -/
def headR (bs : List Int) : Hd :=
  { v := g8 bs 0 / 64, pad := decide (g8 bs 0 / 32 % 2 = 1), ext := decide (g8 bs 0 / 16 % 2 = 1), mark := decide (g8 bs 1 / 128 = 1), ty := g8 bs 1 % 128, seq := g16 bs 2, time := g32 bs 4, ssrc := g32 bs 8,
    srcs := (List.range (cc bs)).map fun i => g32 bs (12 + 4 * i), prof := 0, exts := [], padn := 0 }
inductive Rres where
  | bad
  | wide
  | good (h : Hd) (n : Nat)
/-- What the reference reads. -/
def readB (bs : List Int) : Rres :=
  if bs.length < 12 then .bad
  else if bs.length < 12 + 4 * cc bs then .bad
  else if g8 bs 0 / 64 ≠ 2 then .wide
  else if (headR bs).ext = false then .good (headR bs) (12 + 4 * cc bs)
  else if bs.length < 12 + 4 * cc bs + 4 then .bad
  else if bs.length < 12 + 4 * cc bs + 4 + 4 * (g16 bs (12 + 4 * cc bs + 2)).toNat then .bad
  else match extsOf (g16 bs (12 + 4 * cc bs)) ((bs.drop (12 + 4 * cc bs + 4)).take (4 * (g16 bs (12 + 4 * cc bs + 2)).toNat)) with
    | none => .wide
    | some xs => .good { headR bs with prof := g16 bs (12 + 4 * cc bs), exts := xs } (12 + 4 * cc bs + 4 + 4 * (g16 bs (12 + 4 * cc bs + 2)).toNat)
inductive Pres where
  | bad
  | wide
  | good (h : Hd) (payload : List Int)
def readP (bs : List Int) : Pres :=
  match readB bs with
  | .bad => .bad
  | .wide => .wide
  | .good h n =>
    if h.pad = false then .good h (bs.drop n)
    else if bs.length ≤ n then .bad
    else if g8 bs (bs.length - 1) = 0 then .wide
    else if bs.length - n < (g8 bs (bs.length - 1)).toNat then .bad
    else .good { h with padn := g8 bs (bs.length - 1) } ((bs.drop n).take (bs.length - n - (g8 bs (bs.length - 1)).toNat))

/-! ### what is written is read back -/
theorem rx_zeros (two : Bool) : ∀ k : Nat, rx two (List.replicate k 0) = some []
  | 0 => rfl
  | k + 1 => by rw [List.replicate_succ, rx_zero, rx_zeros two k]
theorem rx_xsb_one : ∀ (xs : List Ex) (k : Nat), fitsAll 48862 xs = true → rx false (xsb 48862 xs ++ List.replicate k 0) = some xs
  | [], k, _ => by simpa [xsb] using rx_zeros false k
  | x :: xs, k, h => by
    simp only [fitsAll, List.all_cons, Bool.and_eq_true] at h
    have ih := rx_xsb_one xs k h.2
    have hf : 1 ≤ x.id ∧ x.id ≤ 14 ∧ 1 ≤ x.data.length ∧ x.data.length ≤ 16 := by simpa [fitsB] using h.1
    have e1 : xsb 48862 (x :: xs) ++ List.replicate k 0 = (x.id * 16 + ((x.data.length : Int) - 1)) :: (x.data ++ (xsb 48862 xs ++ List.replicate k 0)) := by
      simp [xsb, xb]
    have e2 : ((x.id * 16 + ((x.data.length : Int) - 1)) % 16).toNat + 1 = x.data.length := by omega
    have e3 : (x.id * 16 + ((x.data.length : Int) - 1)) / 16 = x.id := by omega
    rw [e1, rx_one _ _ (by omega), e2, e3, if_neg (by simp; omega), List.drop_left, List.take_left, ih]
    rfl
theorem rx_xsb_two : ∀ (xs : List Ex) (k : Nat), fitsAll 4096 xs = true → rx true (xsb 4096 xs ++ List.replicate k 0) = some xs
  | [], k, _ => by simpa [xsb] using rx_zeros true k
  | x :: xs, k, h => by
    simp only [fitsAll, List.all_cons, Bool.and_eq_true] at h
    have ih := rx_xsb_two xs k h.2
    have hf : 1 ≤ x.id ∧ x.data.length ≤ 255 := by simpa [fitsB] using h.1
    have e1 : xsb 4096 (x :: xs) ++ List.replicate k 0 = x.id :: (x.data.length : Int) :: (x.data ++ (xsb 4096 xs ++ List.replicate k 0)) := by
      simp [xsb, xb]
    rw [e1, rx_two _ _ _ (by omega), Int.toNat_natCast, if_neg (by simp), List.drop_left, List.take_left, ih]
    rfl
theorem extsOf_extsB {prof : Int} {xs : List Ex} {e : List Int} (h : extsB prof xs = some e) : extsOf prof e = some xs := by
  unfold extsB at h
  unfold extsOf
  split at h
  · cases h
  · rename_i hp
    rw [if_neg hp]
    split at h
    · rename_i h1
      rw [if_pos h1]
      unfold own1 at h
      split at h
      · rename_i x
        split at h
        · rename_i h2
          injection h with h
          subst h
          obtain ⟨id, d⟩ := x
          obtain ⟨rfl, _⟩ := h2
          rfl
        · cases h
      · cases h
    · rename_i h1
      rw [if_neg h1]
      split at h
      · rename_i h2
        injection h with h
        subst h
        by_cases h3 : prof = 4096
        · subst h3
          exact rx_xsb_two xs _ h2
        · have h4 : prof = 48862 := by
            by_cases q : prof = 48862
            · exact q
            · exact absurd ⟨q, h3⟩ h1
          subst h4
          exact rx_xsb_one xs _ h2
      · cases h

theorem g8_app (A B : List Int) (i : Nat) : g8 (A ++ B) (A.length + i) = g8 B i := by
  unfold g8 List.getD
  rw [List.getElem?_append_right (by omega)]
  simp
theorem g16_app (A B : List Int) (i : Nat) : g16 (A ++ B) (A.length + i) = g16 B i := by
  unfold g16; rw [Nat.add_assoc, g8_app, g8_app]
theorem g32_app (A B : List Int) (i : Nat) : g32 (A ++ B) (A.length + i) = g32 B i := by
  unfold g32; rw [Nat.add_assoc, g16_app, g16_app]
theorem g16_by {x : Int} (R : List Int) (hx : 0 ≤ x ∧ x < 65536) : g16 (by16 x ++ R) 0 = x := by
  simp [g16, g8, by16, List.getD]; omega
theorem g32_by {x : Int} (R : List Int) (hx : 0 ≤ x ∧ x < 4294967296) : g32 (by32 x ++ R) 0 = x := by
  simp [g32, g16, g8, by32, by16, List.getD]; omega
theorem g32_srcs : ∀ (s : List Int) (R : List Int) (i : Nat) (hi : i < s.length), (∀ x ∈ s, 0 ≤ x ∧ x < 4294967296) → g32 (s.flatMap by32 ++ R) (4 * i) = s[i]
  | x :: s, R, 0, _, h => by
    rw [List.flatMap_cons, List.append_assoc]
    exact g32_by _ (h x (by simp))
  | x :: s, R, i + 1, hi, h => by
    have ih := g32_srcs s R i (by simpa using hi) (fun y hy => h y (by simp [hy]))
    rw [List.flatMap_cons, List.append_assoc, show 4 * (i + 1) = (by32 x).length + 4 * i by simp [by32, by16]; omega, g32_app, ih]
    rfl

theorem head_back {hd : Hd} (hg : Good hd) (R : List Int) : headR (headB hd ++ R) = { hd with prof := 0, exts := [], padn := 0 } ∧ cc (headB hd ++ R) = hd.srcs.length := by
  have hs := hg.srcs
  have ht := hg.ty
  have ht0 := hg.ok.ty
  have hv := hg.v
  have e0 : g8 (headB hd ++ R) 0 = hb0 hd := by simp [g8, headB, List.getD]
  have e1 : g8 (headB hd ++ R) 1 = hb1 hd := by simp [g8, headB, List.getD]
  have hc : cc (headB hd ++ R) = hd.srcs.length := by
    unfold cc
    rw [e0]
    unfold hb0
    cases hd.pad <;> cases hd.ext <;> simp <;> omega
  have e2 : g16 (headB hd ++ R) 2 = hd.seq := by
    have := g16_app [hb0 hd, hb1 hd] (by16 hd.seq ++ (by32 hd.time ++ by32 hd.ssrc ++ hd.srcs.flatMap by32 ++ R)) 0
    rw [g16_by _ hg.ok.seq] at this
    rw [← this]; simp [headB]
  have e3 : g32 (headB hd ++ R) 4 = hd.time := by
    have := g32_app ([hb0 hd, hb1 hd] ++ by16 hd.seq) (by32 hd.time ++ (by32 hd.ssrc ++ hd.srcs.flatMap by32 ++ R)) 0
    rw [g32_by _ hg.ok.time] at this
    rw [← this]; simp [headB, by16]
  have e4 : g32 (headB hd ++ R) 8 = hd.ssrc := by
    have := g32_app ([hb0 hd, hb1 hd] ++ by16 hd.seq ++ by32 hd.time) (by32 hd.ssrc ++ (hd.srcs.flatMap by32 ++ R)) 0
    rw [g32_by _ hg.ok.ssrc] at this
    rw [← this]; simp [headB, by16, by32]
  have e5 : (List.range hd.srcs.length).map (fun i => g32 (headB hd ++ R) (12 + 4 * i)) = hd.srcs := by
    apply List.ext_getElem
    · simp
    · intro i h1 h2
      have a := g32_srcs hd.srcs R i h2 hg.ok.srcs
      have b := g32_app ([hb0 hd, hb1 hd] ++ by16 hd.seq ++ by32 hd.time ++ by32 hd.ssrc) (hd.srcs.flatMap by32 ++ R) (4 * i)
      rw [a] at b
      rw [← b]
      simp [headB, by16, by32]
  refine ⟨?_, hc⟩
  unfold headR
  rw [hc, e0, e1, e2, e3, e4, e5]
  obtain ⟨v, pad, ext, mark, ty, seq, time, ssrc, srcs, prof, exts, padn⟩ := hd
  simp only at *
  subst hv
  simp only [hb0, hb1, Hd.mk.injEq, and_true, true_and]
  refine ⟨?_, ?_, ?_, ?_, ?_⟩
  · cases pad <;> cases ext <;> simp <;> omega
  · cases pad <;> cases ext <;> simp <;> omega
  · cases pad <;> cases ext <;> simp <;> omega
  · cases mark <;> simp <;> omega
  · cases mark <;> simp <;> omega

/-- What is written of a header is read back. -/
theorem read_back {hd : Hd} (hg : Good hd) (R : List Int) : readB (outB hd ++ R) = .good { hd with prof := if hd.ext then hd.prof else 0, padn := 0 } (outB hd).length := by
  have hl := headB_len hd
  cases he : hd.ext
  · have e1 : outB hd = headB hd := by simp [outB, he]
    rw [e1]
    obtain ⟨h1, h2⟩ := head_back hg R
    have h3 : g8 (headB hd ++ R) 0 / 64 = 2 := by
      have := congrArg Hd.v h1
      simp only [headR] at this
      rw [this, hg.v]
    unfold readB
    rw [h2, h3, h1, if_neg (by simp; omega), if_neg (by simp; omega), if_neg (by simp), if_pos he]
    simp [he, hg.noExt he]
    omega
  · obtain ⟨e, hx, hel⟩ := hg.ext he
    have e1 : outB hd = headB hd ++ (by16 hd.prof ++ by16 (e.length / 4) ++ e) := by simp [outB, he, hx]
    obtain ⟨h1, h2⟩ := head_back hg (by16 hd.prof ++ by16 (e.length / 4) ++ e ++ R)
    rw [e1, List.append_assoc]
    have h3 : g8 (headB hd ++ (by16 hd.prof ++ by16 (e.length / 4) ++ e ++ R)) 0 / 64 = 2 := by
      have := congrArg Hd.v h1
      simp only [headR] at this
      rw [this, hg.v]
    have h4 : 12 + 4 * hd.srcs.length = (headB hd).length := by omega
    have h5 : g16 (headB hd ++ (by16 hd.prof ++ by16 (e.length / 4) ++ e ++ R)) (12 + 4 * hd.srcs.length) = hd.prof := by
      rw [h4]
      have := g16_app (headB hd) (by16 hd.prof ++ (by16 (e.length / 4) ++ e ++ R)) 0
      rw [g16_by _ hg.ok.prof] at this
      simpa using this
    have h6 : g16 (headB hd ++ (by16 hd.prof ++ by16 (e.length / 4) ++ e ++ R)) (12 + 4 * hd.srcs.length + 2) = (e.length / 4 : Int) := by
      rw [h4]
      have := g16_app (headB hd ++ by16 hd.prof) (by16 (e.length / 4) ++ (e ++ R)) 0
      rw [g16_by _ (by omega)] at this
      rw [show (headB hd ++ by16 hd.prof).length + 0 = (headB hd).length + 2 by simp [by16]] at this
      refine Eq.trans ?_ this
      simp only [List.append_assoc]
    have h7 := extsB_len hx
    have h8 : 4 * (e.length / 4 : Int).toNat = e.length := by omega
    have h9 : ((headB hd ++ (by16 hd.prof ++ by16 (e.length / 4) ++ e ++ R)).drop (12 + 4 * hd.srcs.length + 4)).take e.length = e := by
      rw [h4, List.drop_append]
      have : List.drop ((headB hd).length + 4) (headB hd) = [] := by simp
      rw [this]
      simp [by16]
    unfold readB
    rw [h2, h3, h1, h5, h6, h8, h9, extsOf_extsB hx]
    have hb : ∀ x, (by16 x).length = 2 := fun _ => rfl
    rw [if_neg (by simp [hb]; omega), if_neg (by simp [hb]; omega), if_neg (by simp), if_neg (by simp [he]), if_neg (by simp [hb]; omega), if_neg (by simp [hb]; omega)]
    simp [he, hb]
    omega
end Go.Proofs.YtdmnflngafbobaaDoor
