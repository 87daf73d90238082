/-
  The bytes of a header that is written. Conditions: those that stand in each theorem.
-/
import Derived.Test.YtdmnflngafbobaaDoorGFmt
import Derived.Test.YtdmnflngafbobaaDoorClone
import Derived.Test.YtdmnflngafbobaaDoorBe
import Derived.Test.YtdmnflngafbobaaDoorCopy
namespace Go.Proofs.YtdmnflngafbobaaDoor
open Go.RowKit
set_option linter.unusedVariables false
set_option linter.unusedSimpArgs false
set_option maxRecDepth 20000

/-- What is written of a header. -/
def outB (h : Hd) : List Int := headB h ++ if h.ext then (match extsB h.prof h.exts with
  | some e => by16 h.prof ++ by16 (e.length / 4) ++ e
  | none => []) else []
/-- A header that is written. -/
structure Good (h : Hd) : Prop where
  ok : h.Ok
  v : h.v = 2
  srcs : h.srcs.length ≤ 15
  ty : h.ty ≤ 127
  noExt : h.ext = false → h.exts = []
  ext : h.ext = true → ∃ e, extsB h.prof h.exts = some e ∧ e.length ≤ 262140

theorem or_128 : ∀ n : Nat, n < 16 → bits .or .u8 128 (n : Int) = 128 + (n : Int) := by decide +kernel

theorem by32s_len : ∀ xs : List Int, (xs.flatMap by32).length = 4 * xs.length
  | [] => rfl
  | x :: xs => by simp [List.flatMap_cons, by32, by16, by32s_len xs]; omega

theorem headB_len (h : Hd) : (headB h).length = 12 + 4 * h.srcs.length := by
  have a : ∀ x, (by16 x).length = 2 := fun _ => rfl
  have b : ∀ x, (by32 x).length = 4 := fun _ => rfl
  simp only [headB, List.length_cons, List.length_append, by32s_len, a, b]
  omega

/-- What the reference writes is that, of a header that is written. -/
theorem good_fmt {hd : Hd} {bs : List Int} (hok : hd.Ok) (h : fmtB hd = some bs) : Good hd ∧ outB hd = bs ∧ hd.pad = decide (0 < hd.padn) := by
  unfold fmtB at h
  split at h
  · cases h
  · rename_i hb
    obtain ⟨a1, a2, a3, a4, a5⟩ := good_of hb
    have a6 : hd.pad = decide (0 < hd.padn) := by
      cases hp : hd.pad <;> rw [hp] at a5 <;> revert a5 <;> cases decide (0 < hd.padn) <;> simp
    split at h
    · rename_i he
      injection h with h
      refine ⟨⟨hok, a1, by omega, a3, a4, fun h' => by rw [he] at h'; cases h'⟩, ?_, a6⟩
      rw [← h]; simp [outB, he]
    · rename_i he
      have he : hd.ext = true := by cases h : hd.ext <;> simp_all
      split at h
      · cases h
      · rename_i e hx
        split at h
        · cases h
        · rename_i hl
          injection h with h
          refine ⟨⟨hok, a1, by omega, a3, a4, fun _ => ⟨e, hx, by omega⟩⟩, ?_, a6⟩
          rw [← h]; simp [outB, he, hx]
theorem extsB_len {prof : Int} {xs : List Ex} {e : List Int} (h : extsB prof xs = some e) : e.length % 4 = 0 := by
  unfold extsB at h
  split at h
  · cases h
  · split at h
    · unfold own1 at h
      split at h
      · split at h
        · rename_i h2
          injection h with h
          subst h
          exact h2.2
        · cases h
      · cases h
    · split at h
      · injection h with h
        subst h
        simp [pad4]
        omega
      · cases h

theorem isB_by16 {x : Int} (h : 0 ≤ x ∧ x < 65536) : IsB (by16 x) := by
  intro y hy
  simp [by16] at hy
  omega
theorem isB_by32 {x : Int} (h : 0 ≤ x ∧ x < 4294967296) : IsB (by32 x) := by
  intro y hy
  simp [by32, by16] at hy
  omega
theorem isB_app {a b : List Int} (ha : IsB a) (hb : IsB b) : IsB (a ++ b) := fun x hx => (List.mem_append.1 hx).elim (ha x) (hb x)
theorem isB_xsb {prof : Int} (hp : prof = 48862 ∨ prof = 4096) : ∀ xs : List Ex, (∀ x ∈ xs, (0 ≤ x.id ∧ x.id < 256) ∧ IsB x.data) → fitsAll prof xs = true → IsB (xsb prof xs)
  | [], _, _ => by intro y hy; simp [xsb] at hy
  | x :: xs, ho, h => by
    simp only [fitsAll, List.all_cons, Bool.and_eq_true] at h
    have ih := isB_xsb hp xs (fun y hy => ho y (by simp [hy])) h.2
    have hx := ho x (by simp)
    have e : xsb prof (x :: xs) = xb prof x ++ xsb prof xs := rfl
    rw [e]
    refine isB_app ?_ ih
    intro y hy
    rcases hp with rfl | rfl
    · have hf : 1 ≤ x.id ∧ x.id ≤ 14 ∧ 1 ≤ x.data.length ∧ x.data.length ≤ 16 := by simpa [fitsB] using h.1
      simp only [xb, if_true, List.mem_cons] at hy
      rcases hy with rfl | hy
      · omega
      · exact hx.2 y hy
    · have hf : 1 ≤ x.id ∧ x.data.length ≤ 255 := by simpa [fitsB] using h.1
      simp only [xb, show ¬ (4096 : Int) = 48862 by decide, if_false, List.mem_cons] at hy
      rcases hy with rfl | rfl | hy
      · exact hx.1
      · omega
      · exact hx.2 y hy
theorem isB_exts {prof : Int} {xs : List Ex} {e : List Int} (ho : ∀ x ∈ xs, (0 ≤ x.id ∧ x.id < 256) ∧ IsB x.data) (h : extsB prof xs = some e) : IsB e := by
  unfold extsB at h
  split at h
  · cases h
  · split at h
    · unfold own1 at h
      split at h
      · rename_i x
        split at h
        · injection h with h
          subst h
          exact (ho x (by simp)).2
        · cases h
      · cases h
    · rename_i h1
      split at h
      · rename_i h2
        injection h with h
        subst h
        refine isB_app (isB_xsb (by omega) _ ho h2) ?_
        intro y hy
        simp [pad4] at hy
        omega
      · cases h
theorem isB_out {hd : Hd} (hg : Good hd) : IsB (outB hd) := by
  have h1 : IsB (headB hd) := by
    have hs := hg.srcs
    have ht := hg.ty
    have ht0 := hg.ok.ty
    have e : headB hd = [hb0 hd, hb1 hd] ++ (by16 hd.seq ++ by32 hd.time ++ by32 hd.ssrc ++ hd.srcs.flatMap by32) := rfl
    rw [e]
    refine isB_app ?_ (isB_app (isB_app (isB_app (isB_by16 hg.ok.seq) (isB_by32 hg.ok.time)) (isB_by32 hg.ok.ssrc)) ?_)
    · intro y hy
      simp only [List.mem_cons, List.not_mem_nil, or_false] at hy
      rcases hy with rfl | rfl
      · unfold hb0
        cases hd.pad <;> cases hd.ext <;> simp <;> omega
      · unfold hb1
        cases hd.mark <;> simp <;> omega
    · intro y hy
      obtain ⟨x, hx, hy⟩ := List.mem_flatMap.1 hy
      exact isB_by32 (hg.ok.srcs x hx) y hy
  unfold outB
  refine isB_app h1 ?_
  split
  · rename_i he
    obtain ⟨e, hx, hl⟩ := hg.ext he
    rw [hx]
    exact isB_app (isB_app (isB_by16 hg.ok.prof) (isB_by16 (by omega))) (isB_exts hg.ok.exts hx)
  · intro y hy
    simp at hy
end Go.Proofs.YtdmnflngafbobaaDoor
namespace Go.Proofs.YtdmnflngafbobaaDoor
open Go.RowKit
set_option linter.unusedVariables false
set_option linter.unusedSimpArgs false

def g8 (bs : List Int) (i : Nat) : Int := bs.getD i 0
def g16 (bs : List Int) (i : Nat) : Int := g8 bs i * 256 + g8 bs (i + 1)
def g32 (bs : List Int) (i : Nat) : Int := g16 bs i * 65536 + g16 bs (i + 2)
/-- The extensions of a block of one or of two bytes. -/
def readX (two : Bool) : Nat → List Int → Option (List Ex)
  | 0, _ => some []
  | _ + 1, [] => some []
  | k + 1, b :: bs =>
    if b = 0 then readX two k bs
    else if two then
      match bs with
      | [] => none
      | n :: r => if r.length < n.toNat then none else (readX two k (r.drop n.toNat)).map (⟨b, r.take n.toNat⟩ :: ·)
    else if bs.length < (b % 16).toNat + 1 ∨ b / 16 = 15 ∨ b / 16 = 0 then none
    else (readX two k (bs.drop ((b % 16).toNat + 1))).map (⟨b / 16, bs.take ((b % 16).toNat + 1)⟩ :: ·)
def rx (two : Bool) (bs : List Int) : Option (List Ex) := readX two bs.length bs

theorem readX_fuel (two : Bool) : ∀ (k1 k2 : Nat) (bs : List Int), bs.length ≤ k1 → bs.length ≤ k2 → readX two k1 bs = readX two k2 bs
  | 0, k2, bs, h1, h2 => by
    have : bs = [] := List.eq_nil_of_length_eq_zero (by omega)
    subst this
    cases k2 <;> rfl
  | k1 + 1, k2, [], h1, h2 => by cases k2 <;> rfl
  | k1 + 1, 0, b :: bs, h1, h2 => by simp at h2
  | k1 + 1, k2 + 1, b :: bs, h1, h2 => by
    simp only [List.length_cons] at h1 h2
    have ih := fun (l : List Int) (hl : l.length ≤ bs.length) => readX_fuel two k1 k2 l (by omega) (by omega)
    unfold readX
    rw [ih bs (Nat.le_refl _)]
    cases bs with
    | nil => simp only [List.drop_nil]; rw [ih [] (Nat.le_refl _)]
    | cons n r =>
      simp only
      rw [ih (r.drop n.toNat) (by simp; omega), ih ((n :: r).drop ((b % 16).toNat + 1)) (by simp; omega)]

theorem rx_nil (two : Bool) : rx two [] = some [] := rfl
theorem rx_zero (two : Bool) (bs : List Int) : rx two (0 :: bs) = rx two bs := by
  show readX two (bs.length + 1) (0 :: bs) = _
  unfold readX
  rw [if_pos rfl]
  rfl
theorem rx_two1 (b : Int) (hb : b ≠ 0) : rx true [b] = none := by
  show readX true 1 [b] = _
  unfold readX
  rw [if_neg hb]
  rfl
theorem rx_two (b n : Int) (r : List Int) (hb : b ≠ 0) : rx true (b :: n :: r) = if r.length < n.toNat then none else (rx true (r.drop n.toNat)).map (⟨b, r.take n.toNat⟩ :: ·) := by
  show readX true (r.length + 1 + 1) (b :: n :: r) = _
  unfold readX
  rw [if_neg hb]
  simp only [if_true]
  rw [readX_fuel true (r.length + 1) (r.drop n.toNat).length _ (by simp; omega) (Nat.le_refl _)]
  rfl
theorem rx_one (b : Int) (bs : List Int) (hb : b ≠ 0) : rx false (b :: bs) = if bs.length < (b % 16).toNat + 1 ∨ b / 16 = 15 ∨ b / 16 = 0 then none else (rx false (bs.drop ((b % 16).toNat + 1))).map (⟨b / 16, bs.take ((b % 16).toNat + 1)⟩ :: ·) := by
  show readX false (bs.length + 1) (b :: bs) = _
  unfold readX
  rw [if_neg hb]
  simp only [Bool.false_eq_true, if_false]
  rw [readX_fuel false bs.length (bs.drop ((b % 16).toNat + 1)).length _ (by simp) (Nat.le_refl _)]
  rfl

/-- The extensions of a block, by its profile. -/
def extsOf (prof : Int) (bs : List Int) : Option (List Ex) :=
  if plainB prof = false then none
  else if prof ≠ 48862 ∧ prof ≠ 4096 then some [⟨0, bs⟩]
  else rx (decide (prof = 4096)) bs

def cc (bs : List Int) : Nat := (g8 bs 0 % 16).toNat
/-- A header's fields, without its extensions. -/
def headR (bs : List Int) : Hd :=
  { v := g8 bs 0 / 64, pad := decide (g8 bs 0 / 32 % 2 = 1), ext := decide (g8 bs 0 / 16 % 2 = 1), mark := decide (g8 bs 1 / 128 = 1), ty := g8 bs 1 % 128, seq := g16 bs 2, time := g32 bs 4, ssrc := g32 bs 8,
    srcs := (List.range (cc bs)).map fun i => g32 bs (12 + 4 * i), prof := 0, exts := [], padn := 0 }
inductive Rres where
  | bad
  | wide
  | good (h : Hd) (n : Nat)
/-- What the reference reads. -/
def readB (bs : List Int) : Rres :=
  if bs.length < 12 then .bad
  else if bs.length < 12 + 4 * cc bs then .bad
  else if g8 bs 0 / 64 ≠ 2 then .wide
  else if (headR bs).ext = false then .good (headR bs) (12 + 4 * cc bs)
  else if bs.length < 12 + 4 * cc bs + 4 then .bad
  else if bs.length < 12 + 4 * cc bs + 4 + 4 * (g16 bs (12 + 4 * cc bs + 2)).toNat then .bad
  else match extsOf (g16 bs (12 + 4 * cc bs)) ((bs.drop (12 + 4 * cc bs + 4)).take (4 * (g16 bs (12 + 4 * cc bs + 2)).toNat)) with
    | none => .wide
    | some xs => .good { headR bs with prof := g16 bs (12 + 4 * cc bs), exts := xs } (12 + 4 * cc bs + 4 + 4 * (g16 bs (12 + 4 * cc bs + 2)).toNat)
inductive Pres where
  | bad
  | wide
  | good (h : Hd) (payload : List Int)
def readP (bs : List Int) : Pres :=
  match readB bs with
  | .bad => .bad
  | .wide => .wide
  | .good h n =>
    if h.pad = false then .good h (bs.drop n)
    else if bs.length ≤ n then .bad
    else if g8 bs (bs.length - 1) = 0 then .wide
    else if bs.length - n < (g8 bs (bs.length - 1)).toNat then .bad
    else .good { h with padn := g8 bs (bs.length - 1) } ((bs.drop n).take (bs.length - n - (g8 bs (bs.length - 1)).toNat))

/-! ### what is written is read back -/
theorem rx_zeros (two : Bool) : ∀ k : Nat, rx two (List.replicate k 0) = some []
  | 0 => rfl
  | k + 1 => by rw [List.replicate_succ, rx_zero, rx_zeros two k]
theorem rx_xsb_one : ∀ (xs : List Ex) (k : Nat), fitsAll 48862 xs = true → rx false (xsb 48862 xs ++ List.replicate k 0) = some xs
  | [], k, _ => by simpa [xsb] using rx_zeros false k
  | x :: xs, k, h => by
    simp only [fitsAll, List.all_cons, Bool.and_eq_true] at h
    have ih := rx_xsb_one xs k h.2
    have hf : 1 ≤ x.id ∧ x.id ≤ 14 ∧ 1 ≤ x.data.length ∧ x.data.length ≤ 16 := by simpa [fitsB] using h.1
    have e1 : xsb 48862 (x :: xs) ++ List.replicate k 0 = (x.id * 16 + ((x.data.length : Int) - 1)) :: (x.data ++ (xsb 48862 xs ++ List.replicate k 0)) := by
      simp [xsb, xb]
    have e2 : ((x.id * 16 + ((x.data.length : Int) - 1)) % 16).toNat + 1 = x.data.length := by omega
    have e3 : (x.id * 16 + ((x.data.length : Int) - 1)) / 16 = x.id := by omega
    rw [e1, rx_one _ _ (by omega), e2, e3, if_neg (by simp; omega), List.drop_left, List.take_left, ih]
    rfl
theorem rx_xsb_two : ∀ (xs : List Ex) (k : Nat), fitsAll 4096 xs = true → rx true (xsb 4096 xs ++ List.replicate k 0) = some xs
  | [], k, _ => by simpa [xsb] using rx_zeros true k
  | x :: xs, k, h => by
    simp only [fitsAll, List.all_cons, Bool.and_eq_true] at h
    have ih := rx_xsb_two xs k h.2
    have hf : 1 ≤ x.id ∧ x.data.length ≤ 255 := by simpa [fitsB] using h.1
    have e1 : xsb 4096 (x :: xs) ++ List.replicate k 0 = x.id :: (x.data.length : Int) :: (x.data ++ (xsb 4096 xs ++ List.replicate k 0)) := by
      simp [xsb, xb]
    rw [e1, rx_two _ _ _ (by omega), Int.toNat_natCast, if_neg (by simp), List.drop_left, List.take_left, ih]
    rfl
theorem extsOf_extsB {prof : Int} {xs : List Ex} {e : List Int} (h : extsB prof xs = some e) : extsOf prof e = some xs := by
  unfold extsB at h
  unfold extsOf
  split at h
  · cases h
  · rename_i hp
    rw [if_neg hp]
    split at h
    · rename_i h1
      rw [if_pos h1]
      unfold own1 at h
      split at h
      · rename_i x
        split at h
        · rename_i h2
          injection h with h
          subst h
          obtain ⟨id, d⟩ := x
          obtain ⟨rfl, _⟩ := h2
          rfl
        · cases h
      · cases h
    · rename_i h1
      rw [if_neg h1]
      split at h
      · rename_i h2
        injection h with h
        subst h
        by_cases h3 : prof = 4096
        · subst h3
          exact rx_xsb_two xs _ h2
        · have h4 : prof = 48862 := by
            by_cases q : prof = 48862
            · exact q
            · exact absurd ⟨q, h3⟩ h1
          subst h4
          exact rx_xsb_one xs _ h2
      · cases h

theorem g8_app (A B : List Int) (i : Nat) : g8 (A ++ B) (A.length + i) = g8 B i := by
  unfold g8 List.getD
  rw [List.getElem?_append_right (by omega)]
  simp
theorem g16_app (A B : List Int) (i : Nat) : g16 (A ++ B) (A.length + i) = g16 B i := by
  unfold g16; rw [Nat.add_assoc, g8_app, g8_app]
theorem g32_app (A B : List Int) (i : Nat) : g32 (A ++ B) (A.length + i) = g32 B i := by
  unfold g32; rw [Nat.add_assoc, g16_app, g16_app]
theorem g16_by {x : Int} (R : List Int) (hx : 0 ≤ x ∧ x < 65536) : g16 (by16 x ++ R) 0 = x := by
  simp [g16, g8, by16, List.getD]; omega
theorem g32_by {x : Int} (R : List Int) (hx : 0 ≤ x ∧ x < 4294967296) : g32 (by32 x ++ R) 0 = x := by
  simp [g32, g16, g8, by32, by16, List.getD]; omega
theorem g32_srcs : ∀ (s : List Int) (R : List Int) (i : Nat) (hi : i < s.length), (∀ x ∈ s, 0 ≤ x ∧ x < 4294967296) → g32 (s.flatMap by32 ++ R) (4 * i) = s[i]
  | x :: s, R, 0, _, h => by
    rw [List.flatMap_cons, List.append_assoc]
    exact g32_by _ (h x (by simp))
  | x :: s, R, i + 1, hi, h => by
    have ih := g32_srcs s R i (by simpa using hi) (fun y hy => h y (by simp [hy]))
    rw [List.flatMap_cons, List.append_assoc, show 4 * (i + 1) = (by32 x).length + 4 * i by simp [by32, by16]; omega, g32_app, ih]
    rfl

theorem head_back {hd : Hd} (hg : Good hd) (R : List Int) : headR (headB hd ++ R) = { hd with prof := 0, exts := [], padn := 0 } ∧ cc (headB hd ++ R) = hd.srcs.length := by
  have hs := hg.srcs
  have ht := hg.ty
  have ht0 := hg.ok.ty
  have hv := hg.v
  have e0 : g8 (headB hd ++ R) 0 = hb0 hd := by simp [g8, headB, List.getD]
  have e1 : g8 (headB hd ++ R) 1 = hb1 hd := by simp [g8, headB, List.getD]
  have hc : cc (headB hd ++ R) = hd.srcs.length := by
    unfold cc
    rw [e0]
    unfold hb0
    cases hd.pad <;> cases hd.ext <;> simp <;> omega
  have e2 : g16 (headB hd ++ R) 2 = hd.seq := by
    have := g16_app [hb0 hd, hb1 hd] (by16 hd.seq ++ (by32 hd.time ++ by32 hd.ssrc ++ hd.srcs.flatMap by32 ++ R)) 0
    rw [g16_by _ hg.ok.seq] at this
    rw [← this]; simp [headB]
  have e3 : g32 (headB hd ++ R) 4 = hd.time := by
    have := g32_app ([hb0 hd, hb1 hd] ++ by16 hd.seq) (by32 hd.time ++ (by32 hd.ssrc ++ hd.srcs.flatMap by32 ++ R)) 0
    rw [g32_by _ hg.ok.time] at this
    rw [← this]; simp [headB, by16]
  have e4 : g32 (headB hd ++ R) 8 = hd.ssrc := by
    have := g32_app ([hb0 hd, hb1 hd] ++ by16 hd.seq ++ by32 hd.time) (by32 hd.ssrc ++ (hd.srcs.flatMap by32 ++ R)) 0
    rw [g32_by _ hg.ok.ssrc] at this
    rw [← this]; simp [headB, by16, by32]
  have e5 : (List.range hd.srcs.length).map (fun i => g32 (headB hd ++ R) (12 + 4 * i)) = hd.srcs := by
    apply List.ext_getElem
    · simp
    · intro i h1 h2
      have a := g32_srcs hd.srcs R i h2 hg.ok.srcs
      have b := g32_app ([hb0 hd, hb1 hd] ++ by16 hd.seq ++ by32 hd.time ++ by32 hd.ssrc) (hd.srcs.flatMap by32 ++ R) (4 * i)
      rw [a] at b
      rw [← b]
      simp [headB, by16, by32]
  refine ⟨?_, hc⟩
  unfold headR
  rw [hc, e0, e1, e2, e3, e4, e5]
  obtain ⟨v, pad, ext, mark, ty, seq, time, ssrc, srcs, prof, exts, padn⟩ := hd
  simp only at *
  subst hv
  simp only [hb0, hb1, Hd.mk.injEq, and_true, true_and]
  refine ⟨?_, ?_, ?_, ?_, ?_⟩
  · cases pad <;> cases ext <;> simp <;> omega
  · cases pad <;> cases ext <;> simp <;> omega
  · cases pad <;> cases ext <;> simp <;> omega
  · cases mark <;> simp <;> omega
  · cases mark <;> simp <;> omega

/-- What is written of a header is read back. -/
theorem read_back {hd : Hd} (hg : Good hd) (R : List Int) : readB (outB hd ++ R) = .good { hd with prof := if hd.ext then hd.prof else 0, padn := 0 } (outB hd).length := by
  have hl := headB_len hd
  cases he : hd.ext
  · have e1 : outB hd = headB hd := by simp [outB, he]
    rw [e1]
    obtain ⟨h1, h2⟩ := head_back hg R
    have h3 : g8 (headB hd ++ R) 0 / 64 = 2 := by
      have := congrArg Hd.v h1
      simp only [headR] at this
      rw [this, hg.v]
    unfold readB
    rw [h2, h3, h1, if_neg (by simp; omega), if_neg (by simp; omega), if_neg (by simp), if_pos he]
    simp [he, hg.noExt he]
    omega
  · obtain ⟨e, hx, hel⟩ := hg.ext he
    have e1 : outB hd = headB hd ++ (by16 hd.prof ++ by16 (e.length / 4) ++ e) := by simp [outB, he, hx]
    obtain ⟨h1, h2⟩ := head_back hg (by16 hd.prof ++ by16 (e.length / 4) ++ e ++ R)
    rw [e1, List.append_assoc]
    have h3 : g8 (headB hd ++ (by16 hd.prof ++ by16 (e.length / 4) ++ e ++ R)) 0 / 64 = 2 := by
      have := congrArg Hd.v h1
      simp only [headR] at this
      rw [this, hg.v]
    have h4 : 12 + 4 * hd.srcs.length = (headB hd).length := by omega
    have h5 : g16 (headB hd ++ (by16 hd.prof ++ by16 (e.length / 4) ++ e ++ R)) (12 + 4 * hd.srcs.length) = hd.prof := by
      rw [h4]
      have := g16_app (headB hd) (by16 hd.prof ++ (by16 (e.length / 4) ++ e ++ R)) 0
      rw [g16_by _ hg.ok.prof] at this
      simpa using this
    have h6 : g16 (headB hd ++ (by16 hd.prof ++ by16 (e.length / 4) ++ e ++ R)) (12 + 4 * hd.srcs.length + 2) = (e.length / 4 : Int) := by
      rw [h4]
      have := g16_app (headB hd ++ by16 hd.prof) (by16 (e.length / 4) ++ (e ++ R)) 0
      rw [g16_by _ (by omega)] at this
      rw [show (headB hd ++ by16 hd.prof).length + 0 = (headB hd).length + 2 by simp [by16]] at this
      refine Eq.trans ?_ this
      simp only [List.append_assoc]
    have h7 := extsB_len hx
    have h8 : 4 * (e.length / 4 : Int).toNat = e.length := by omega
    have h9 : ((headB hd ++ (by16 hd.prof ++ by16 (e.length / 4) ++ e ++ R)).drop (12 + 4 * hd.srcs.length + 4)).take e.length = e := by
      rw [h4, List.drop_append]
      have : List.drop ((headB hd).length + 4) (headB hd) = [] := by simp
      rw [this]
      simp [by16]
    unfold readB
    rw [h2, h3, h1, h5, h6, h8, h9, extsOf_extsB hx]
    have hb : ∀ x, (by16 x).length = 2 := fun _ => rfl
    rw [if_neg (by simp [hb]; omega), if_neg (by simp [hb]; omega), if_neg (by simp), if_neg (by simp [he]), if_neg (by simp [hb]; omega), if_neg (by simp [hb]; omega)]
    simp [he, hb]
    omega
end Go.Proofs.YtdmnflngafbobaaDoor
namespace Go.Proofs.YtdmnflngafbobaaDoor
open Go.RowKit
set_option linter.unusedVariables false
set_option linter.unusedSimpArgs false
set_option maxRecDepth 20000

def xsum (c : Nat) (xs : List Ex) : Nat := (xs.map fun x => c + x.data.length).sum
def xsize (h : Hd) : Nat := if h.prof = 48862 then xsum 1 h.exts else if h.prof = 4096 then xsum 2 h.exts else match h.exts with
  | [] => 0
  | x :: _ => x.data.length
/-- How many bytes a header has. -/
def hsize (h : Hd) : Nat := 12 + h.srcs.length * 4 + if h.ext then (4 + xsize h + 3) / 4 * 4 else 0

theorem xsum_snoc (c : Nat) (xs : List Ex) (k : Nat) (x : Ex) (h : xs[k]? = some x) : xsum c (xs.take (k + 1)) = xsum c (xs.take k) + (c + x.data.length) := by
  obtain ⟨hk, rfl⟩ := List.getElem?_eq_some_iff.1 h
  unfold xsum
  rw [List.take_succ_eq_append_getElem hk, List.map_append, List.sum_append]
  simp
theorem xsum_le (c : Nat) (xs : List Ex) (m : Nat) (h : ∀ x ∈ xs, x.data.length ≤ m) : xsum c xs ≤ (c + m) * xs.length := by
  unfold xsum
  induction xs with
  | nil => simp
  | cons x xs ih =>
    have a := h x (by simp)
    have b := ih (fun y hy => h y (by simp [hy]))
    simp only [List.map_cons, List.sum_cons, List.length_cons, Nat.mul_add, Nat.mul_one]
    omega
theorem xsum_take (c : Nat) (xs : List Ex) (h : ∀ x ∈ xs, x.data.length ≤ 2147483647) (hc : c ≤ 2) (hn : xs.length ≤ 2147483647) (k : Nat) : xsum c (xs.take k) ≤ 4611686018427387904 + 2147483648 := by
  have := xsum_le c (xs.take k) 2147483647 (fun x hx => h x (List.mem_of_mem_take hx))
  rw [List.length_take] at this
  have h2 : (c + 2147483647) * min k xs.length ≤ 2147483649 * 2147483647 := Nat.mul_le_mul (by omega) (by omega)
  omega

theorem msize_plain {p : Nat → Prop} {hd : Hd} {sv xv : Value} {off : Int} (w : World) (hS : Rd w p 1 sv hd.srcs.length (U32 hd.srcs)) (hs : hd.srcs.length ≤ 2147483647) (he : hd.ext = false) :
    Calls Tryd.prog 57 #[.agg (rcells hd sv xv off)] w fun e w' => e = .returned (.int .i64 (hsize hd)) ∧ Keep w w' Nul := by
  obtain ⟨A1, c1, rfl⟩ := hS.shape
  clear hS
  unfold rcells
  rw [he]
  go_enter Tryd.func57, Tryd.ntmps57
  go_wp2_with fail
  go_ret
  exact ⟨by simp [hsize, he], (Keep.refl _ _).alloc _⟩

theorem hsize_ext {hd : Hd} (he : hd.ext = true) : ((hsize hd : Nat) : Int) = 12 + (hd.srcs.length : Int) * 4 + (4 + (xsize hd : Int) + 3) / 4 * 4 := by
  unfold hsize
  rw [he]
  simp

set_option maxHeartbeats 1600000 in
theorem msize_one {p : Nat → Prop} {hd : Hd} {sv xv : Value} {off : Int} (w : World) (hS : Rd w p 1 sv hd.srcs.length (U32 hd.srcs)) (hX : XR w p xv hd.exts) (hs : hd.srcs.length ≤ 2147483647) (hn : hd.exts.length ≤ 2147483647) (hdn : ∀ x ∈ hd.exts, x.data.length ≤ 2147483647) (he : hd.ext = true) (hp : hd.prof = 48862) :
    Calls Tryd.prog 57 #[.agg (rcells hd sv xv off)] w fun e w' => e = .returned (.int .i64 (hsize hd)) ∧ Keep w w' Nul := by
  obtain ⟨A1, c1, rfl⟩ := hS.shape
  obtain ⟨A2, c2, rfl⟩ := hX.shape
  have H2 := hide hX
  have HD := hide hdn
  have hm := xsum_take 1 hd.exts hdn (by omega) hn
  clear hS hX hdn
  unfold rcells at *
  rw [he, hp]
  go_enter Tryd.func57, Tryd.ntmps57
  go_upto_region 1 with fail
  generalize hwa : World.alloc w _ = wa
  have BX := hide (show Blk wa w.heap.size 108 (rcells { hd with ext := true, prof := 48862 } (.slice A1 hd.srcs.length c1) (.slice A2 hd.exts.length c2) off) by subst hwa; exact Blk.new w _ _)
  have HK := hide (show Keep w wa Nul by subst hwa; exact (Keep.refl w Nul).alloc _)
  generalize hv0 : Value.agg _ = v0
  clear hwa hv0
  have x8 := BX.out.cell 8 (v := .slice A1 hd.srcs.length c1) rfl
  have x2 := BX.out.cell 2 (v := .bool true) rfl
  have x9 := BX.out.cell 9 (v := .int .u16 48862) rfl
  have x10 := BX.out.cell 10 (v := .slice A2 hd.exts.length c2) rfl
  have HM := hide hm
  clear hm
  go_wp2_with fail
  go_loopw [4, 35] (fun s i wr => ∃ k : Nat, k ≤ hd.exts.length ∧ i = .int .i64 k ∧ s = .int .i64 ((4 + xsum 1 (hd.exts.take k) : Nat) : Int) ∧ Keep wa wr Nul) (fun _ i _ => hd.exts.length - (intOf i).toNat)
  case atStart => exact ⟨0, Nat.zero_le _, rfl, by simp [xsum], Keep.refl _ _⟩
  case round =>
    obtain ⟨k, hk, rfl, rfl, hK⟩ := hrel
    have hmk := HM.out k
    by_cases hlt : k < hd.exts.length
    · have hg' : hd.exts[k]? = some hd.exts[k] := List.getElem?_eq_getElem _
      obtain ⟨b, o, c', d, hv, q1, q2, q3, q4, p5, p6, q7⟩ := H2.out.at_ hg'
      injection hv with e1 _ e3
      subst e1 e3
      have HG := hide hg'
      have hxl := HD.out _ (List.mem_of_getElem? hg')
      clear hg'
      generalize hd.exts[k] = x at *
      have hKw : Keep w wr Nul := HK.out.trans0 hK
      have q5 := hKw.cell id p5
      have q6 := hKw.cell id p6
      obtain ⟨A', c2', rfl⟩ := q7.shape
      have HKr := hide hK
      clear q7 p5 p6 hKw hK
      go_wp2_with fail
      go_roundw
      case rel => exact ⟨k + 1, by omega, by go_num, by rw [xsum_snoc _ _ _ _ HG.out]; go_num, HKr.out.alloc _⟩
      case measure => simp [intOf]; omega
    · obtain rfl : k = hd.exts.length := by omega
      rw [List.take_length] at *
      have HKr := hide (HK.out.trans0 hK)
      clear hK
      go_wp2_with fail
      go_ret
      refine ⟨?_, HKr.out⟩
      rw [hsize_ext he, show xsize hd = xsum 1 hd.exts by simp [xsize, hp]]
      rfl
set_option maxHeartbeats 1600000 in
theorem msize_two {p : Nat → Prop} {hd : Hd} {sv xv : Value} {off : Int} (w : World) (hS : Rd w p 1 sv hd.srcs.length (U32 hd.srcs)) (hX : XR w p xv hd.exts) (hs : hd.srcs.length ≤ 2147483647) (hn : hd.exts.length ≤ 2147483647) (hdn : ∀ x ∈ hd.exts, x.data.length ≤ 2147483647) (he : hd.ext = true) (hp : hd.prof = 4096) :
    Calls Tryd.prog 57 #[.agg (rcells hd sv xv off)] w fun e w' => e = .returned (.int .i64 (hsize hd)) ∧ Keep w w' Nul := by
  obtain ⟨A1, c1, rfl⟩ := hS.shape
  obtain ⟨A2, c2, rfl⟩ := hX.shape
  have H2 := hide hX
  have HD := hide hdn
  have hm := xsum_take 2 hd.exts hdn (by omega) hn
  clear hS hX hdn
  unfold rcells at *
  rw [he, hp]
  go_enter Tryd.func57, Tryd.ntmps57
  go_upto_region 1 with fail
  generalize hwa : World.alloc w _ = wa
  have BX := hide (show Blk wa w.heap.size 108 (rcells { hd with ext := true, prof := 4096 } (.slice A1 hd.srcs.length c1) (.slice A2 hd.exts.length c2) off) by subst hwa; exact Blk.new w _ _)
  have HK := hide (show Keep w wa Nul by subst hwa; exact (Keep.refl w Nul).alloc _)
  generalize hv0 : Value.agg _ = v0
  clear hwa hv0
  have x8 := BX.out.cell 8 (v := .slice A1 hd.srcs.length c1) rfl
  have x2 := BX.out.cell 2 (v := .bool true) rfl
  have x9 := BX.out.cell 9 (v := .int .u16 4096) rfl
  have x10 := BX.out.cell 10 (v := .slice A2 hd.exts.length c2) rfl
  have HM := hide hm
  clear hm
  go_wp2_with fail
  go_loopw [4, 51] (fun s i wr => ∃ k : Nat, k ≤ hd.exts.length ∧ i = .int .i64 k ∧ s = .int .i64 ((4 + xsum 2 (hd.exts.take k) : Nat) : Int) ∧ Keep wa wr Nul) (fun _ i _ => hd.exts.length - (intOf i).toNat)
  case atStart => exact ⟨0, Nat.zero_le _, rfl, by simp [xsum], Keep.refl _ _⟩
  case round =>
    obtain ⟨k, hk, rfl, rfl, hK⟩ := hrel
    have hmk := HM.out k
    by_cases hlt : k < hd.exts.length
    · have hg' : hd.exts[k]? = some hd.exts[k] := List.getElem?_eq_getElem _
      obtain ⟨b, o, c', d, hv, q1, q2, q3, q4, p5, p6, q7⟩ := H2.out.at_ hg'
      injection hv with e1 _ e3
      subst e1 e3
      have HG := hide hg'
      have hxl := HD.out _ (List.mem_of_getElem? hg')
      clear hg'
      generalize hd.exts[k] = x at *
      have hKw : Keep w wr Nul := HK.out.trans0 hK
      have q5 := hKw.cell id p5
      have q6 := hKw.cell id p6
      obtain ⟨A', c2', rfl⟩ := q7.shape
      have HKr := hide hK
      clear q7 p5 p6 hKw hK
      go_wp2_with fail
      go_roundw
      case rel => exact ⟨k + 1, by omega, by go_num, by rw [xsum_snoc _ _ _ _ HG.out]; go_num, HKr.out.alloc _⟩
      case measure => simp [intOf]; omega
    · obtain rfl : k = hd.exts.length := by omega
      rw [List.take_length] at *
      have HKr := hide (HK.out.trans0 hK)
      clear hK
      go_wp2_with fail
      go_ret
      refine ⟨?_, HKr.out⟩
      rw [hsize_ext he, show xsize hd = xsum 2 hd.exts by simp [xsize, hp]]
      rfl
set_option maxHeartbeats 1600000 in
theorem msize_oth {p : Nat → Prop} {hd : Hd} {sv xv : Value} {off : Int} (w : World) (hS : Rd w p 1 sv hd.srcs.length (U32 hd.srcs)) (hX : XR w p xv hd.exts) (hs : hd.srcs.length ≤ 2147483647) (hn : hd.exts.length ≤ 2147483647) (hdn : ∀ x ∈ hd.exts, x.data.length ≤ 2147483647) (he : hd.ext = true) (h1 : hd.prof ≠ 48862) (h2 : hd.prof ≠ 4096) :
    Calls Tryd.prog 57 #[.agg (rcells hd sv xv off)] w fun e w' => e = .returned (.int .i64 (hsize hd)) ∧ Keep w w' Nul := by
  obtain ⟨A1, c1, rfl⟩ := hS.shape
  obtain ⟨A2, c2, rfl⟩ := hX.shape
  have H2 := hide hX
  have HD := hide hdn
  clear hS hX hdn
  have g1 : (hd.prof == 48862) = false := by simpa using h1
  have g2 : (hd.prof == 4096) = false := by simpa using h2
  unfold rcells at *
  rw [he]
  go_enter Tryd.func57, Tryd.ntmps57
  go_upto_region 1 with fail
  generalize hwa : World.alloc w _ = wa
  have BX := hide (show Blk wa w.heap.size 108 (rcells { hd with ext := true } (.slice A1 hd.srcs.length c1) (.slice A2 hd.exts.length c2) off) by subst hwa; exact Blk.new w _ _)
  have HK := hide (show Keep w wa Nul by subst hwa; exact (Keep.refl w Nul).alloc _)
  generalize hv0 : Value.agg _ = v0
  clear hwa hv0
  have x8 := BX.out.cell 8 (v := .slice A1 hd.srcs.length c1) rfl
  have x2 := BX.out.cell 2 (v := .bool true) rfl
  have x9 := BX.out.cell 9 (v := .int .u16 hd.prof) rfl
  have x10 := BX.out.cell 10 (v := .slice A2 hd.exts.length c2) rfl
  cases hx : hd.exts with
  | nil =>
    have hx0 : hd.exts.length = 0 := by rw [hx]; rfl
    have HXX := hide hx
    clear hx
    go_wp2_with fail
    go_ret
    refine ⟨?_, HK.out⟩
    rw [hsize_ext he, show xsize hd = 0 by simp [xsize, h1, h2, HXX.out]]
    rfl
  | cons x xs =>
    have hg' : hd.exts[0]? = some x := by rw [hx]; rfl
    obtain ⟨b, o, c', d, hv, q1, q2, q3, q4, p5, p6, q7⟩ := H2.out.at_ hg'
    injection hv with e1 _ e3
    subst e1 e3
    have hxl := HD.out _ (List.mem_of_getElem? hg')
    have hxp : 0 < hd.exts.length := by rw [hx]; simp
    have hxp' : (0 : Int) < (hd.exts.length : Int) := by omega
    have q5 := HK.out.cell id p5
    have q6 := HK.out.cell id p6
    simp only [Nat.zero_mul, Nat.add_zero] at q5 q6
    obtain ⟨A', c2', rfl⟩ := q7.shape
    clear q7 p5 p6 hg'
    have HXX := hide hx
    clear hx
    go_wp2_with fail
    go_ret
    refine ⟨?_, HK.out⟩
    rw [hsize_ext he, show xsize hd = x.data.length by simp [xsize, h1, h2, HXX.out]]
    rfl

/-- (rtp.Header).MarshalSize. -/
theorem msize_walk {p : Nat → Prop} {hd : Hd} {sv xv : Value} {off : Int} (w : World) (hS : Rd w p 1 sv hd.srcs.length (U32 hd.srcs)) (hX : XR w p xv hd.exts) (hs : hd.srcs.length ≤ 2147483647) (hn : hd.exts.length ≤ 2147483647) (hdn : ∀ x ∈ hd.exts, x.data.length ≤ 2147483647) :
    Calls Tryd.prog 57 #[.agg (rcells hd sv xv off)] w fun e w' => e = .returned (.int .i64 (hsize hd)) ∧ Keep w w' Nul := by
  cases he : hd.ext
  · exact msize_plain w hS hs he
  · by_cases h1 : hd.prof = 48862
    · exact msize_one w hS hX hs hn hdn he h1
    · by_cases h2 : hd.prof = 4096
      · exact msize_two w hS hX hs hn hdn he h2
      · exact msize_oth w hS hX hs hn hdn he h1 h2
end Go.Proofs.YtdmnflngafbobaaDoor
namespace Go.Proofs.YtdmnflngafbobaaDoor
open Go.RowKit
set_option linter.unusedVariables false
set_option linter.unusedSimpArgs false
set_option maxRecDepth 20000

theorem Z8_succ {m : Nat} (h : 0 < m) : Z8 m = Value.int .u8 0 :: Z8 (m - 1) := by
  cases m with
  | zero => omega
  | succ m => rfl
theorem Z8_cut (m k : Nat) (h : k ≤ m) : Z8 m = B8 (List.replicate k 0) ++ Z8 (m - k) := by
  unfold Z8 B8
  rw [List.map_replicate, List.replicate_append_replicate]
  congr 1
  omega
theorem made_z (n : Nat) : (madeCells (Value.int .u8 0).cells n) = (B8 [] ++ Z8 n).toArray := by
  rw [show (Value.int .u8 0).cells = #[.int .u8 0] from rfl, made_one]
  rfl

section
variable {w w' : World} {g : Nat} {done : List Int} {m : Nat}
theorem Buf.mk' (h : Blk w g 5 (madeCells (Value.int .u8 0).cells m)) : Buf w g [] (Z8 m) := by
  rw [made_z] at h
  exact h
theorem Buf.z1 (h : Buf w g done (Z8 m)) (hm : 0 < m) {k : Nat} (hk : k = done.length) (u : Int) : Buf (w.setCell ⟨g, k, none⟩ (.int .u8 u)) g (done ++ [u]) (Z8 (m - 1)) := by
  subst hk
  rw [Z8_succ hm] at h
  exact h.set u
theorem Buf.zero (h : Buf w g done (Z8 m)) (k : Nat) (hk : k ≤ m) : Buf w g (done ++ List.replicate k 0) (Z8 (m - k)) := by
  unfold Buf at *
  rw [Z8_cut m k hk] at h
  rw [B8_app, List.append_assoc]
  exact h
theorem Buf.mid {d1 d2 : List Int} {y : Int} {rest : List Value} (h : Buf w g (d1 ++ y :: d2) rest) {k : Nat} (hk : k = d1.length) (u : Int) : Buf (w.setCell ⟨g, k, none⟩ (.int .u8 u)) g (d1 ++ u :: d2) rest := by
  subst hk
  have h1 := Blk.set_ h d1.length (.int .u8 u)
  unfold Buf
  have e : ((B8 (d1 ++ y :: d2) ++ rest).toArray.setIfInBounds d1.length (.int .u8 u)) = (B8 (d1 ++ u :: d2) ++ rest).toArray := by
    rw [List.setIfInBounds_toArray]
    congr 1
    simp only [B8, List.map_append, List.map_cons, List.append_assoc, List.cons_append]
    rw [List.set_append_right _ _ (by simp)]
    simp
  rw [e] at h1
  exact h1
theorem Buf.zcell (h : Buf w g done (Z8 m)) {k : Nat} (hk : done.length ≤ k) (hm : k < done.length + m) : w.cell? ⟨g, k, none⟩ = some (.int .u8 0) := by
  refine Blk.cell h k ?_
  simp only [List.getElem?_toArray]
  rw [List.getElem?_append_right (by rw [B8_len]; exact hk), B8_len]
  unfold Z8
  rw [List.getElem?_replicate]
  simp
  omega
theorem Buf.copied {data : List Int} (h : Blk w' g 5 (splice (B8 done ++ Z8 m).toArray.toList done.length (B8 data)).toArray) (hl : data.length ≤ m) : Buf w' g (done ++ data) (Z8 (m - data.length)) := by
  unfold Buf
  have e : splice (B8 done ++ Z8 m).toArray.toList done.length (B8 data) = B8 (done ++ data) ++ Z8 (m - data.length) := by
    unfold splice
    simp only [List.toList_toArray]
    rw [show done.length = (B8 done).length from (B8_len done).symm, List.take_left', List.drop_append]
    · simp [B8_app, B8_len, Z8, List.drop_replicate]
    · rfl
  rw [e] at h
  exact h

theorem size_set1 (w : World) (p : Addr) (u : Value) : (w.setCell p u).heap.size = w.heap.size := by simp [World.setCell]

/-- bePutUint16, at the end of what is written. -/
theorem put16_walk (h : Buf w g done (Z8 m)) (hm : 2 ≤ m) {n c k : Nat} (hn : 2 ≤ n) (hk : k = done.length) {v : Int} (hv : 0 ≤ v ∧ v < 65536) :
    Calls Tryd.prog 104 #[.slice (some ⟨g, k, none⟩) n c, .int .u16 v] w fun e w' => e = .returned (.tuple #[]) ∧ Buf w' g (done ++ by16 v) (Z8 (m - 2)) ∧ Keep w w' (· = g) := by
  subst hk
  refine (bePut16 g done.length n c v _ _ w hn hv (h.zcell (Nat.le_refl _) (by omega)) (h.zcell (by omega) (by omega)) (h.free _) (h.free _)).mono ?_
  rintro e w1 ⟨rfl, rfl⟩
  refine ⟨rfl, ?_, keep_put16 _ _ _ _⟩
  have h2 := (h.z1 (by omega) rfl (v / 256)).z1 (by omega) (k := done.length + 1) (by simp) (v % 256)
  rw [List.append_assoc] at h2
  exact h2
/-- bePutUint32, at the end of what is written. -/
theorem put32_walk (h : Buf w g done (Z8 m)) (hm : 4 ≤ m) {n c k : Nat} (hn : 4 ≤ n) (hk : k = done.length) {v : Int} (hv : 0 ≤ v ∧ v < 4294967296) :
    Calls Tryd.prog 105 #[.slice (some ⟨g, k, none⟩) n c, .int .u32 v] w fun e w' => e = .returned (.tuple #[]) ∧ Buf w' g (done ++ by32 v) (Z8 (m - 4)) ∧ Keep w w' (· = g) := by
  subst hk
  refine (bePut32 g done.length n c v _ _ _ _ w hn hv (h.zcell (Nat.le_refl _) (by omega)) (h.zcell (by omega) (by omega)) (h.zcell (by omega) (by omega)) (h.zcell (by omega) (by omega)) (h.free _) (h.free _) (h.free _) (h.free _)).mono ?_
  rintro e w1 ⟨rfl, rfl⟩
  refine ⟨rfl, ?_, keep_put32 _ _ _ _⟩
  have e4 : Z8 m = Value.int .u8 0 :: Value.int .u8 0 :: Value.int .u8 0 :: Value.int .u8 0 :: Z8 (m - 4) := by
    rw [Z8_succ (m := m) (by omega), Z8_succ (m := m - 1) (by omega), Z8_succ (m := m - 1 - 1) (by omega), Z8_succ (m := m - 1 - 1 - 1) (by omega)]
    congr 5
  have h2 := Buf.put32 (g := g) (done := done) (e4 ▸ h) v
  have e5 : by32 v = [v / 16777216, v / 65536 % 256, v / 256 % 256, v % 256] := by
    unfold by32 by16
    rw [show v / 65536 / 256 = v / 16777216 by omega, show v % 65536 / 256 = v / 256 % 256 by omega, show v % 65536 % 256 = v % 256 by omega]
    rfl
  rw [e5]
  exact h2
/-- bePutUint16, in the midst of what is written. -/
theorem put16_mid {d1 d2 : List Int} {y0 y1 : Int} {rest : List Value} (h : Buf w g (d1 ++ y0 :: y1 :: d2) rest) {n c k : Nat} (hn : 2 ≤ n) (hk : k = d1.length) {v : Int} (hv : 0 ≤ v ∧ v < 65536) :
    Calls Tryd.prog 104 #[.slice (some ⟨g, k, none⟩) n c, .int .u16 v] w fun e w' => e = .returned (.tuple #[]) ∧ Buf w' g (d1 ++ (by16 v ++ d2)) rest ∧ Keep w w' (· = g) := by
  subst hk
  refine (bePut16 g d1.length n c v _ _ w hn hv (h.at_ (i := d1.length) (y := y0) (by simp)) (h.at_ (i := d1.length + 1) (y := y1) (by rw [List.getElem?_append_right (by omega)]; simp)) (h.free _) (h.free _)).mono ?_
  rintro e w1 ⟨rfl, rfl⟩
  refine ⟨rfl, ?_, keep_put16 _ _ _ _⟩
  have h1 := h.mid rfl (v / 256)
  have h2 := Buf.mid (d1 := d1 ++ [v / 256]) (y := y1) (d2 := d2) (k := d1.length + 1) (by simpa using h1) (by simp) (v % 256)
  simpa [by16, put16] using h2
end

section
variable {P : Program} {w : World} {ops : Array Oper} {rest : List Oper} {o : Oper} {a : Act} {Q : Exit → Act → World → Prop} {g : Nat} {done data : List Int} {m : Nat}
/-- copy of bytes to the end of what is written, as a step of a region that draws its order. -/
theorem step_copyZ {K : Act → World → Prop} {E : Prop} (hgd : o.guard = none) (d x : Operand) {dT sT : TypeId} (ho : o.op = .call { callee := .builtin .copy, args := #[d, x], argTypes := #[dT, sT] })
    (hu : P.underlying dT = some (.slice 5)) (hsz : (P.info? 5).map (·.size) = some 1) (h : Buf w g done (Z8 m))
    {p : Nat → Prop} {s : Value} {n : Nat} (hs : Rd w p 1 s n (B8 data)) {dn dc : Nat} {dp : Option Addr} (hd : a.eval d = .slice dp dn dc) (hx : a.eval x = s) (hdp : 0 < n → dp = some ⟨g, done.length, none⟩) (hdn : n ≤ dn) (hm : n ≤ m)
    (hk : ∀ w', Buf w' g (done ++ data) (Z8 (m - n)) → Keep w w' (· = g) → K (a.put o.dst (goInt (n : Int))) w') :
    if Region.wanted o (yielded ops a.tmps) = true then Oper.wp P o a w K Q else E := by
  have hl : data.length = n := by have := hs.len; rwa [B8_len] at this
  have e1 : min n dn = n := by omega
  refine step_copyB hgd d x ho hu hsz g done.length h hs (B8_one _) hd hx (by rw [e1]; exact hdp) (by rw [e1]; simp [B8_len, Z8_len]; omega) fun w' hb hk' => ?_
  rw [e1, List.take_of_length_le (by rw [B8_len]; omega)] at hb
  rw [e1]
  have := Buf.copied hb (by omega)
  rw [hl] at this
  exact hk w' this hk'
end
end Go.Proofs.YtdmnflngafbobaaDoor
