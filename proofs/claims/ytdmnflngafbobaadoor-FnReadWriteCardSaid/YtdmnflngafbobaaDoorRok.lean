/-
  The numbers of a header that was read are such. Conditions: those that stand in each theorem.
-/
import Derived.Test.YtdmnflngafbobaaDoorGUz
namespace Go.Proofs.YtdmnflngafbobaaDoor
open Go.RowKit
set_option linter.unusedVariables false
set_option linter.unusedSimpArgs false

theorem isB_take {l : List Int} (h : IsB l) (k : Nat) : IsB (l.take k) := fun x hx => h x (List.mem_of_mem_take hx)
theorem isB_drop {l : List Int} (h : IsB l) (k : Nat) : IsB (l.drop k) := fun x hx => h x (List.mem_of_mem_drop hx)
theorem readX_ok (two : Bool) : ∀ (k : Nat) (l : List Int) (ys : List Ex), IsB l → readX two k l = some ys → ∀ x ∈ ys, (0 ≤ x.id ∧ x.id < 256) ∧ IsB x.data
  | 0, l, ys, _, h => by simp only [readX] at h; injection h with h; subst h; exact fun x hx => by cases hx
  | k + 1, [], ys, _, h => by simp only [readX] at h; injection h with h; subst h; exact fun x hx => by cases hx
  | k + 1, b :: l, ys, hI, h => by
    have hb := hI b (by simp)
    have hl : IsB l := fun x hx => hI x (by simp [hx])
    have hrec : ∀ (l' : List Int) (z : Ex), IsB l' → (0 ≤ z.id ∧ z.id < 256) → IsB z.data → (readX two k l').map (z :: ·) = some ys → ∀ x ∈ ys, (0 ≤ x.id ∧ x.id < 256) ∧ IsB x.data := by
      intro l' z hl' h1 h2 hm
      cases hq : readX two k l' with
      | none => rw [hq] at hm; cases hm
      | some ys' =>
        rw [hq] at hm
        injection hm with hm
        subst hm
        intro x hx
        rcases List.mem_cons.1 hx with rfl | hx
        · exact ⟨h1, h2⟩
        · exact readX_ok two k l' ys' hl' hq x hx
    unfold readX at h
    split at h
    · exact readX_ok two k l ys hl h
    · split at h
      · cases l with
        | nil => cases h
        | cons n r =>
          simp only at h
          have hr : IsB r := fun x hx => hl x (by simp [hx])
          split at h
          · cases h
          · exact hrec _ _ (isB_drop hr _) hb (isB_take hr _) h
      · split at h
        · cases h
        · exact hrec _ _ (isB_drop hl _) ⟨by show 0 ≤ b / 16; omega, by show b / 16 < 256; omega⟩ (isB_take hl _) h
theorem extsOf_ok {prof : Int} {l : List Int} {ys : List Ex} (hI : IsB l) (h : extsOf prof l = some ys) : ∀ x ∈ ys, (0 ≤ x.id ∧ x.id < 256) ∧ IsB x.data := by
  unfold extsOf at h
  split at h
  · cases h
  · split at h
    · injection h with h
      subst h
      intro x hx
      simp at hx
      subst hx
      exact ⟨⟨by show (0 : Int) ≤ 0; omega, by show (0 : Int) < 256; omega⟩, hI⟩
    · exact readX_ok _ _ _ _ hI h
theorem g16_rng {bs : List Int} (hI : IsB bs) (i : Nat) : 0 ≤ g16 bs i ∧ g16 bs i < 65536 := by
  have h0 := g8_rng hI i
  have h1 := g8_rng hI (i + 1)
  unfold g16
  omega
theorem g32_rng {bs : List Int} (hI : IsB bs) (i : Nat) : 0 ≤ g32 bs i ∧ g32 bs i < 4294967296 := by
  have h0 := g16_rng hI i
  have h1 := g16_rng hI (i + 2)
  unfold g32
  omega
theorem headR_ok {bs : List Int} (hI : IsB bs) : (headR bs).Ok := by
  have h0 := g8_rng hI 0
  have h1 := g8_rng hI 1
  exact ⟨⟨by show 0 ≤ g8 bs 0 / 64; omega, by show g8 bs 0 / 64 < 256; omega⟩, ⟨by show 0 ≤ g8 bs 1 % 128; omega, by show g8 bs 1 % 128 < 256; omega⟩, g16_rng hI 2, g32_rng hI 4, g32_rng hI 8,
    (fun x hx => by
      obtain ⟨i, _, rfl⟩ := List.mem_map.1 hx
      exact g32_rng hI _), ⟨by show (0 : Int) ≤ 0; omega, by show (0 : Int) < 65536; omega⟩, (fun x hx => by cases hx), ⟨by show (0 : Int) ≤ 0; omega, by show (0 : Int) < 256; omega⟩⟩
theorem readB_ok {bs : List Int} {h : Hd} {m : Nat} (hI : IsB bs) (hr : readB bs = .good h m) : h.Ok := by
  have ho := headR_ok hI
  unfold readB at hr
  split at hr
  · cases hr
  · split at hr
    · cases hr
    · split at hr
      · cases hr
      · split at hr
        · cases hr; exact ho
        · split at hr
          · cases hr
          · split at hr
            · cases hr
            · split at hr
              · cases hr
              · rename_i xs hx
                cases hr
                exact ⟨ho.v, ho.ty, ho.seq, ho.time, ho.ssrc, ho.srcs, g16_rng hI _, extsOf_ok (isB_take (isB_drop hI _) _) hx, ho.padn⟩
theorem readP_ok {bs : List Int} {h : Hd} {pay : List Int} (hI : IsB bs) (hr : readP bs = .good h pay) : h.Ok ∧ IsB pay := by
  unfold readP at hr
  cases hb : readB bs with
  | bad => rw [hb] at hr; cases hr
  | wide => rw [hb] at hr; cases hr
  | good h0 n =>
    have ho := readB_ok hI hb
    rw [hb] at hr
    simp only at hr
    split at hr
    · cases hr; exact ⟨ho, isB_drop hI _⟩
    · split at hr
      · cases hr
      · split at hr
        · cases hr
        · split at hr
          · cases hr
          · cases hr
            exact ⟨⟨ho.v, ho.ty, ho.seq, ho.time, ho.ssrc, ho.srcs, ho.prof, ho.exts, g8_rng hI _⟩, isB_take (isB_drop hI _) _⟩
end Go.Proofs.YtdmnflngafbobaaDoor
