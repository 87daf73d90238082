/-
  (*rtp.Header).Unmarshal: what stands before its extensions. Conditions: those that stand in each theorem.
-/
import Derived.Test.YtdmnflngafbobaaDoorRead
import Derived.Test.YtdmnflngafbobaaDoorBe
import Derived.Test.YtdmnflngafbobaaDoorCopy
import Derived.Test.YtdmnflngafbobaaDoorClone
import Derived.Test.YtdmnflngafbobaaDoorNav
namespace Go.Proofs.YtdmnflngafbobaaDoor
open Go.RowKit
set_option linter.unusedVariables false
set_option linter.unusedSimpArgs false
set_option maxRecDepth 100000

/-- The cells of a header of the package at the head of a block. -/
def uc (h : Hd) (sv xv : Value) (rest : List Value) : List Value :=
  .int .u8 h.v :: .bool h.pad :: .bool h.ext :: .bool h.mark :: .int .u8 h.ty :: .int .u16 h.seq :: .int .u32 h.time :: .int .u32 h.ssrc :: sv :: .int .u16 h.prof :: xv :: .int .u8 h.padn :: .int .i64 0 :: rest
def BL (w : World) (g : Nat) (t : TypeId) (l : List Value) : Prop := Blk w g t l.toArray
section
variable {w w' : World} {g : Nat} {t : TypeId} {l : List Value} {S : Nat → Prop}
theorem BL.cell (h : BL w g t l) (i : Nat) {v : Value} (hv : l[i]? = some v) : w.cell? ⟨g, i, none⟩ = some v := Blk.cell h i (by simpa using hv)
theorem BL.free (h : BL w g t l) (i : Nat) : w.frozen? ⟨g, i, none⟩ = false := Blk.free h i
theorem BL.lt (h : BL w g t l) : g < w.heap.size := Blk.lt h
theorem BL.keep (h : BL w g t l) (k : Keep w w' S) (hg : ¬ S g) : BL w' g t l := Blk.keep h k hg
theorem BL.alloc (h : BL w g t l) (o : Obj) : BL (w.alloc o) g t l := Blk.alloc h o
theorem BL.drew (h : BL w g t l) : BL w.drew g t l := h
theorem BL.set (h : BL w g t l) (i : Nat) (u : Value) : BL (w.setCell ⟨g, i, none⟩ u) g t (l.set i u) := by
  have := Blk.set_ h i u
  unfold BL
  rwa [List.setIfInBounds_toArray] at this
end
def hd0 : Hd := ⟨0, false, false, false, 0, 0, 0, 0, [], 0, [], 0⟩
/-- A header of the package as the head of block g, what it holds in blocks of which q holds. -/
def UH (w : World) (q : Nat → Prop) (g : Nat) (t : TypeId) (rest : List Value) (h : Hd) : Prop :=
  ∃ sv xv, BL w g t (uc h sv xv rest) ∧ Rd w q 1 sv h.srcs.length (U32 h.srcs) ∧ XR w q xv h.exts
theorem XR.nil_ (w : World) (p : Nat → Prop) : XR w p (.slice none 0 0) [] := ⟨[], ⟨rfl, by simp⟩, Rd.nil_ _ _ _⟩

theorem g8_of {bs : List Int} {i : Nat} (h : i < bs.length) : bs[i]? = some (g8 bs i) := by
  unfold g8
  rw [List.getD_eq_getElem?_getD, List.getElem?_eq_getElem h]
  rfl
theorem g8_rng {bs : List Int} (hI : IsB bs) (i : Nat) : 0 ≤ g8 bs i ∧ g8 bs i < 256 := by
  by_cases h : i < bs.length
  · have := List.mem_of_getElem? (g8_of h)
    exact hI _ this
  · unfold g8
    rw [List.getD_eq_getElem?_getD, List.getElem?_eq_none (by omega)]
    exact ⟨by simp, by simp⟩
/-- beUint16 of a piece of bytes. -/
theorem be16_at {p : Nat → Prop} {bs : List Int} {b o c n : Nat} (w : World) (hR : Rd w p 1 (.slice (some ⟨b, o, none⟩) n c) n (B8 bs)) (hI : IsB bs) (i : Nat) {k c' : Nat} (hi : i + 2 ≤ n) (hk : 2 ≤ k) :
    Calls Tryd.prog 102 #[.slice (some ⟨b, o + i, none⟩) k c'] w fun e w' => e = .returned (.int .u16 (g16 bs i)) ∧ w.drew = w' := by
  have hl : bs.length = n := by have := hR.len; rwa [B8_len] at this
  obtain ⟨b', o', c'', hv, _, _, _, _, hc⟩ := hR.lit (by omega)
  injection hv with e1 _ _
  injection e1 with e1
  injection e1 with e1 e2
  subst e1 e2
  have h0 := hc i _ (B8_get (g8_of (bs := bs) (i := i) (by omega)))
  have h1 := hc (i + 1) _ (B8_get (g8_of (bs := bs) (i := i + 1) (by omega)))
  rw [← Nat.add_assoc] at h1
  exact be16 b (o + i) k c' _ _ w hk (g8_rng hI i) (g8_rng hI (i + 1)) h0 h1
theorem be32_at {p : Nat → Prop} {bs : List Int} {b o c n : Nat} (w : World) (hR : Rd w p 1 (.slice (some ⟨b, o, none⟩) n c) n (B8 bs)) (hI : IsB bs) (i : Nat) {k c' : Nat} (hi : i + 4 ≤ n) (hk : 4 ≤ k) :
    Calls Tryd.prog 103 #[.slice (some ⟨b, o + i, none⟩) k c'] w fun e w' => e = .returned (.int .u32 (g32 bs i)) ∧ w.drew = w' := by
  have hl : bs.length = n := by have := hR.len; rwa [B8_len] at this
  obtain ⟨b', o', c'', hv, _, _, _, _, hc⟩ := hR.lit (by omega)
  injection hv with e1 _ _
  injection e1 with e1
  injection e1 with e1 e2
  subst e1 e2
  have h0 := hc i _ (B8_get (g8_of (bs := bs) (i := i) (by omega)))
  have h1 := hc (i + 1) _ (B8_get (g8_of (bs := bs) (i := i + 1) (by omega)))
  have h2 := hc (i + 2) _ (B8_get (g8_of (bs := bs) (i := i + 2) (by omega)))
  have h3 := hc (i + 3) _ (B8_get (g8_of (bs := bs) (i := i + 3) (by omega)))
  rw [← Nat.add_assoc] at h1 h2 h3
  have e : g32 bs i = g8 bs i * 16777216 + g8 bs (i + 1) * 65536 + g8 bs (i + 2) * 256 + g8 bs (i + 3) := by
    unfold g32 g16
    rw [show i + 2 + 1 = i + 3 by omega]
    omega
  rw [e]
  exact be32 b (o + i) k c' _ _ _ _ w hk (g8_rng hI i) (g8_rng hI (i + 1)) (g8_rng hI (i + 2)) (g8_rng hI (i + 3)) h0 h1 h2 h3
/-- One byte of a piece of bytes. -/
theorem rd_at {w : World} {p : Nat → Prop} {bs : List Int} {b o c n : Nat} (hR : Rd w p 1 (.slice (some ⟨b, o, none⟩) n c) n (B8 bs)) (i : Nat) (hi : i < n) : w.cell? ⟨b, o + i, none⟩ = some (.int .u8 (g8 bs i)) := by
  have hl : bs.length = n := by have := hR.len; rwa [B8_len] at this
  obtain ⟨b', o', c'', hv, _, _, _, _, hc⟩ := hR.lit (by omega)
  injection hv with e1 _ _
  injection e1 with e1
  injection e1 with e1 e2
  subst e1 e2
  exact hc i _ (B8_get (g8_of (bs := bs) (i := i) (by omega)))

/-- The header ahead of its fields from the second byte on. -/
def hdA (bs : List Int) : Hd := { hd0 with v := g8 bs 0 / 64, pad := decide (g8 bs 0 / 32 % 2 = 1), ext := decide (g8 bs 0 / 16 % 2 = 1), srcs := List.replicate (cc bs) 0 }
def hdB (bs : List Int) : Hd := { hdA bs with mark := decide (g8 bs 1 / 128 = 1), ty := g8 bs 1 % 128, seq := g16 bs 2, time := g32 bs 4, ssrc := g32 bs 8 }
end Go.Proofs.YtdmnflngafbobaaDoor
