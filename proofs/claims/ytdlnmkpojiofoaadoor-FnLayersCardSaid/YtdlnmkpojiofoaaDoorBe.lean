/-
  Numbers of two and four bytes, the highest byte first: read and written. Conditions: those that stand in each theorem.
-/
import Derived.Test.YtdlnmkpojiofoaaDoorGMem
import Derived.RegionTactic
import Derived.BigRegion
namespace Go.Proofs.YtdlnmkpojiofoaaDoor
open Go.RowKit
set_option linter.unusedVariables false
set_option maxRecDepth 20000

theorem be16 (b o n c : Nat) (x0 x1 : Int) (w : World) (hn : 2 ≤ n) (h0 : 0 ≤ x0 ∧ x0 < 256) (h1 : 0 ≤ x1 ∧ x1 < 256) (c0 : w.cell? ⟨b, o, none⟩ = some (.int .u8 x0)) (c1 : w.cell? ⟨b, o + 1, none⟩ = some (.int .u8 x1)) :
    Calls Tryd.prog 29 #[.slice (some ⟨b, o, none⟩) n c] w fun e w' => e = .returned (.int .u16 (x0 * 256 + x1)) ∧ w.drew = w' := by
  obtain ⟨a0, a1⟩ := h0
  obtain ⟨b0, b1⟩ := h1
  have n1 : (1 : Int) < (n : Int) := by omega
  have n0 : (0 : Int) < (n : Int) := by omega
  have e1 : bits .or .u16 x1 (x0 * 256) = x1 + x0 * 256 := or16' 8 _ _ (by omega) (by omega) (by decide) (by omega) (by omega) (by omega)
  have e2 : x1 + x0 * 256 = x0 * 256 + x1 := by omega
  have E2 := hide e2
  clear e2
  go_enter Tryd.func29, Tryd.ntmps29
  go_wp2
  go_region
  all_goals go_wp2
  all_goals go_ret
  all_goals rw [← E2.out]
  all_goals exact ⟨rfl, rfl⟩

theorem be32 (b o n c : Nat) (x0 x1 x2 x3 : Int) (w : World) (hn : 4 ≤ n) (h0 : 0 ≤ x0 ∧ x0 < 256) (h1 : 0 ≤ x1 ∧ x1 < 256) (h2 : 0 ≤ x2 ∧ x2 < 256) (h3 : 0 ≤ x3 ∧ x3 < 256)
    (c0 : w.cell? ⟨b, o, none⟩ = some (.int .u8 x0)) (c1 : w.cell? ⟨b, o + 1, none⟩ = some (.int .u8 x1)) (c2 : w.cell? ⟨b, o + 2, none⟩ = some (.int .u8 x2)) (c3 : w.cell? ⟨b, o + 3, none⟩ = some (.int .u8 x3)) :
    Calls Tryd.prog 34 #[.slice (some ⟨b, o, none⟩) n c] w fun e w' => e = .returned (.int .u32 (x0 * 16777216 + x1 * 65536 + x2 * 256 + x3)) ∧ w.drew = w' := by
  obtain ⟨a0, a1⟩ := h0
  obtain ⟨b0, b1⟩ := h1
  obtain ⟨d0, d1⟩ := h2
  obtain ⟨f0, f1⟩ := h3
  have n3 : (3 : Int) < (n : Int) := by omega
  have n2 : (2 : Int) < (n : Int) := by omega
  have n1 : (1 : Int) < (n : Int) := by omega
  have n0 : (0 : Int) < (n : Int) := by omega
  have e1 : bits .or .u32 x3 (x2 * 256) = x3 + x2 * 256 := or32' 8 _ _ (by omega) (by omega) (by decide) (by omega) (by omega) (by omega)
  have e2 : bits .or .u32 (x3 + x2 * 256) (x1 * 65536) = x3 + x2 * 256 + x1 * 65536 := or32' 16 _ _ (by omega) (by omega) (by decide) (by omega) (by omega) (by omega)
  have e3 : bits .or .u32 (x3 + x2 * 256 + x1 * 65536) (x0 * 16777216) = x3 + x2 * 256 + x1 * 65536 + x0 * 16777216 := or32' 24 _ _ (by omega) (by omega) (by decide) (by omega) (by omega) (by omega)
  have e4 : x3 + x2 * 256 + x1 * 65536 + x0 * 16777216 = x0 * 16777216 + x1 * 65536 + x2 * 256 + x3 := by omega
  have E4 := hide e4
  clear e4
  go_enter Tryd.func34, Tryd.ntmps34
  go_wp2
  go_region
  all_goals go_wp2
  all_goals go_ret
  all_goals rw [← E4.out]
  all_goals exact ⟨rfl, rfl⟩

/-- A world with the two bytes of a number written. -/
def put16 (w : World) (b o : Nat) (v : Int) : World := (w.setCell ⟨b, o, none⟩ (.int .u8 (v / 256))).setCell ⟨b, o + 1, none⟩ (.int .u8 (v % 256))
def put32 (w : World) (b o : Nat) (v : Int) : World := (((w.setCell ⟨b, o, none⟩ (.int .u8 (v / 16777216))).setCell ⟨b, o + 1, none⟩ (.int .u8 (v / 65536 % 256))).setCell ⟨b, o + 2, none⟩ (.int .u8 (v / 256 % 256))).setCell ⟨b, o + 3, none⟩ (.int .u8 (v % 256))

theorem keep_put16 (w : World) (b o : Nat) (v : Int) : Keep w (put16 w b o v) (· = b) := (Keep.set1 w b o _).trans (Keep.set1 _ b (o + 1) _) fun _ _ e => e
theorem keep_put32 (w : World) (b o : Nat) (v : Int) : Keep w (put32 w b o v) (· = b) :=
  (((Keep.set1 w b o _).trans (Keep.set1 _ b (o + 1) _) fun _ _ e => e).trans (Keep.set1 _ b (o + 2) _) fun _ _ e => e).trans (Keep.set1 _ b (o + 3) _) fun _ _ e => e
theorem blk_put16 {w : World} {b : Nat} {t : TypeId} {cs : Array Value} (h : Blk w b t cs) (o : Nat) (v : Int) : Blk (put16 w b o v) b t ((cs.setIfInBounds o (.int .u8 (v / 256))).setIfInBounds (o + 1) (.int .u8 (v % 256))) := (h.set_ o _).set_ (o + 1) _
theorem blk_put32 {w : World} {b : Nat} {t : TypeId} {cs : Array Value} (h : Blk w b t cs) (o : Nat) (v : Int) :
    Blk (put32 w b o v) b t ((((cs.setIfInBounds o (.int .u8 (v / 16777216))).setIfInBounds (o + 1) (.int .u8 (v / 65536 % 256))).setIfInBounds (o + 2) (.int .u8 (v / 256 % 256))).setIfInBounds (o + 3) (.int .u8 (v % 256))) := (((h.set_ o _).set_ (o + 1) _).set_ (o + 2) _).set_ (o + 3) _

/-- n bytes that are 0. -/
def Z8 (n : Nat) : List Value := List.replicate n (Value.int .u8 0)
theorem Z8_len (n : Nat) : (Z8 n).length = n := List.length_replicate
/-- A block of bytes: what has been written, and the rest. -/
def Buf (w : World) (g : Nat) (done : List Int) (rest : List Value) : Prop := Blk w g 5 (B8 done ++ rest).toArray
section
variable {w w' : World} {g : Nat} {done : List Int} {rest : List Value} {S : Nat → Prop}
theorem Buf.keep (h : Buf w g done rest) (k : Keep w w' S) (hg : ¬ S g) : Buf w' g done rest := Blk.keep h k hg
theorem Buf.alloc (h : Buf w g done rest) (o : Obj) : Buf (w.alloc o) g done rest := Blk.alloc h o
theorem Buf.drew (h : Buf w g done rest) : Buf w.drew g done rest := h
theorem Buf.free (h : Buf w g done rest) (i : Nat) : w.frozen? ⟨g, i, none⟩ = false := Blk.free h i
theorem Buf.lt (h : Buf w g done rest) : g < w.heap.size := Blk.lt h
theorem Buf.cell (h : Buf w g done rest) (i : Nat) (hi : i < rest.length) : ∃ y, w.cell? ⟨g, done.length + i, none⟩ = some y :=
  ⟨_, Blk.cell h (done.length + i) (v := (B8 done ++ rest)[done.length + i]'(by simp [B8_len]; omega)) (by simp)⟩
theorem Buf.at_ (h : Buf w g done rest) {i : Nat} {y : Int} (hi : done[i]? = some y) : w.cell? ⟨g, i, none⟩ = some (.int .u8 y) := by
  refine Blk.cell h i ?_
  have hl := (List.getElem?_eq_some_iff.1 hi).1
  simp only [List.getElem?_toArray]
  rw [List.getElem?_append_left (by rw [B8_len]; exact hl)]
  exact B8_get hi
theorem Buf.set {y : Value} (h : Buf w g done (y :: rest)) (u : Int) : Buf (w.setCell ⟨g, done.length, none⟩ (.int .u8 u)) g (done ++ [u]) rest := by
  have h1 := Blk.set_ h done.length (.int .u8 u)
  unfold Buf
  rw [List.setIfInBounds_toArray, show done.length = (B8 done).length from (B8_len done).symm, List.set_append_right _ _ (Nat.le_refl _), Nat.sub_self, List.set_cons_zero] at h1
  rw [show (B8 done).length = done.length from B8_len done] at h1
  rw [B8_app, List.append_assoc]
  exact h1
theorem Buf.put16 {y0 y1 : Value} (h : Buf w g done (y0 :: y1 :: rest)) (v : Int) : Buf (put16 w g done.length v) g (done ++ [v / 256, v % 256]) rest := by
  have h2 := (h.set (v / 256)).set (v % 256)
  simp only [List.length_append, List.length_cons, List.length_nil, Nat.zero_add, List.append_assoc, List.cons_append, List.nil_append] at h2
  exact h2
theorem Buf.put32 {y0 y1 y2 y3 : Value} (h : Buf w g done (y0 :: y1 :: y2 :: y3 :: rest)) (v : Int) : Buf (put32 w g done.length v) g (done ++ [v / 16777216, v / 65536 % 256, v / 256 % 256, v % 256]) rest := by
  have h2 := (((h.set (v / 16777216)).set (v / 65536 % 256)).set (v / 256 % 256)).set (v % 256)
  simp only [List.length_append, List.length_cons, List.length_nil, Nat.zero_add, List.append_assoc, List.cons_append, List.nil_append, Nat.reduceAdd] at h2
  exact h2
theorem Buf.own (h : Buf w g done rest) {B n cap : Nat} (hB : B ≤ g) (hn : n = done.length) (hc : cap = done.length + rest.length) (hm : cap ≤ maxLen) : Own w B 5 1 (.slice (some ⟨g, 0, none⟩) n cap) n (B8 done) := by
  have := Own.of_blk (B := B) (n := n) (cap := cap) (sz := 1) h hB (by omega) hm (by simp [B8_len]; omega)
  rw [Nat.mul_one, List.take_left' (by rw [B8_len]; omega)] at this
  exact this
end

theorem bePut16 (b o n c : Nat) (v : Int) (y0 y1 : Value) (w : World) (hn : 2 ≤ n) (hv : 0 ≤ v ∧ v < 65536) (c0 : w.cell? ⟨b, o, none⟩ = some y0) (c1 : w.cell? ⟨b, o + 1, none⟩ = some y1) (f0 : w.frozen? ⟨b, o, none⟩ = false) (f1 : w.frozen? ⟨b, o + 1, none⟩ = false) :
    Calls Tryd.prog 57 #[.slice (some ⟨b, o, none⟩) n c, .int .u16 v] w fun e w' => e = .returned (.tuple #[]) ∧ put16 w b o v = w' := by
  obtain ⟨a0, a1⟩ := hv
  have n1 : (1 : Int) < (n : Int) := by omega
  have n0 : (0 : Int) < (n : Int) := by omega
  go_enter Tryd.func57, Tryd.ntmps57
  go_wp2
  go_end0
  exact ⟨rfl, rfl⟩

theorem bePut32 (b o n c : Nat) (v : Int) (y0 y1 y2 y3 : Value) (w : World) (hn : 4 ≤ n) (hv : 0 ≤ v ∧ v < 4294967296) (c0 : w.cell? ⟨b, o, none⟩ = some y0) (c1 : w.cell? ⟨b, o + 1, none⟩ = some y1) (c2 : w.cell? ⟨b, o + 2, none⟩ = some y2) (c3 : w.cell? ⟨b, o + 3, none⟩ = some y3)
    (f0 : w.frozen? ⟨b, o, none⟩ = false) (f1 : w.frozen? ⟨b, o + 1, none⟩ = false) (f2 : w.frozen? ⟨b, o + 2, none⟩ = false) (f3 : w.frozen? ⟨b, o + 3, none⟩ = false) :
    Calls Tryd.prog 61 #[.slice (some ⟨b, o, none⟩) n c, .int .u32 v] w fun e w' => e = .returned (.tuple #[]) ∧ put32 w b o v = w' := by
  obtain ⟨a0, a1⟩ := hv
  have n1 : (1 : Int) < (n : Int) := by omega
  have n0 : (0 : Int) < (n : Int) := by omega
  have n2 : (2 : Int) < (n : Int) := by omega
  have n3 : (3 : Int) < (n : Int) := by omega
  go_enter Tryd.func61, Tryd.ntmps61
  go_wp2
  go_end0
  exact ⟨rfl, rfl⟩
end Go.Proofs.YtdlnmkpojiofoaaDoor
