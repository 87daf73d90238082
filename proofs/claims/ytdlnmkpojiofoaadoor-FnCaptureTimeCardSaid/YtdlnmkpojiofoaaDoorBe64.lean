/-
  Numbers of eight bytes, the highest byte first: read and written. Conditions: those that stand in each theorem.
-/
import Derived.Test.YtdlnmkpojiofoaaDoorBe
import Derived.Deep.QuietTactic
import Derived.BigQuiet
namespace Go.Proofs.YtdlnmkpojiofoaaDoor
open Go.RowKit
set_option linter.unusedVariables false
set_option maxRecDepth 20000

/-- The bytes of a number of 64 bits. -/
def by64 (x : Int) : List Int := [x / 72057594037927936, x / 281474976710656 % 256, x / 1099511627776 % 256, x / 4294967296 % 256, x / 16777216 % 256, x / 65536 % 256, x / 256 % 256, x % 256]

theorem be64 (b o n c : Nat) (x : Int) (w : World) (hn : 8 ≤ n) (hc : n ≤ c) (hx : 0 ≤ x ∧ x < 18446744073709551616) (h : ∀ j y, (by64 x)[j]? = some y → w.cell? ⟨b, o + j, none⟩ = some (.int .u8 y)) :
    Calls Tryd.prog 30 #[.slice (some ⟨b, o, none⟩) n c] w fun e w' => e = .returned (.int .u64 x) ∧ Keep w w' Nul := by
  obtain ⟨x0, x1⟩ := hx
  have c0 := h 0 _ rfl
  have c1 := h 1 _ rfl
  have c2 := h 2 _ rfl
  have c3 := h 3 _ rfl
  have c4 := h 4 _ rfl
  have c5 := h 5 _ rfl
  have c6 := h 6 _ rfl
  have c7 := h 7 _ rfl
  simp only [Nat.add_zero] at c0
  have n7 : (7 : Int) < (n : Int) := by omega
  have n4 : (4 : Int) ≤ (n : Int) := by omega
  have nc : (n : Int) ≤ (c : Int) := by omega
  have hA : ∀ w' : World, w'.heap = w.heap → Calls Tryd.prog 34 #[.slice (some ⟨b, o, none⟩) n c] w' fun e w'' => e = .returned (.int .u32 (x / 4294967296)) ∧ w'.drew = w'' := by
    intro w' hw
    have hcell : ∀ a, w'.cell? a = w.cell? a := fun a => by simp [World.cell?, hw]
    have := be32 b o n c _ _ _ _ w' (by omega) (by omega) (by omega) (by omega) (by omega) ((hcell _).trans c0) ((hcell _).trans c1) ((hcell _).trans c2) ((hcell _).trans c3)
    rwa [show x / 72057594037927936 * 16777216 + x / 281474976710656 % 256 * 65536 + x / 1099511627776 % 256 * 256 + x / 4294967296 % 256 = x / 4294967296 by omega] at this
  have hB : ∀ w' : World, w'.heap = w.heap → Calls Tryd.prog 34 #[.slice (some ⟨b, o + 4, none⟩) (n - 4) (c - 4)] w' fun e w'' => e = .returned (.int .u32 (x % 4294967296)) ∧ w'.drew = w'' := by
    intro w' hw
    have hcell : ∀ a, w'.cell? a = w.cell? a := fun a => by simp [World.cell?, hw]
    have := be32 b (o + 4) (n - 4) (c - 4) _ _ _ _ w' (by omega) (by omega) (by omega) (by omega) (by omega) ((hcell _).trans c4) ((hcell _).trans c5) ((hcell _).trans c6) ((hcell _).trans c7)
    rwa [show x / 16777216 % 256 * 16777216 + x / 65536 % 256 * 65536 + x / 256 % 256 * 256 + x % 256 = x % 4294967296 by omega] at this
  have e1 : bits .or .u64 (x / 4294967296 * 4294967296) (x % 4294967296) = x := by
    rw [or64 32 _ _ (by omega) (by omega) (by omega) (by omega) (by decide) (by omega)]
    omega
  have q0 : 0 ≤ x / 4294967296 := by omega
  have q1 : x / 4294967296 < 4294967296 := by omega
  have cc : ¬ c = 4 := by omega
  have w1 : IntKind.u64.wrap (x / 4294967296) = x / 4294967296 := IntWalk.u64_in _ (by omega)
  have w2 : IntKind.u64.wrap (x / 4294967296 * 4294967296) = x / 4294967296 * 4294967296 := IntWalk.u64_in _ (by omega)
  have w3 : IntKind.u64.wrap (x % 4294967296) = x % 4294967296 := IntWalk.u64_in _ (by omega)
  have HA := hide hA
  have HB := hide hB
  clear hA hB h c0 c1 c2 c3 c4 c5 c6
  go_enter Tryd.func30, Tryd.ntmps30
  go_wp2_with fail
  go_region_with (first | (go_at_call 34; (with_reducible refine (HA.out _ ?_).mono ?_); (first | rfl | simp); rintro e w' ⟨rfl, rfl⟩) | (go_at_call 34; (with_reducible refine (HB.out _ ?_).mono ?_); (first | rfl | simp); rintro e w' ⟨rfl, rfl⟩))
  all_goals go_wp2
  all_goals go_ret
  all_goals simp only [Act.put, Array.getD_eq_getD_getElem?]
  all_goals exact ⟨rfl, by repeat (first | exact Keep.refl _ _ | apply Keep.drew)⟩

def put64 (w : World) (b o : Nat) (v : Int) : World := put32 (put32 w b o (v / 4294967296)) b (o + 4) (v % 4294967296)
theorem keep_put64 (w : World) (b o : Nat) (v : Int) : Keep w (put64 w b o v) (· = b) := (keep_put32 _ _ _ _).trans (keep_put32 _ _ _ _) fun _ _ e => e

theorem Buf.put64 {w : World} {g : Nat} {done : List Int} {y0 y1 y2 y3 y4 y5 y6 y7 : Value} {rest : List Value} (h : Buf w g done (y0 :: y1 :: y2 :: y3 :: y4 :: y5 :: y6 :: y7 :: rest)) (v : Int) : Buf (put64 w g done.length v) g (done ++ by64 v) rest := by
  have h2 := (h.put32 (v / 4294967296)).put32 (v % 4294967296)
  simp only [List.length_append, List.length_cons, List.length_nil, Nat.zero_add, List.append_assoc, List.cons_append, List.nil_append, Nat.reduceAdd] at h2
  have e : by64 v = [v / 4294967296 / 16777216, v / 4294967296 / 65536 % 256, v / 4294967296 / 256 % 256, v / 4294967296 % 256, v % 4294967296 / 16777216, v % 4294967296 / 65536 % 256, v % 4294967296 / 256 % 256, v % 4294967296 % 256] := by
    simp only [by64, List.cons.injEq, and_true]
    refine ⟨?_, ?_, ?_, ?_, ?_, ?_, ?_, ?_⟩ <;> first | exact True.intro | omega
  rw [e]
  exact h2

theorem bePut64 (b o n c : Nat) (v : Int) (t : TypeId) (cs : Array Value) (w : World) (hn : 8 ≤ n) (hc : n ≤ c) (hv : 0 ≤ v ∧ v < 18446744073709551616) (hb : Blk w b t cs) (hs : o + 8 ≤ cs.size) :
    Calls Tryd.prog 60 #[.slice (some ⟨b, o, none⟩) n c, .int .u64 v] w fun e w' => e = .returned (.tuple #[]) ∧ put64 w b o v = w' := by
  obtain ⟨a0, a1⟩ := hv
  have n7 : (7 : Int) < (n : Int) := by omega
  have n4 : (4 : Int) ≤ (n : Int) := by omega
  have nc : (n : Int) ≤ (c : Int) := by omega
  have cc : ¬ c = 4 := by omega
  have q0 : 0 ≤ v / 4294967296 := by omega
  have q1 : v / 4294967296 < 4294967296 := by omega
  have cell : ∀ j, j < cs.size → ∃ y, w.cell? ⟨b, j, none⟩ = some y := fun j hj => ⟨_, hb.cell j (Array.getElem?_eq_getElem hj)⟩
  obtain ⟨y0, h0⟩ := cell o (by omega)
  obtain ⟨y1, h1⟩ := cell (o + 1) (by omega)
  obtain ⟨y2, h2⟩ := cell (o + 2) (by omega)
  obtain ⟨y3, h3⟩ := cell (o + 3) (by omega)
  obtain ⟨y7, h7⟩ := cell (o + 7) (by omega)
  have hA := hide (bePut32 b o n c (v / 4294967296) y0 y1 y2 y3 w (by omega) (by omega) h0 h1 h2 h3 (hb.free _) (hb.free _) (hb.free _) (hb.free _))
  have hb2 := blk_put32 hb o (v / 4294967296)
  have cell2 : ∀ j, j < cs.size → ∃ y, (put32 w b o (v / 4294967296)).cell? ⟨b, j, none⟩ = some y := fun j hj => ⟨_, hb2.cell j (Array.getElem?_eq_getElem (by simpa using hj))⟩
  obtain ⟨z0, k0⟩ := cell2 (o + 4) (by omega)
  obtain ⟨z1, k1⟩ := cell2 (o + 4 + 1) (by omega)
  obtain ⟨z2, k2⟩ := cell2 (o + 4 + 2) (by omega)
  obtain ⟨z3, k3⟩ := cell2 (o + 4 + 3) (by omega)
  have hB := hide (bePut32 b (o + 4) (n - 4) (c - 4) (v % 4294967296) z0 z1 z2 z3 (put32 w b o (v / 4294967296)) (by omega) (by omega) k0 k1 k2 k3 (hb2.free _) (hb2.free _) (hb2.free _) (hb2.free _))
  clear cell cell2 h0 h1 h2 h3 k0 k1 k2 k3
  go_enter Tryd.func60, Tryd.ntmps60
  go_wp2_with fail
  refine (hA.out).mono ?_
  rintro e w' ⟨rfl, rfl⟩
  go_wp2_with fail
  refine (hB.out).mono ?_
  rintro e w' ⟨rfl, rfl⟩
  go_wp2_with fail
  go_end0
  exact ⟨rfl, rfl⟩
end Go.Proofs.YtdlnmkpojiofoaaDoor
