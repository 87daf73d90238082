/-
  What the reference writes: Fits, Plain, p16, p32. Conditions: those that stand in each theorem.
-/
import Derived.Test.YtdmnflngafbobaaDoorHd
import Derived.Test.YtdmnflngafbobaaDoorClo
import Derived.Test.YtdmnflngafbobaaDoorBits
namespace Go.Proofs.YtdmnflngafbobaaDoor
open Go.RowKit
set_option linter.unusedVariables false
set_option maxRecDepth 20000

/-- Bytes that a literal lays down, to be appended. -/
theorem src_lit {P : Program} {tx e e' : TypeId} (hk : P.underlying tx = some (.slice e')) {w : World} (xs : List Int) {cs : Array Value} {g n : Nat} (hc : cs = (B8 xs).toArray) (hg : g = w.heap.size) (hn : xs.length = n) (hm : n ≤ maxLen) :
    Src P 1 tx (.slice (some ⟨g, 0, none⟩) n n) n (B8 xs) (w.alloc (.cells cs e)) := by
  subst hc hg
  have := (Own.of_lit (e := e) (sz := 1) w (B8 xs).toArray n hm (by simp [B8_len, hn])).rd
  simp only [] at this
  exact src_of_rd _ hk this (B8_one xs)

/-- Fits: an extension of n bytes is one of the profile. -/
def fitsB (p id : Int) (n : Nat) : Bool :=
  if p = 48862 then decide (1 ≤ id ∧ id ≤ 14 ∧ 1 ≤ n ∧ n ≤ 16)
  else if p = 4096 then decide (1 ≤ id ∧ n ≤ 255)
  else decide (id = 0)
def plainB (p : Int) : Bool := decide (p = 48862 ∨ p = 4096 ∨ p < 4096 ∨ (4111 < p ∧ p ≠ 49374 ∧ p ≠ 49886))

theorem fits_walk (w : World) (p id : Int) (A : Option Addr) (n c : Nat) :
    Calls Tryd.prog 35 #[.int .u16 p, .int .u8 id, .slice A n c] w fun e w' => e = .returned (.bool (fitsB p id n)) ∧ w = w' := by
  go_enter Tryd.func35, Tryd.ntmps35
  go_wp2_with fail
  all_goals
    go_ret
    refine ⟨congrArg (fun b => Ending.returned (.bool b)) (Bool.eq_iff_iff.2 ?_), rfl⟩
    simp only [beq_iff_eq, beq_eq_false_iff_ne, ne_eq] at *
    by_cases q1 : p = 48862 <;> by_cases q2 : p = 4096 <;> (try (exfalso; omega)) <;> (try simp [fitsB, q1, q2]) <;> omega

theorem plain_walk (w : World) (p : Int) :
    Calls Tryd.prog 33 #[.int .u16 p] w fun e w' => e = .returned (.bool (plainB p)) ∧ w = w' := by
  go_enter Tryd.func33, Tryd.ntmps33
  go_wp2_with fail
  all_goals
    go_ret
    refine ⟨congrArg (fun b => Ending.returned (.bool b)) (Bool.eq_iff_iff.2 ?_), rfl⟩
    simp only [plainB, decide_eq_true_eq, Bool.false_eq_true, false_iff]
    first | omega | (simp; omega)

/-- A slice of the call's own has grown: what it was may be written, nothing else that was there. -/
def Grew (w w' : World) (v v' : Value) : Prop := Keep w w' (fun k => v.ownBlock = some k) ∧ ∀ g, g < w.heap.size → v'.ownBlock = some g → v.ownBlock = some g
theorem Grew.refl (w : World) (v : Value) : Grew w w v v := ⟨Keep.refl _ _, fun _ _ e => e⟩
theorem Grew.trans {w w1 w2 : World} {v v1 v2 : Value} (h : Grew w w1 v v1) (k : Grew w1 w2 v1 v2) : Grew w w2 v v2 :=
  ⟨h.1.trans k.1 fun i hi e => h.2 i hi e, fun g hg e => h.2 g hg (k.2 g (Nat.lt_of_lt_of_le hg h.1.size) e)⟩
theorem Grew.keep0 {w w1 w2 : World} {v v1 : Value} (h : Grew w w1 v v1) (k : Keep w1 w2 Nul) : Grew w w2 v v1 := ⟨h.1.trans0 k, h.2⟩
theorem Grew.from {w w1 w2 : World} {v v1 : Value} (k : Keep w w1 Nul) (h : Grew w1 w2 v v1) : Grew w w2 v v1 :=
  ⟨(k.nul _).trans h.1 fun _ _ e => e, fun g hg e => h.2 g (Nat.lt_of_lt_of_le hg k.size) e⟩
theorem Grew.of {w w1 : World} {v v1 : Value} (k : Keep w w1 (fun k => v.ownBlock = some k)) (h : v1.ownBlock = v.ownBlock ∨ v1.ownBlock = some w.heap.size) : Grew w w1 v v1 :=
  ⟨k, fun g hg e => by
    rcases h with h | h
    · rw [← h]; exact e
    · rw [h] at e; injection e with e; omega⟩
/-- All of it lies at B or above: what was below stays. -/
theorem Grew.keep {w w1 : World} {v v1 : Value} {B : Nat} {e : TypeId} {sz n : Nat} {xs : List Value} (h : Grew w w1 v v1) (o : Own w B e sz v n xs) {w0 : World} (k0 : Keep w0 w Nul) (hB : w0.heap.size ≤ B) : Keep w0 w1 Nul :=
  k0.trans h.1 fun i hi e => by have := (o.at_ i e).1; omega

def by16 (x : Int) : List Int := [x / 256, x % 256]
def by32 (x : Int) : List Int := by16 (x / 65536) ++ by16 (x % 65536)

theorem p16_walk {B : Nat} {v : Value} {n : Nat} {xs : List Value} (w : World) (x : Int) (h : Own w B 5 1 v n xs) (hx : 0 ≤ x ∧ x < 65536) (hn : n ≤ 70368744177664) (hB : B ≤ w.heap.size) :
    Calls Tryd.prog 93 #[v, .int .u16 x] w fun e w' => ∃ v', e = .returned v' ∧ Own w' B 5 1 v' (n + 2) (xs ++ B8 (by16 x)) ∧ Grew w w' v v' := by
  have hS := src_of_rd (P := Tryd.prog) (w.alloc (.cells #[.int .u8 (x / 256), .int .u8 (x % 256)] 5)) Tryd.underlying29 (Own.of_lit (e := 5) (sz := 1) w #[.int .u8 (x / 256), .int .u8 (x % 256)] 2 (by simp [maxLen]) rfl).rd (B8_one (by16 x))
  obtain ⟨A, c, rfl⟩ := h.rd.shape
  go_enter Tryd.func93, Tryd.ntmps93
  go_wp2_with (at_builtin; go_loud (refine wpList_app etB rfl _ _ rfl (h.alloc _) rfl hS rfl (by simp only [maxLen]; omega) (by omega) (by simp; omega) ?_); intro v' w1 ho1 hk1 hb1 hz1 _)
  go_ret
  exact ⟨_, rfl, ho1, Grew.from ((Keep.refl w _).alloc _) (Grew.of hk1 hb1)⟩

theorem p32_walk {B : Nat} {v : Value} {n : Nat} {xs : List Value} (w : World) (x : Int) (h : Own w B 5 1 v n xs) (hx : 0 ≤ x ∧ x < 4294967296) (hn : n ≤ 70368744177660) (hB : B ≤ w.heap.size) :
    Calls Tryd.prog 92 #[v, .int .u32 x] w fun e w' => ∃ v', e = .returned v' ∧ Own w' B 5 1 v' (n + 4) (xs ++ B8 (by32 x)) ∧ Grew w w' v v' := by
  have hC := hide (p16_walk w (x / 65536) h (by omega) (by omega) hB)
  have hD := fun v' w' (hk : w.heap.size ≤ w'.heap.size) (h : Own w' B 5 1 v' (n + 2) (xs ++ B8 (by16 (x / 65536)))) => p16_walk w' (x % 65536) h (by omega) (by omega) (by omega)
  have HD := hide hD
  obtain ⟨A, c, rfl⟩ := h.rd.shape
  have H := hide h
  clear h hD
  go_enter Tryd.func92, Tryd.ntmps92
  go_wp2_with fail
  refine hC.out.mono ?_
  rintro e w1 ⟨v1, rfl, o1, k1⟩
  have hC2 := hide (HD.out _ _ k1.1.size o1)
  have K1 := hide k1
  have e1 : IntKind.u16.wrap x = x % 65536 := IntKind.wrap_u16 x
  clear o1 k1 HD
  go_wp2_with fail
  refine hC2.out.mono ?_
  rintro e w2 ⟨v2, rfl, o2, k2⟩
  rw [List.append_assoc, ← B8_app] at o2
  have O2 := hide o2
  have K2 := hide k2
  clear o2 k2
  go_wp2_with fail
  go_ret
  exact ⟨_, rfl, O2.out, K1.out.trans K2.out⟩
end Go.Proofs.YtdmnflngafbobaaDoor
