/-
  Layers read: the context; checkRemainingLen. Conditions: those that stand in each theorem.
-/
import Derived.Test.YtdlnmkpojiofoaaDoorVl17
namespace Go.Proofs.YtdlnmkpojiofoaaDoor
open Go.RowKit
set_option linter.unusedVariables false
set_option linter.unusedSimpArgs false
set_option maxRecDepth 100000

/-- The cells of the context of a reading. -/
def uctV (A : Option Addr) (n c : Nat) (off f : Int) (mbs : List Int) : Array Value := ([Value.slice A n c, Value.int .i64 off, Value.int .u8 f] ++ mbs.map (Value.int .u8)).toArray
section
variable {A : Option Addr} {n c : Nat} {off f : Int} {mbs : List Int}
theorem uct_0 : (uctV A n c off f mbs)[0]? = some (.slice A n c) := rfl
theorem uct_1 : (uctV A n c off f mbs)[1]? = some (.int .i64 off) := rfl
theorem uct_2 : (uctV A n c off f mbs)[2]? = some (.int .u8 f) := rfl
theorem uct_m {s : Nat} {m : Int} (h : mbs[s]? = some m) : (uctV A n c off f mbs)[3 + s]? = some (.int .u8 m) := by
  unfold uctV
  rw [List.getElem?_toArray, List.getElem?_append_right (by simp)]
  simp [h]
theorem uct_s1 (u : Int) : (uctV A n c off f mbs).setIfInBounds 1 (.int .i64 u) = uctV A n c u f mbs := by
  unfold uctV
  rw [List.setIfInBounds_toArray]
  rfl
theorem uct_s2 (u : Int) : (uctV A n c off f mbs).setIfInBounds 2 (.int .u8 u) = uctV A n c off u mbs := by
  unfold uctV
  rw [List.setIfInBounds_toArray]
  rfl
theorem uct_sm (s : Nat) (u : Int) : (uctV A n c off f mbs).setIfInBounds (3 + s) (.int .u8 u) = uctV A n c off f (mbs.set s u) := by
  unfold uctV
  rw [List.setIfInBounds_toArray, List.set_append_right _ _ (by simp), List.map_set]
  congr 3
  simp
end

set_option maxHeartbeats 1600000 in
theorem chk_walk {A : Option Addr} {n c off m gu : Nat} {f : Int} {mbs : List Int} {T : TypeId} (w : World) (hu : Blk w gu T (uctV A n c (off : Int) f mbs)) (hm : off + m ≤ n) (hn : n ≤ 100000) :
    Calls Tryd.prog 35 #[.pointer (some ⟨gu, 0, none⟩), .int .i64 (m : Int)] w fun e w' => e = .returned (.bool true) ∧ Keep w w' Nul := by
  have c0 := hu.cell 0 uct_0
  have c1 := hu.cell 1 uct_1
  have hl := hu.lt
  have e1 : IntKind.i64.wrap ((n : Int) - (off : Int)) = (n : Int) - (off : Int) := by rw [IntKind.wrap_i64]; omega
  have k1 : (m : Int) ≤ (n : Int) - (off : Int) := by omega
  clear hu
  go_enter Tryd.func35, Tryd.ntmps35
  go_upto_region 1 with fail
  go_quiet (fail)
  go_wp2_with fail
  go_ret
  exact ⟨rfl, (Keep.refl w Nul).drewN _⟩
end Go.Proofs.YtdlnmkpojiofoaaDoor
