/-
  The law FnSequence returns true. Conditions: none beyond its row's.
-/
import Derived.Test.YtdlnmkpojiofoaaDoorSeq
namespace Go.Proofs.YtdlnmkpojiofoaaDoor
open Go.RowKit
set_option linter.unusedVariables false
set_option maxRecDepth 20000

theorem seq_law {p : Nat → Prop} {v : Value} {n : Nat} {xs : List Int} (w : World) (t : Int) (h0 : 0 ≤ t) (ht : t < 65536) (h : Rd w p 1 v n (B8 xs)) (hI : IsB xs) {te : TypeId} {ve : Value} (he : w.cell? ⟨0, 0, none⟩ = some (.iface te ve)) :
    Calls Tryd.prog 4 #[.int .u16 t, v] w fun e w' => e = .returned (.bool true) ∧ Below w.heap.size w w' := by
  have hv := h
  obtain ⟨_, A, c, rfl, hnc, hcm, _⟩ := hv
  have hle := h.le
  by_cases c1 : (2147483647 : Int) < n
  · clear h he hI hcm
    go_enter Tryd.func4, Tryd.ntmps4
    go_wp2_with fail
    go_ret
    exact ⟨rfl, Below.refl _ _⟩
  by_cases c3 : (131072 : Int) < n
  · clear h he hI hcm
    go_enter Tryd.func4, Tryd.ntmps4
    go_wp2_with fail
    go_ret
    exact ⟨rfl, Below.refl _ _⟩
  have hbs : IsB [t / 256, t % 256] := by
    intro x hx
    simp at hx
    omega
  have o1 := Own.of_lit (e := 5) (sz := 1) w #[.int .u8 (t / 256), .int .u8 (t % 256)] 2 (by simp [maxLen]) rfl
  have k1 := (Keep.refl w Nul).alloc (.cells #[.int .u8 (t / 256), .int .u8 (t % 256)] 5)
  have hI' := hide hI
  have hbs' := hide hbs
  clear hI hbs
  go_enter Tryd.func4, Tryd.ntmps4
  go_wp2_with fail
  refine (seq_format t h0 (by omega) _).mono ?_
  rintro e w1 ⟨out, rfl, k2, r2⟩
  have r2' := r2
  obtain ⟨_, A', c', rfl, _⟩ := r2'
  have kk2 := k1.trans0 k2
  have o2 := o1.keep0 k2
  have hS := src_of_rd (P := Tryd.prog) w1 Tryd.underlying23 (h.keep0 kk2) (B8_one _)
  have sz2 := kk2.size
  go_wp2_with (at_builtin; refine wpList_app etB rfl _ _ rfl o2 rfl hS rfl (by simp only [maxLen]; omega) (by omega) (by omega) ?_; intro v4 w3 o4 k4 b4 z4 u4)
  have kk3 : Keep w w3 Nul := kk2.trans k4 (fun i hi e => by simp [Value.ownBlock] at e; omega)
  have r4 := o4.rd
  rw [show [Value.int .u8 (t / 256), Value.int .u8 (t % 256)] ++ B8 xs = B8 (t / 256 :: t % 256 :: xs) from rfl] at r4
  have hI2 : IsB (t / 256 :: t % 256 :: xs) := by
    intro x hx
    rcases List.mem_append.1 (show x ∈ [t / 256, t % 256] ++ xs from hx) with h | h
    · exact hbs'.out x h
    · exact hI'.out x h
  refine (seq_parse _ r4 hI2 (by omega)).mono ?_
  have ev : t / 256 * 256 + t % 256 = t := by omega
  rw [ev]
  rintro e w4 ⟨rfl, k5⟩
  have kk5 := kk3.trans0 k5
  have u5 := u4.keep0 k5
  clear hS r4 hI2 ev
  go_wp2_with fail
  have r6 := u5.rdB.take 1 (by omega)
  refine (seq_parse_short _ r6 (B8_one [t / 256]) (by omega) (kk5.cell id he)).mono ?_
  rintro e w6 ⟨rfl, k7⟩
  have K1 : Keep w1 w6 (fun k => k = w.heap.size) := ((k4.mono (fun i hi e => by simp [Value.ownBlock] at e; exact e.symm)).trans0 k5).trans0 k7
  have r7 : Rd w6 (w.heap.size + 1 ≤ ·) 1 (.slice A' 2 c') 2 (B8 [t / 256, t % 256]) := by
    simp only [World.size_alloc] at r2
    exact r2.keep K1 (fun i hi hp e => by omega)
  have u7 := u5.keep0 k7
  have hr7 := run_str (P := Tryd.prog) (tb := 23) (ts := 9) Tryd.underlying23 Tryd.underlying5 Tryd.underlying9 r7 hbs'.out
  have hr8 := run_str (P := Tryd.prog) (tb := 23) (ts := 9) Tryd.underlying23 Tryd.underlying5 Tryd.underlying9 (xs := [t / 256, t % 256]) u7.rd hbs'.out
  clear he
  go_wp2_with fail
  go_ret
  exact ⟨rfl, (kk5.trans0 k7).below0⟩
end Go.Proofs.YtdlnmkpojiofoaaDoor
