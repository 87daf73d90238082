/-
  The law FnSendTime returns true. Conditions: none beyond its row's.
-/
import Derived.Test.YtdlnmkpojiofoaaDoorSend
namespace Go.Proofs.YtdlnmkpojiofoaaDoor
open Go.RowKit
set_option linter.unusedVariables false
set_option maxRecDepth 20000

theorem send_law {p : Nat → Prop} {v : Value} {n : Nat} {xs : List Int} (w : World) (t : Int) (h0 : 0 ≤ t) (ht : t < 18446744073709551616) (h : Rd w p 1 v n (B8 xs)) (hI : IsB xs) {te : TypeId} {ve : Value} (he : w.cell? ⟨0, 0, none⟩ = some (.iface te ve)) :
    Calls Tryd.prog 3 #[.int .u64 t, v] w fun e w' => e = .returned (.bool true) ∧ Below w.heap.size w w' := by
  have hv := h
  obtain ⟨_, A, c, rfl, hnc, hcm, _⟩ := hv
  have hle := h.le
  by_cases c1 : (2147483647 : Int) < n
  · clear h he hI hcm
    go_enter Tryd.func3, Tryd.ntmps3
    go_wp2_with fail
    go_ret
    exact ⟨rfl, Below.refl _ _⟩
  by_cases c2 : 16777216 ≤ t
  · clear h he hI hcm
    go_enter Tryd.func3, Tryd.ntmps3
    go_wp2_with fail
    go_ret
    exact ⟨rfl, Below.refl _ _⟩
  by_cases c3 : (131072 : Int) < n
  · clear h he hI hcm
    go_enter Tryd.func3, Tryd.ntmps3
    go_wp2_with fail
    go_ret
    exact ⟨rfl, Below.refl _ _⟩
  have hbs : IsB [t / 65536, t / 256 % 256, t % 256] := by
    intro x hx
    simp at hx
    omega
  have e1 : t / 65536 % 256 = t / 65536 := by omega
  have ub := Tryd.underlying23
  have ue := Tryd.underlying5
  have us := Tryd.underlying9
  have o1 := Own.of_lit (e := 5) (sz := 1) w #[.int .u8 (t / 65536), .int .u8 (t / 256 % 256), .int .u8 (t % 256)] 3 (by simp [maxLen]) rfl
  have s1 := run_str (ts := 9) ub ue us o1.rd hbs
  have k1 := (Keep.refl w Nul).alloc (.cells #[.int .u8 (t / 65536), .int .u8 (t / 256 % 256), .int .u8 (t % 256)] 5)
  clear ub ue us
  have hI' := hide hI
  have hbs' := hide hbs
  clear hI hbs
  have H1 := hide e1
  go_enter Tryd.func3, Tryd.ntmps3
  go_wp2_with fail
  refine (send_format t h0 (by omega) _).mono ?_
  rintro e w1 ⟨out, rfl, k2, r2⟩
  have r2' := r2
  obtain ⟨_, A', c', rfl, _⟩ := r2'
  have kk2 := k1.trans0 k2
  obtain ⟨cap, w2, hcap, hr2, o2, k3, z3⟩ := run_bytes (P := Tryd.prog) (tb := 23) (ts := 9) Tryd.underlying23 Tryd.underlying5 Tryd.underlying9 [t / 65536, t / 256 % 256, t % 256] hbs'.out (by simp [maxLen]) w1
  have kk3 := kk2.trans0 k3
  simp only [List.length_cons, List.length_nil, Nat.zero_add, Nat.reduceAdd] at hr2 o2 hcap
  have hS := src_of_rd (P := Tryd.prog) w2 Tryd.underlying23 (h.keep0 kk3) (B8_one _)
  have sz3 := kk3.size
  go_wp2_with (at_builtin; refine wpList_app etB rfl _ _ rfl o2 rfl hS rfl (by simp only [maxLen]; omega) (by omega) (by omega) ?_; intro v4 w3 o4 k4 b4 z4 u4)
  have kk4 : Keep w w3 Nul := kk3.trans k4 (fun i hi e => by simp [Value.ownBlock] at e; have := kk2.size; omega)
  have r4 := o4.rd
  rw [show B8 [t / 65536, t / 256 % 256, t % 256] ++ B8 xs = B8 (t / 65536 :: t / 256 % 256 :: t % 256 :: xs) from rfl] at r4
  have hI2 : IsB (t / 65536 :: t / 256 % 256 :: t % 256 :: xs) := by
    intro x hx
    rcases List.mem_append.1 (show x ∈ [t / 65536, t / 256 % 256, t % 256] ++ xs from hx) with h | h
    · exact hbs'.out x h
    · exact hI'.out x h
  refine (send_parse _ r4 hI2 (by omega)).mono ?_
  have ev : t / 65536 * 65536 + t / 256 % 256 * 256 + t % 256 = t := by omega
  rw [ev]
  rintro e w4 ⟨rfl, k5⟩
  have kk5 := kk4.trans0 k5
  obtain ⟨cap', w5, hcap', hr5, o5, k6, z6⟩ := run_bytes (P := Tryd.prog) (tb := 23) (ts := 9) Tryd.underlying23 Tryd.underlying5 Tryd.underlying9 [t / 65536, t / 256 % 256, t % 256] hbs'.out (by simp [maxLen]) w4
  have kk6 := kk5.trans0 k6
  simp only [List.length_cons, List.length_nil, Nat.zero_add, Nat.reduceAdd] at hr5 o5 hcap'
  clear hr2 hS r4 hI2 ev
  go_wp2_with fail
  have r6 : Rd w5 (w4.heap.size ≤ ·) 1 (.slice (some ⟨w4.heap.size, 0, none⟩) 2 cap') 2 (B8 [t / 65536, t / 256 % 256]) := o5.rdB.take 2 (by omega)
  refine (send_parse_short _ r6 (B8_one _) (by omega) (kk6.cell id he)).mono ?_
  rintro e w6 ⟨rfl, k7⟩
  have K1 : Keep w1 w6 Nul := (((k3.trans k4 (fun i hi e => by simp [Value.ownBlock] at e; omega)).trans0 k5).trans0 k6).trans0 k7
  have hr6 := run_str (P := Tryd.prog) (tb := 23) (ts := 9) Tryd.underlying23 Tryd.underlying5 Tryd.underlying9 (r2.keep0 K1) hbs'.out
  clear hr5 he
  go_wp2_with fail
  go_ret
  exact ⟨rfl, (kk6.trans0 k7).below0⟩
end Go.Proofs.YtdlnmkpojiofoaaDoor
