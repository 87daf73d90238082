/-
  impl.FormatCaptureTime, without an offset and with one. Conditions: those that stand in each theorem.
-/
import Derived.Test.YtdlnmkpojiofoaaDoorCap
namespace Go.Proofs.YtdlnmkpojiofoaaDoor
open Go.RowKit
set_option linter.unusedVariables false
set_option maxRecDepth 20000

/-- impl.FormatCaptureTime without an offset. -/
theorem cap_format0 {A : Option Addr} {c : Nat} (t : Int) (ht : 0 ≤ t ∧ t < 18446744073709551616) (w : World) :
    Calls Tryd.prog 11 #[.int .u64 t, .slice A 0 c] w fun e w' => ∃ out, e = .returned (.tuple #[out, .bool true]) ∧ Keep w w' Nul ∧ Rd w' (w.heap.size ≤ ·) 1 out 8 (B8 (by64 t)) := by
  have hT := fun w => bytes_ok (te := 66) (ve := .agg #[.int .u64 t, .pointer none]) (rv := .agg #[.int .u64 t, .pointer none]) (k := 59) (n := 8) (xs := B8 (by64 t)) (p := (w.heap.size + 3 ≤ ·)) w (fun k h => .inr h) (fun _ => by kernel_rfl) (fun _ => by kernel_rfl)
    (fun w1 hs hk => (cap_marshal8 t ht w1).mono fun e w' ⟨out, he, hk', hr⟩ => ⟨out, he, hk', hr.mono fun k _ h => by omega⟩)
  have HT := hide hT
  clear hT
  go_enter Tryd.func11, Tryd.ntmps11
  go_wp2_with fail
  refine (HT.out _).mono ?_
  rintro e w1 ⟨out, rfl, k1, r1⟩
  go_wp2_with fail
  go_ret2
  exact ⟨out, rfl, ((Keep.refl w Nul).alloc _).trans0 k1, r1.mono fun k _ h => by simp at h; omega⟩

/-- impl.FormatCaptureTime with an offset. -/
theorem cap_format1 {p : Nat → Prop} {v : Value} (t d : Int) (ht : 0 ≤ t ∧ t < 18446744073709551616) (hd : -9223372036854775808 ≤ d ∧ d ≤ 9223372036854775807) (w : World) (h : Rd w p 1 v 1 [.int .i64 d]) :
    Calls Tryd.prog 11 #[.int .u64 t, v] w fun e w' => ∃ out, e = .returned (.tuple #[out, .bool true]) ∧ Keep w w' Nul ∧ Rd w' (w.heap.size ≤ ·) 1 out 16 (B8 (by64 t ++ by64 (d % 18446744073709551616))) := by
  obtain ⟨b, o, c, rfl, h2, h3, h4, h5, h6⟩ := h.lit (by omega)
  have c0 := h6 0 _ rfl
  simp only [Nat.add_zero] at c0
  have hT := fun w g (hg : Blk w g 2 #[.int .i64 d]) => bytes_ok (te := 66) (ve := .agg #[.int .u64 t, .pointer (some ⟨g, 0, none⟩)]) (rv := .agg #[.int .u64 t, .pointer (some ⟨g, 0, none⟩)]) (k := 59) (n := 16) (xs := B8 (by64 t ++ by64 (d % 18446744073709551616))) (p := (w.heap.size + 3 ≤ ·)) w (fun k h => .inr h) (fun _ => by kernel_rfl) (fun _ => by kernel_rfl)
    (fun w1 hs hk => (cap_marshal16 t d ht hd g w1 (hg.keep hk id)).mono fun e w' ⟨out, he, hk', hr⟩ => ⟨out, he, hk', hr.mono fun k _ h => by omega⟩)
  have HT := hide hT
  clear hT h h6 h4
  go_enter Tryd.func11, Tryd.ntmps11
  go_wp2_with fail
  refine (HT.out _ (w.heap.size + 1) ?_).mono ?_
  · have := Blk.new (w.alloc (.cells #[.int .u64 t, .pointer (some ⟨w.heap.size + 1, 0, none⟩)] 66)) 2 #[.int .i64 d]
    rwa [World.size_alloc] at this
  rintro e w1 ⟨out, rfl, k1, r1⟩
  go_wp2_with fail
  go_ret2
  exact ⟨out, rfl, (((Keep.refl w Nul).alloc _).alloc _).trans0 k1, r1.mono fun k _ h => by simp at h; omega⟩
end Go.Proofs.YtdlnmkpojiofoaaDoor
