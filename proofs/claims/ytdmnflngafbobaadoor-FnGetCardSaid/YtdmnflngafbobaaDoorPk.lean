/-
  Packets: paddingSize, MarshalSize, marshalPayloadAndPaddingTo. Conditions: those that stand in each theorem.
-/
import Derived.Test.YtdmnflngafbobaaDoorFmh
import Derived.Lib.SliceRun
namespace Go.Proofs.YtdmnflngafbobaaDoor
open Go.RowKit
set_option linter.unusedVariables false
set_option linter.unusedSimpArgs false
set_option maxRecDepth 100000

theorem ret_int {k : IntKind} {a b : Int} (h : a = b) : Ending.returned (.int k a) = .returned (.int k b) := by rw [h]
/-- The cells of a packet of the package. -/
def pcells (h : Hd) (sv xv : Value) (off : Int) (pv : Value) (ps : Int) (raw : Value) : Array Value :=
  #[.int .u8 h.v, .bool h.pad, .bool h.ext, .bool h.mark, .int .u8 h.ty, .int .u16 h.seq, .int .u32 h.time, .int .u32 h.ssrc, sv, .int .u16 h.prof, xv, .int .u8 h.padn, .int .i64 off, pv, .int .u8 ps, raw]

theorem pads_walk {g : Nat} {hd : Hd} {sv xv pv raw : Value} {off : Int} (w : World) (h : Blk w g 110 (pcells hd sv xv off pv 0 raw)) (h0 : 0 ≤ hd.padn ∧ hd.padn < 256) :
    Calls Tryd.prog 99 #[.pointer (some ⟨g, 0, none⟩)] w fun e w' => e = .returned (.int .u8 hd.padn) ∧ w = w' := by
  have x11 := h.cell 11 (v := .int .u8 hd.padn) rfl
  have x14 := h.cell 14 (v := .int .u8 0) rfl
  clear h
  by_cases hp : 0 < hd.padn
  · go_enter Tryd.func99, Tryd.ntmps99
    go_wp2_with fail
    go_ret
    exact ⟨rfl, rfl⟩
  · have hp0 : hd.padn = 0 := by omega
    rw [hp0] at x11 ⊢
    clear hp hp0 h0
    go_enter Tryd.func99, Tryd.ntmps99
    go_wp2_with fail
    go_ret
    exact ⟨rfl, rfl⟩

/-- How many bytes a packet has. -/
def psize (h : Hd) (n : Nat) : Nat := hsize h + n + h.padn.toNat

set_option maxHeartbeats 1600000 in
theorem pmsize_walk {p : Nat → Prop} {hd : Hd} {sv xv raw : Value} {off : Int} {A : Option Addr} {n c : Nat} (w : World) (hS : Rd w p 1 sv hd.srcs.length (U32 hd.srcs)) (hX : XR w p xv hd.exts) (hg : Good hd) (hnp : n ≤ 2147483647) (hn : hd.exts.length ≤ 2147483647) (hdn : ∀ x ∈ hd.exts, x.data.length ≤ 2147483647) :
    Calls Tryd.prog 62 #[.agg (pcells hd sv xv off (.slice A n c) 0 raw)] w fun e w' => e = .returned (.int .i64 (psize hd n)) ∧ Keep w w' Nul := by
  replace hS := hS.mono (q := (· < w.heap.size)) (fun k hk _ => hk)
  replace hX := hX.mono (q := (· < w.heap.size)) (fun k hk _ => hk)
  have hsz := hsize_le hg
  have hpd := hg.ok.padn
  have hM0 := fun (wa : World) (k : Keep w wa Nul) => msize_walk (off := off) wa (hS.keep0 k) (hX.keep0 k) (by have := hg.srcs; omega) hn hdn
  have HM := hide hM0
  obtain ⟨A1, c1, rfl⟩ := hS.shape
  obtain ⟨A2, c2, rfl⟩ := hX.shape
  clear hS hX hM0 hdn hg
  unfold pcells
  go_enter Tryd.func62, Tryd.ntmps62
  go_upto_region 1 with fail
  generalize hwa : World.alloc w _ = wa
  have BX := hide (show Blk wa w.heap.size 110 (pcells hd (.slice A1 hd.srcs.length c1) (.slice A2 hd.exts.length c2) off (.slice A n c) 0 raw) by subst hwa; exact Blk.new w _ _)
  have KA := hide (show Keep w wa Nul by subst hwa; exact (Keep.refl w Nul).alloc _)
  generalize hv0 : Value.agg _ = v0
  clear hwa hv0
  have SOf : ∀ w', Blk w' w.heap.size 110 (pcells hd (.slice A1 hd.srcs.length c1) (.slice A2 hd.exts.length c2) off (.slice A n c) 0 raw) → (w'.cell? ⟨w.heap.size, 0, none⟩ = some (.int .u8 hd.v) ∧ w'.cell? ⟨w.heap.size, 1, none⟩ = some (.bool hd.pad) ∧ w'.cell? ⟨w.heap.size, 2, none⟩ = some (.bool hd.ext) ∧ w'.cell? ⟨w.heap.size, 3, none⟩ = some (.bool hd.mark) ∧ w'.cell? ⟨w.heap.size, 4, none⟩ = some (.int .u8 hd.ty) ∧ w'.cell? ⟨w.heap.size, 5, none⟩ = some (.int .u16 hd.seq) ∧ w'.cell? ⟨w.heap.size, 6, none⟩ = some (.int .u32 hd.time) ∧ w'.cell? ⟨w.heap.size, 7, none⟩ = some (.int .u32 hd.ssrc) ∧ w'.cell? ⟨w.heap.size, 8, none⟩ = some (.slice A1 hd.srcs.length c1) ∧ w'.cell? ⟨w.heap.size, 9, none⟩ = some (.int .u16 hd.prof) ∧ w'.cell? ⟨w.heap.size, 10, none⟩ = some (.slice A2 hd.exts.length c2) ∧ w'.cell? ⟨w.heap.size, 11, none⟩ = some (.int .u8 hd.padn) ∧ w'.cell? ⟨w.heap.size, 12, none⟩ = some (.int .i64 off) ∧ w'.cell? ⟨w.heap.size, 13, none⟩ = some (.slice A n c)) := fun w' h => ⟨h.cell 0 rfl, h.cell 1 rfl, h.cell 2 rfl, h.cell 3 rfl, h.cell 4 rfl, h.cell 5 rfl, h.cell 6 rfl, h.cell 7 rfl, h.cell 8 rfl, h.cell 9 rfl, h.cell 10 rfl, h.cell 11 rfl, h.cell 12 rfl, h.cell 13 rfl⟩
  have SO := hide SOf
  have bx0 := hide BX.out.drew
  clear SOf
  have hMd := hide (HM.out wa.drew KA.out.drew)
  have hw1 : IntKind.i64.wrap ((hsize hd : Int) + (n : Int)) = (hsize hd : Int) + (n : Int) := by rw [IntKind.wrap_i64]; omega
  have hw2 : IntKind.i64.wrap ((hsize hd : Int) + (n : Int) + hd.padn) = (hsize hd : Int) + (n : Int) + hd.padn := by rw [IntKind.wrap_i64]; omega
  have hw3 : IntKind.i64.wrap hd.padn = hd.padn := by rw [IntKind.wrap_i64]; omega
  have HPD := hide hpd
  clear hpd
  go_region_held3 (fun w' => w'.cell? ⟨w.heap.size, 0, none⟩ = some (.int .u8 hd.v) ∧ w'.cell? ⟨w.heap.size, 1, none⟩ = some (.bool hd.pad) ∧ w'.cell? ⟨w.heap.size, 2, none⟩ = some (.bool hd.ext) ∧ w'.cell? ⟨w.heap.size, 3, none⟩ = some (.bool hd.mark) ∧ w'.cell? ⟨w.heap.size, 4, none⟩ = some (.int .u8 hd.ty) ∧ w'.cell? ⟨w.heap.size, 5, none⟩ = some (.int .u16 hd.seq) ∧ w'.cell? ⟨w.heap.size, 6, none⟩ = some (.int .u32 hd.time) ∧ w'.cell? ⟨w.heap.size, 7, none⟩ = some (.int .u32 hd.ssrc) ∧ w'.cell? ⟨w.heap.size, 8, none⟩ = some (.slice A1 hd.srcs.length c1) ∧ w'.cell? ⟨w.heap.size, 9, none⟩ = some (.int .u16 hd.prof) ∧ w'.cell? ⟨w.heap.size, 10, none⟩ = some (.slice A2 hd.exts.length c2) ∧ w'.cell? ⟨w.heap.size, 11, none⟩ = some (.int .u8 hd.padn) ∧ w'.cell? ⟨w.heap.size, 12, none⟩ = some (.int .i64 off) ∧ w'.cell? ⟨w.heap.size, 13, none⟩ = some (.slice A n c))
    (first | with_reducible exact SO.out _ bx0.out | with_reducible exact SO.out _ bx1.out)
    (first
      | (go_at_call 57; refine Calls.mono (show Calls _ _ #[.agg (rcells hd (.slice A1 hd.srcs.length c1) (.slice A2 hd.exts.length c2) off)] _ _ from hMd.out) ?_; rintro e w1 ⟨rfl, k1⟩; have bx1 := hide (bx0.out.keep k1 id); have K1 := hide (KA.out.drew.trans0 k1); clear k1)
      | (go_at_call 99; refine (pads_walk _ bx1.out HPD.out).mono ?_; rintro e w2 ⟨rfl, rfl⟩))
  clear hw1 hw2 hw3
  go_wp2_with fail
  go_ret
  exact ⟨ret_int (by unfold psize; have := HPD.out; omega), K1.out⟩
end Go.Proofs.YtdmnflngafbobaaDoor
