/-
  The functions of a number of a packet: what each does. Conditions: those that stand in each theorem.
-/
import Derived.Test.YtdlnmkpojiofoaaDoorTry
import Derived.Test.YtdlnmkpojiofoaaDoorBits
import Derived.Test.YtdlnmkpojiofoaaDoorBe
import Derived.Deep.RegionWith
namespace Go.Proofs.YtdlnmkpojiofoaaDoor
open Go.RowKit
set_option linter.unusedVariables false
set_option maxRecDepth 20000

theorem seq_un_short {p : Nat → Prop} {v : Value} {n : Nat} {xs : List Value} (w : World) (g : Nat) (h : Rd w p 1 v n xs) (hn : n < 2) {te : TypeId} {ve : Value} (he : w.cell? ⟨0, 0, none⟩ = some (.iface te ve)) :
    Calls Tryd.prog 21 #[.pointer (some ⟨g, 0, none⟩), v] w fun e w' => e = .returned (.iface te ve) ∧ w = w' := by
  obtain ⟨hl, A, c, rfl, h2, h3, h4, h5⟩ := h
  clear h5
  go_enter Tryd.func21, Tryd.ntmps21
  go_wp2
  go_ret
  exact ⟨rfl, rfl⟩

theorem seq_un {p : Nat → Prop} {v : Value} {n : Nat} {x0 x1 : Int} {xs : List Int} (w : World) (g : Nat) (h : Rd w p 1 v n (B8 (x0 :: x1 :: xs))) (hI : IsB (x0 :: x1 :: xs)) (hg : Blk w g 63 #[.int .u16 0]) :
    Calls Tryd.prog 21 #[.pointer (some ⟨g, 0, none⟩), v] w fun e w' => e = .returned .nilIface ∧ Blk w' g 63 #[.int .u16 (x0 * 256 + x1)] ∧ Keep w w' (· = g) := by
  have hn : n = xs.length + 2 := by rw [← h.len, B8_len]; rfl
  have a0 := hI x0 (by simp)
  have a1 := hI x1 (by simp)
  obtain ⟨b, o, c, rfl, h2, h3, h4, h5, h6⟩ := h.lit (by omega)
  have k0 := h6 0 _ rfl
  have k1 := h6 1 _ rfl
  simp only [Nat.add_zero] at k0
  have g0 := hg.cell 0 (v := .int .u16 0) rfl
  have g1 := hg.free 0
  have n2 : (2 : Int) ≤ (n : Int) := by omega
  have nc : (2 : Int) ≤ (c : Int) := by omega
  have hC := hide (be16 b o 2 c x0 x1 w (by omega) a0 a1 k0 k1)
  clear h h6 hI k0 k1 hn
  go_enter Tryd.func21, Tryd.ntmps21
  go_wp2_with fail
  refine (hC.out).mono ?_
  rintro e w' ⟨rfl, rfl⟩
  go_wp2_with fail
  go_ret
  exact ⟨rfl, (hg.set_ 0 _).drew, (Keep.set1 w g 0 _).drew⟩

/-- The closure of ParseSequence, of at least three bytes. -/
theorem seq_cl {p : Nat → Prop} {v : Value} {n : Nat} {x0 x1 : Int} {xs : List Int} (w : World) (g1 g2 : Nat) (h : Rd w p 1 v n (B8 (x0 :: x1 :: xs))) (hI : IsB (x0 :: x1 :: xs)) (hn : n ≤ 140737488355328)
    (h1 : Blk w g1 23 #[v]) (h2 : Blk w g2 30 #[.int .u16 0]) :
    Calls Tryd.prog 20 #[.pointer (some ⟨g1, 0, none⟩), .pointer (some ⟨g2, 0, none⟩)] w fun e w' => e = .returned (.bool true) ∧ Blk w' g2 30 #[.int .u16 (x0 * 256 + x1)] ∧ Keep w w' (· = g2) := by
  have c1 := h1.cell 0 (v := v) rfl
  have hv := h
  obtain ⟨_, A, c, rfl, _⟩ := hv
  have bx := Blk.new w 63 #[.int .u16 0]
  have kx := (Keep.refl w Nul).alloc (.cells #[.int .u16 0] 63)
  have hlt := h2.lt
  have hlt1 := h1.lt
  have hC := hide (clone_b _ (h.alloc (.cells #[.int .u16 0] 63)) (B8_one _) hn)
  go_enter Tryd.func20, Tryd.ntmps20
  go_wp2_with fail
  refine (hC.out).mono ?_
  rintro e w1 ⟨v1, rfl, ho, k1, -⟩
  have kk := kx.trans k1 (fun _ _ e => e)
  go_wp2_with fail
  refine (seq_un _ _ ho.rd hI (bx.keep k1 id)).mono ?_
  rintro e w2 ⟨rfl, b2, k2⟩
  have kk2 : Keep w w2 Nul := kk.trans k2 (fun i hi e => by omega)
  have d2 := h2.keep kk2 id
  have f0 := d2.free 0
  have e0 := d2.cell 0 (v := .int .u16 0) rfl
  have e1 := b2.cell 0 (v := .int .u16 (x0 * 256 + x1)) rfl
  go_wp2_with fail
  go_ret
  exact ⟨rfl, d2.set_ 0 _, (kk2.mono (S' := (· = g2)) fun _ _ e => e.elim).set (p := ⟨g2, 0, none⟩) (fun _ => rfl) _⟩

theorem seq_cl_short {p : Nat → Prop} {v : Value} {n : Nat} {xs : List Value} (w : World) (g1 g2 : Nat) (h : Rd w p 1 v n xs) (hx : ∀ u ∈ xs, u.oneCell' = true) (hn : n < 2) {te : TypeId} {ve : Value} (he : w.cell? ⟨0, 0, none⟩ = some (.iface te ve))
    (h1 : Blk w g1 23 #[v]) (h2 : Blk w g2 30 #[.int .u16 0]) :
    Calls Tryd.prog 20 #[.pointer (some ⟨g1, 0, none⟩), .pointer (some ⟨g2, 0, none⟩)] w fun e w' => e = .returned (.bool false) ∧ Keep w w' (· = g2) ∧ Blk w' g2 30 #[.int .u16 0] := by
  have c1 := h1.cell 0 (v := v) rfl
  have hv := h
  obtain ⟨_, A, c, rfl, _⟩ := hv
  have bx := Blk.new w 63 #[.int .u16 0]
  have kx := (Keep.refl w Nul).alloc (.cells #[.int .u16 0] 63)
  have hlt := h2.lt
  have hlt1 := h1.lt
  have hC := hide (clone_b _ (h.alloc (.cells #[.int .u16 0] 63)) hx (by omega))
  go_enter Tryd.func20, Tryd.ntmps20
  go_wp2_with fail
  refine (hC.out).mono ?_
  rintro e w1 ⟨v1, rfl, ho, k1, -⟩
  have kk := kx.trans k1 (fun _ _ e => e)
  have he1 := kk.cell id he
  go_wp2_with fail
  refine (seq_un_short _ _ ho.rd hn he1).mono ?_
  rintro e w2 ⟨rfl, rfl⟩
  have d2 := h2.keep kk id
  have f0 := d2.free 0
  have e0 := d2.cell 0 (v := .int .u16 0) rfl
  have b2 := bx.keep k1 id
  have e1 := b2.cell 0 (v := .int .u16 0) rfl
  clear he1
  go_wp2_with fail
  go_ret
  exact ⟨rfl, (kk.mono (S' := (· = g2)) fun _ _ e => e.elim).set (p := ⟨g2, 0, none⟩) (fun _ => rfl) _, d2.set_ 0 _⟩

/-- impl.ParseSequence. -/
theorem seq_parse {p : Nat → Prop} {v : Value} {n : Nat} {x0 x1 : Int} {xs : List Int} (w : World) (h : Rd w p 1 v n (B8 (x0 :: x1 :: xs))) (hI : IsB (x0 :: x1 :: xs)) (hn : n ≤ 140737488355328) :
    Calls Tryd.prog 10 #[v] w fun e w' => e = .returned (.tuple #[.int .u16 (x0 * 256 + x1), .bool true]) ∧ Keep w w' Nul := by
  have hv := h
  obtain ⟨_, A, c, rfl, _⟩ := hv
  have b1 := (Blk.new w 23 #[.slice A n c]).alloc (.cells #[.int .u16 0] 30)
  have b2 := Blk.new (w.alloc (.cells #[.slice A n c] 23)) 30 #[.int .u16 0]
  simp only [World.size_alloc] at b2
  have kW : Keep w ((w.alloc (.cells #[.slice A n c] 23)).alloc (.cells #[.int .u16 0] 30)) Nul := ((Keep.refl w _).alloc _).alloc _
  have hT := hide (try_keep 20 _ true (fun w' => Blk w' (w.heap.size + 1) 30 #[.int .u16 (x0 * 256 + x1)] ∧ Keep w w' Nul) _ (fun _ => by kernel_rfl)
    (fun w1 w2 ⟨hb, hk⟩ k => ⟨hb.keep k (by simp), hk.trans k (fun i hi e => by simp at e; omega)⟩)
    ((seq_cl _ w.heap.size (w.heap.size + 1) (((h.alloc _).alloc _).alloc _) hI hn (b1.alloc _) (b2.alloc _)).mono (by
      rintro e w' ⟨rfl, hb, hk⟩
      exact ⟨rfl, (Blk.new _ _ _).keep hk (by simp), hb, (kW.alloc _).trans hk (fun i hi e => by omega)⟩)))
  go_enter Tryd.func10, Tryd.ntmps10
  go_wp2_with (refine (hT.out).mono ?_; rintro e w' ⟨rfl, hb, hk⟩; have c0 := hb.cell 0 (v := .int .u16 (x0 * 256 + x1)) rfl; have f0 := hb.free 0)
  have c1 := (hb.set_ 0 (.int .u16 (x0 * 256 + x1))).cell 0 (v := .int .u16 (x0 * 256 + x1)) rfl
  refine bodyPost_ret (v := .tuple #[.int .u16 (x0 * 256 + x1), .bool true]) (by simp [results, Tryd.results10, go_sem, c1]) rfl ⟨rfl, ?_⟩
  exact hk.set (p := ⟨w.heap.size + 1, 0, none⟩) (fun h => by simp at h; omega) _

theorem seq_parse_short {p : Nat → Prop} {v : Value} {n : Nat} {xs : List Value} (w : World) (h : Rd w p 1 v n xs) (hx : ∀ u ∈ xs, u.oneCell' = true) (hn : n < 2) {te : TypeId} {ve : Value} (he : w.cell? ⟨0, 0, none⟩ = some (.iface te ve)) :
    Calls Tryd.prog 10 #[v] w fun e w' => e = .returned (.tuple #[.int .u16 0, .bool false]) ∧ Keep w w' Nul := by
  have hv := h
  obtain ⟨_, A, c, rfl, _⟩ := hv
  have b1 := (Blk.new w 23 #[.slice A n c]).alloc (.cells #[.int .u16 0] 30)
  have b2 := Blk.new (w.alloc (.cells #[.slice A n c] 23)) 30 #[.int .u16 0]
  simp only [World.size_alloc] at b2
  have kW : Keep w ((w.alloc (.cells #[.slice A n c] 23)).alloc (.cells #[.int .u16 0] 30)) Nul := ((Keep.refl w _).alloc _).alloc _
  have hT := hide (try_keep 20 _ false (fun w' => Blk w' (w.heap.size + 1) 30 #[.int .u16 0] ∧ Keep w w' Nul) _ (fun _ => by kernel_rfl)
    (fun w1 w2 ⟨hb, hk⟩ k => ⟨hb.keep k (by simp), hk.trans k (fun i hi e => by simp at e; omega)⟩)
    ((seq_cl_short _ w.heap.size (w.heap.size + 1) (((h.alloc _).alloc _).alloc _) hx hn ((kW.alloc _).cell id he) (b1.alloc _) (b2.alloc _)).mono (by
      rintro e w' ⟨rfl, hk, hb⟩
      exact ⟨rfl, (Blk.new _ _ _).keep hk (by simp), hb, (kW.alloc _).trans hk (fun i hi e => by omega)⟩)))
  clear he
  go_enter Tryd.func10, Tryd.ntmps10
  go_wp2_with (refine (hT.out).mono ?_; rintro e w' ⟨rfl, hb, hk⟩; have c0 := hb.cell 0 (v := .int .u16 0) rfl; have f0 := hb.free 0)
  have c1 := (hb.set_ 0 (.int .u16 0)).cell 0 (v := .int .u16 0) rfl
  refine bodyPost_ret (v := .tuple #[.int .u16 0, .bool false]) (by simp [results, Tryd.results10, go_sem, c1]) rfl ⟨rfl, ?_⟩
  exact hk.set (p := ⟨w.heap.size + 1, 0, none⟩) (fun h => by simp at h; omega) _

/-- TransportCCExtension.Marshal. -/
theorem seq_marshal (t : Int) (h0 : 0 ≤ t) (h1 : t < 65536) (w : World) :
    Calls Tryd.prog 55 #[.agg #[.int .u16 t]] w fun e w' => ∃ out, e = .returned (.tuple #[out, .nilIface]) ∧ Keep w w' Nul ∧ Rd w' (w.heap.size ≤ ·) 1 out 2 (B8 [t / 256, t % 256]) := by
  have hmk : ∀ w : World, (Instr.makeSlice 23 (.int .i64 2) (.int .i64 2)).run Tryd.prog w = .ok (.slice (some ⟨w.heap.size, 0, none⟩) 2 2) (w.alloc (.cells #[.int .u8 0, .int .u8 0] 5)) := fun _ => by kernel_rfl
  go_enter Tryd.func55, Tryd.ntmps55
  go_wp2_with fail
  go_region_with ((go_at_call 57; refine (bePut16 _ _ _ _ _ (.int .u8 0) (.int .u8 0) _ (by omega) ⟨h0, h1⟩ (by simp [go_sem]) (by simp [go_sem]) (by simp [go_sem]) (by simp [go_sem])).mono ?_; rintro e w' ⟨rfl, rfl⟩))
  all_goals go_wp2
  all_goals go_ret2
  all_goals have b0 := blk_put16 (Blk.new (w.alloc (.cells #[.int .u16 t] 63)) 5 #[.int .u8 0, .int .u8 0]).drew 0 t
  all_goals have o := (Own.of_blk (n := 2) (cap := 2) (sz := 1) b0 (Nat.le_refl _) (by omega) (by simp [maxLen]) rfl).rdB
  all_goals simp only [World.size_alloc] at o
  all_goals exact ⟨_, rfl, (((((Keep.refl w Nul).alloc _).alloc _).drew).trans (keep_put16 _ _ _ _) (fun i hi e => by omega)), o.mono fun k _ h => by omega⟩

/-- impl.FormatSequence. -/
theorem seq_format (t : Int) (h0 : 0 ≤ t) (h1 : t < 65536) (w : World) :
    Calls Tryd.prog 9 #[.int .u16 t] w fun e w' => ∃ out, e = .returned (.tuple #[out, .bool true]) ∧ Keep w w' Nul ∧ Rd w' (w.heap.size ≤ ·) 1 out 2 (B8 [t / 256, t % 256]) := by
  have hT := hide (bytes_ok (te := 63) (ve := .agg #[.int .u16 t]) (rv := .agg #[.int .u16 t]) (k := 55) (n := 2) (xs := B8 [t / 256, t % 256]) (p := (w.heap.size + 3 ≤ ·)) w (fun k h => .inr h) (fun _ => by kernel_rfl) (fun _ => by kernel_rfl)
    (fun w1 hs hk => (seq_marshal t h0 h1 w1).mono fun e w' ⟨out, he, hk', hr⟩ => ⟨out, he, hk', hr.mono fun k _ h => by omega⟩))
  go_enter Tryd.func9, Tryd.ntmps9
  go_wp2_with (refine (hT.out).mono ?_; rintro e w' ⟨out, rfl, hk, hr⟩)
  go_ret2
  exact ⟨out, rfl, hk, hr.mono fun k _ h => by omega⟩
end Go.Proofs.YtdlnmkpojiofoaaDoor
