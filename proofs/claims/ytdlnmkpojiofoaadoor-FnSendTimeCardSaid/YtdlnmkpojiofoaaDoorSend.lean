/-
  The functions of a time of sending: what each does. Conditions: those that stand in each theorem.
-/
import Derived.Test.YtdlnmkpojiofoaaDoorTry
import Derived.Test.YtdlnmkpojiofoaaDoorBits
import Derived.RegionTactic
import Derived.BigRegion
namespace Go.Proofs.YtdlnmkpojiofoaaDoor
open Go.RowKit
set_option linter.unusedVariables false
set_option maxRecDepth 20000

theorem send_un_short {p : Nat → Prop} {v : Value} {n : Nat} {xs : List Value} (w : World) (g : Nat) (h : Rd w p 1 v n xs) (hn : n < 3) {te : TypeId} {ve : Value} (he : w.cell? ⟨0, 0, none⟩ = some (.iface te ve)) :
    Calls Tryd.prog 18 #[.pointer (some ⟨g, 0, none⟩), v] w fun e w' => e = .returned (.iface te ve) ∧ w = w' := by
  obtain ⟨hl, A, c, rfl, h2, h3, h4, h5⟩ := h
  clear h5
  go_enter Tryd.func18, Tryd.ntmps18
  go_wp2
  go_ret
  exact ⟨rfl, rfl⟩

theorem send_un {p : Nat → Prop} {v : Value} {n : Nat} {x0 x1 x2 : Int} {xs : List Int} (w : World) (g : Nat) (h : Rd w p 1 v n (B8 (x0 :: x1 :: x2 :: xs))) (hI : IsB (x0 :: x1 :: x2 :: xs)) (hg : Blk w g 55 #[.int .u64 0]) :
    Calls Tryd.prog 18 #[.pointer (some ⟨g, 0, none⟩), v] w fun e w' => e = .returned .nilIface ∧ Blk w' g 55 #[.int .u64 (x0 * 65536 + x1 * 256 + x2)] ∧ Keep w w' (· = g) := by
  have hn : n = xs.length + 3 := by rw [← h.len, B8_len]; rfl
  obtain ⟨a0, a1⟩ := hI x0 (by simp)
  obtain ⟨b0, b1⟩ := hI x1 (by simp)
  obtain ⟨c0, c1⟩ := hI x2 (by simp)
  obtain ⟨b, o, c, rfl, h2, h3, h4, h5, h6⟩ := h.lit (by omega)
  have k0 := h6 0 _ rfl
  have k1 := h6 1 _ rfl
  have k2 := h6 2 _ rfl
  simp only [Nat.add_zero] at k0
  have g0 := hg.cell 0 (v := .int .u64 0) rfl
  have g1 := hg.free 0
  have n3 : (2 : Int) < (n : Int) := by omega
  have e1 : bits .or .u64 (x0 * 65536) (x1 * 256) = x0 * 65536 + x1 * 256 := or64 16 _ _ (by omega) (by omega) (by omega) (by omega) (by decide) (by omega)
  have e2 : bits .or .u64 (x0 * 65536 + x1 * 256) x2 = x0 * 65536 + x1 * 256 + x2 := or64 8 _ _ (by omega) (by omega) (by omega) (by omega) (by decide) (by omega)
  clear h h6 hI
  go_enter Tryd.func18, Tryd.ntmps18
  go_wp2
  go_region
  all_goals go_wp2
  all_goals go_ret
  all_goals exact ⟨rfl, (hg.set_ 0 _).drew, ((Keep.refl w (· = g)).set (p := ⟨g, 0, none⟩) (fun _ => rfl) _).drew⟩

/-- The closure of ParseSendTime, of at least three bytes. -/
theorem send_cl {p : Nat → Prop} {v : Value} {n : Nat} {x0 x1 x2 : Int} {xs : List Int} (w : World) (g1 g2 : Nat) (h : Rd w p 1 v n (B8 (x0 :: x1 :: x2 :: xs))) (hI : IsB (x0 :: x1 :: x2 :: xs)) (hn : n ≤ 140737488355328)
    (h1 : Blk w g1 23 #[v]) (h2 : Blk w g2 22 #[.int .u64 0]) :
    Calls Tryd.prog 17 #[.pointer (some ⟨g1, 0, none⟩), .pointer (some ⟨g2, 0, none⟩)] w fun e w' => e = .returned (.bool true) ∧ Blk w' g2 22 #[.int .u64 (x0 * 65536 + x1 * 256 + x2)] ∧ Keep w w' (· = g2) := by
  have c1 := h1.cell 0 (v := v) rfl
  have hv := h
  obtain ⟨_, A, c, rfl, _⟩ := hv
  have bx := Blk.new w 55 #[.int .u64 0]
  have kx := (Keep.refl w Nul).alloc (.cells #[.int .u64 0] 55)
  have hlt := h2.lt
  have hlt1 := h1.lt
  have hC := hide (clone_b _ (h.alloc (.cells #[.int .u64 0] 55)) (B8_one _) hn)
  go_enter Tryd.func17, Tryd.ntmps17
  go_wp2_with fail
  refine (hC.out).mono ?_
  rintro e w1 ⟨v1, rfl, ho, k1, -⟩
  have kk := kx.trans k1 (fun _ _ e => e)
  go_wp2_with fail
  refine (send_un _ _ ho.rd hI (bx.keep k1 id)).mono ?_
  rintro e w2 ⟨rfl, b2, k2⟩
  have kk2 : Keep w w2 Nul := kk.trans k2 (fun i hi e => by omega)
  have d2 := h2.keep kk2 id
  have f0 := d2.free 0
  have e0 := d2.cell 0 (v := .int .u64 0) rfl
  have e1 := b2.cell 0 (v := .int .u64 (x0 * 65536 + x1 * 256 + x2)) rfl
  go_wp2_with fail
  go_ret
  exact ⟨rfl, d2.set_ 0 _, (kk2.mono (S' := (· = g2)) fun _ _ e => e.elim).set (p := ⟨g2, 0, none⟩) (fun _ => rfl) _⟩

theorem send_cl_short {p : Nat → Prop} {v : Value} {n : Nat} {xs : List Value} (w : World) (g1 g2 : Nat) (h : Rd w p 1 v n xs) (hx : ∀ u ∈ xs, u.oneCell' = true) (hn : n < 3) {te : TypeId} {ve : Value} (he : w.cell? ⟨0, 0, none⟩ = some (.iface te ve))
    (h1 : Blk w g1 23 #[v]) (h2 : Blk w g2 22 #[.int .u64 0]) :
    Calls Tryd.prog 17 #[.pointer (some ⟨g1, 0, none⟩), .pointer (some ⟨g2, 0, none⟩)] w fun e w' => e = .returned (.bool false) ∧ Keep w w' (· = g2) ∧ Blk w' g2 22 #[.int .u64 0] := by
  have c1 := h1.cell 0 (v := v) rfl
  have hv := h
  obtain ⟨_, A, c, rfl, _⟩ := hv
  have bx := Blk.new w 55 #[.int .u64 0]
  have kx := (Keep.refl w Nul).alloc (.cells #[.int .u64 0] 55)
  have hlt := h2.lt
  have hlt1 := h1.lt
  have hC := hide (clone_b _ (h.alloc (.cells #[.int .u64 0] 55)) hx (by omega))
  go_enter Tryd.func17, Tryd.ntmps17
  go_wp2_with fail
  refine (hC.out).mono ?_
  rintro e w1 ⟨v1, rfl, ho, k1, -⟩
  have kk := kx.trans k1 (fun _ _ e => e)
  have he1 := kk.cell id he
  go_wp2_with fail
  refine (send_un_short _ _ ho.rd hn he1).mono ?_
  rintro e w2 ⟨rfl, rfl⟩
  have d2 := h2.keep kk id
  have f0 := d2.free 0
  have e0 := d2.cell 0 (v := .int .u64 0) rfl
  have b2 := bx.keep k1 id
  have e1 := b2.cell 0 (v := .int .u64 0) rfl
  clear he1
  go_wp2_with fail
  go_ret
  exact ⟨rfl, (kk.mono (S' := (· = g2)) fun _ _ e => e.elim).set (p := ⟨g2, 0, none⟩) (fun _ => rfl) _, d2.set_ 0 _⟩

/-- impl.ParseSendTime. -/
theorem send_parse {p : Nat → Prop} {v : Value} {n : Nat} {x0 x1 x2 : Int} {xs : List Int} (w : World) (h : Rd w p 1 v n (B8 (x0 :: x1 :: x2 :: xs))) (hI : IsB (x0 :: x1 :: x2 :: xs)) (hn : n ≤ 140737488355328) :
    Calls Tryd.prog 8 #[v] w fun e w' => e = .returned (.tuple #[.int .u64 (x0 * 65536 + x1 * 256 + x2), .bool true]) ∧ Keep w w' Nul := by
  have hv := h
  obtain ⟨_, A, c, rfl, _⟩ := hv
  have b1 := (Blk.new w 23 #[.slice A n c]).alloc (.cells #[.int .u64 0] 22)
  have b2 := Blk.new (w.alloc (.cells #[.slice A n c] 23)) 22 #[.int .u64 0]
  simp only [World.size_alloc] at b2
  have kW : Keep w ((w.alloc (.cells #[.slice A n c] 23)).alloc (.cells #[.int .u64 0] 22)) Nul := ((Keep.refl w _).alloc _).alloc _
  have hT := hide (try_keep 17 _ true (fun w' => Blk w' (w.heap.size + 1) 22 #[.int .u64 (x0 * 65536 + x1 * 256 + x2)] ∧ Keep w w' Nul) _ (fun _ => by kernel_rfl)
    (fun w1 w2 ⟨hb, hk⟩ k => ⟨hb.keep k (by simp), hk.trans k (fun i hi e => by simp at e; omega)⟩)
    ((send_cl _ w.heap.size (w.heap.size + 1) (((h.alloc _).alloc _).alloc _) hI hn (b1.alloc _) (b2.alloc _)).mono (by
      rintro e w' ⟨rfl, hb, hk⟩
      exact ⟨rfl, (Blk.new _ _ _).keep hk (by simp), hb, (kW.alloc _).trans hk (fun i hi e => by omega)⟩)))
  go_enter Tryd.func8, Tryd.ntmps8
  go_wp2_with (refine (hT.out).mono ?_; rintro e w' ⟨rfl, hb, hk⟩; have c0 := hb.cell 0 (v := .int .u64 (x0 * 65536 + x1 * 256 + x2)) rfl; have f0 := hb.free 0)
  have c1 := (hb.set_ 0 (.int .u64 (x0 * 65536 + x1 * 256 + x2))).cell 0 (v := .int .u64 (x0 * 65536 + x1 * 256 + x2)) rfl
  refine bodyPost_ret (v := .tuple #[.int .u64 (x0 * 65536 + x1 * 256 + x2), .bool true]) (by simp [results, Tryd.results8, go_sem, c1]) rfl ⟨rfl, ?_⟩
  exact hk.set (p := ⟨w.heap.size + 1, 0, none⟩) (fun h => by simp at h; omega) _

theorem send_parse_short {p : Nat → Prop} {v : Value} {n : Nat} {xs : List Value} (w : World) (h : Rd w p 1 v n xs) (hx : ∀ u ∈ xs, u.oneCell' = true) (hn : n < 3) {te : TypeId} {ve : Value} (he : w.cell? ⟨0, 0, none⟩ = some (.iface te ve)) :
    Calls Tryd.prog 8 #[v] w fun e w' => e = .returned (.tuple #[.int .u64 0, .bool false]) ∧ Keep w w' Nul := by
  have hv := h
  obtain ⟨_, A, c, rfl, _⟩ := hv
  have b1 := (Blk.new w 23 #[.slice A n c]).alloc (.cells #[.int .u64 0] 22)
  have b2 := Blk.new (w.alloc (.cells #[.slice A n c] 23)) 22 #[.int .u64 0]
  simp only [World.size_alloc] at b2
  have kW : Keep w ((w.alloc (.cells #[.slice A n c] 23)).alloc (.cells #[.int .u64 0] 22)) Nul := ((Keep.refl w _).alloc _).alloc _
  have hT := hide (try_keep 17 _ false (fun w' => Blk w' (w.heap.size + 1) 22 #[.int .u64 0] ∧ Keep w w' Nul) _ (fun _ => by kernel_rfl)
    (fun w1 w2 ⟨hb, hk⟩ k => ⟨hb.keep k (by simp), hk.trans k (fun i hi e => by simp at e; omega)⟩)
    ((send_cl_short _ w.heap.size (w.heap.size + 1) (((h.alloc _).alloc _).alloc _) hx hn ((kW.alloc _).cell id he) (b1.alloc _) (b2.alloc _)).mono (by
      rintro e w' ⟨rfl, hk, hb⟩
      exact ⟨rfl, (Blk.new _ _ _).keep hk (by simp), hb, (kW.alloc _).trans hk (fun i hi e => by omega)⟩)))
  clear he
  go_enter Tryd.func8, Tryd.ntmps8
  go_wp2_with (refine (hT.out).mono ?_; rintro e w' ⟨rfl, hb, hk⟩; have c0 := hb.cell 0 (v := .int .u64 0) rfl; have f0 := hb.free 0)
  have c1 := (hb.set_ 0 (.int .u64 0)).cell 0 (v := .int .u64 0) rfl
  refine bodyPost_ret (v := .tuple #[.int .u64 0, .bool false]) (by simp [results, Tryd.results8, go_sem, c1]) rfl ⟨rfl, ?_⟩
  exact hk.set (p := ⟨w.heap.size + 1, 0, none⟩) (fun h => by simp at h; omega) _

/-- AbsSendTimeExtension.Marshal of a time of 24 bits. -/
theorem send_marshal (t : Int) (h0 : 0 ≤ t) (h1 : t < 16777216) (w : World) :
    Calls Tryd.prog 53 #[.agg #[.int .u64 t]] w fun e w' => ∃ out, e = .returned (.tuple #[out, .nilIface]) ∧ Keep w w' Nul ∧ Rd w' (w.heap.size ≤ ·) 1 out 3 (B8 [t / 65536, t / 256 % 256, t % 256]) := by
  have m1 : bits .and .u64 t 16711680 = t / 65536 % 256 * 65536 := and64m 8 16 t 16711680 h0 (by omega) (by decide) (by decide)
  have m2 : bits .and .u64 t 65280 = t / 256 % 256 * 256 := and64m 8 8 t 65280 h0 (by omega) (by decide) (by decide)
  have m3 : bits .and .u64 t 255 = t % 256 := and64 8 t 255 h0 (by omega) (by decide) (by decide)
  go_enter Tryd.func53, Tryd.ntmps53
  go_wp2
  go_ret2
  have o := (Own.of_lit (e := 5) (sz := 1) (w.alloc (.cells #[.int .u64 t] 55)) #[.int .u8 (t / 65536 % 256), .int .u8 (t / 256 % 256), .int .u8 (t % 256)] 3 (by simp [maxLen]) rfl).rdB
  have e1 : t / 65536 % 256 = t / 65536 := by omega
  rw [e1] at o ⊢
  simp only [World.size_alloc] at o
  exact ⟨_, rfl, ((Keep.refl w _).alloc _).alloc _, o.mono fun k _ h => by omega⟩

/-- impl.FormatSendTime. -/
theorem send_format (t : Int) (h0 : 0 ≤ t) (h1 : t < 16777216) (w : World) :
    Calls Tryd.prog 7 #[.int .u64 t] w fun e w' => ∃ out, e = .returned (.tuple #[out, .bool true]) ∧ Keep w w' Nul ∧ Rd w' (w.heap.size ≤ ·) 1 out 3 (B8 [t / 65536, t / 256 % 256, t % 256]) := by
  have hT := hide (bytes_ok (te := 55) (ve := .agg #[.int .u64 t]) (rv := .agg #[.int .u64 t]) (k := 53) (n := 3) (xs := B8 [t / 65536, t / 256 % 256, t % 256]) (p := (w.heap.size + 3 ≤ ·)) w (fun k h => .inr h) (fun _ => by kernel_rfl) (fun _ => by kernel_rfl)
    (fun w1 hs hk => (send_marshal t h0 h1 w1).mono fun e w' ⟨out, he, hk', hr⟩ => ⟨out, he, hk', hr.mono fun k _ h => by omega⟩))
  go_enter Tryd.func7, Tryd.ntmps7
  go_wp2_with (refine (hT.out).mono ?_; rintro e w' ⟨out, rfl, hk, hr⟩)
  go_ret2
  exact ⟨out, rfl, hk, hr.mono fun k _ h => by omega⟩
end Go.Proofs.YtdlnmkpojiofoaaDoor
