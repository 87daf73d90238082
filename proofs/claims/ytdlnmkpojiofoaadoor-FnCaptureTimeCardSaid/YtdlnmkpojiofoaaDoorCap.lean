/-
  The functions of a time of capture: what each does. Conditions: those that stand in each theorem.
-/
import Derived.Test.YtdlnmkpojiofoaaDoorTry
import Derived.Test.YtdlnmkpojiofoaaDoorBe64
import Derived.Deep.RegionWith
namespace Go.Proofs.YtdlnmkpojiofoaaDoor
open Go.RowKit
set_option linter.unusedVariables false
set_option maxRecDepth 20000

theorem by64_len (x : Int) : (by64 x).length = 8 := rfl
theorem by64_isB (x : Int) (h : 0 ≤ x ∧ x < 18446744073709551616) : IsB (by64 x) := by
  intro y hy
  simp [by64] at hy
  omega

theorem cap_un_short {p : Nat → Prop} {v : Value} {n : Nat} {xs : List Value} (w : World) (g : Nat) (h : Rd w p 1 v n xs) (hn : n < 8) {te : TypeId} {ve : Value} (he : w.cell? ⟨0, 0, none⟩ = some (.iface te ve)) :
    Calls Tryd.prog 23 #[.pointer (some ⟨g, 0, none⟩), v] w fun e w' => e = .returned (.iface te ve) ∧ w = w' := by
  obtain ⟨hl, A, c, rfl, h2, h3, h4, h5⟩ := h
  clear h5
  go_enter Tryd.func23, Tryd.ntmps23
  go_wp2
  go_ret
  exact ⟨rfl, rfl⟩

theorem cap_un8 {p : Nat → Prop} {v : Value} (w : World) (g : Nat) (t : Int) (ht : 0 ≤ t ∧ t < 18446744073709551616) (h : Rd w p 1 v 8 (B8 (by64 t))) (hg : Blk w g 66 #[.int .u64 0, .pointer none]) :
    Calls Tryd.prog 23 #[.pointer (some ⟨g, 0, none⟩), v] w fun e w' => e = .returned .nilIface ∧ Blk w' g 66 #[.int .u64 t, .pointer none] ∧ Keep w w' (· = g) := by
  obtain ⟨b, o, c, rfl, h2, h3, h4, h5, h6⟩ := h.lit (by omega)
  have hC := hide (be64 b o 8 c t w (by omega) h2 ht (fun j y hy => h6 j _ (by simp [B8, hy])))
  have g0 := hg.cell 0 (v := .int .u64 0) rfl
  have nc : (8 : Int) ≤ (c : Int) := by omega
  clear h h6
  go_enter Tryd.func23, Tryd.ntmps23
  go_wp2_with fail
  refine (hC.out).mono ?_
  rintro e w1 ⟨rfl, k1⟩
  have hg1 := hg.keep k1 id
  have c1 := hg1.cell 0 (v := .int .u64 0) rfl
  have f1 := hg1.free 0
  go_wp2_with fail
  go_ret
  exact ⟨rfl, hg1.set_ 0 _, (k1.nul (· = g)).setg 0 (fun _ => rfl) _⟩

theorem cap_un16 {p : Nat → Prop} {v : Value} (w : World) (g : Nat) (t d : Int) (ht : 0 ≤ t ∧ t < 18446744073709551616) (hd : -9223372036854775808 ≤ d ∧ d ≤ 9223372036854775807) (h : Rd w p 1 v 16 (B8 (by64 t ++ by64 (d % 18446744073709551616)))) (hpg : ¬ p g) (hg : Blk w g 66 #[.int .u64 0, .pointer none]) :
    Calls Tryd.prog 23 #[.pointer (some ⟨g, 0, none⟩), v] w fun e w' => e = .returned .nilIface ∧ ∃ g', w.heap.size ≤ g' ∧ Blk w' g 66 #[.int .u64 t, .pointer (some ⟨g', 0, none⟩)] ∧ Blk w' g' 2 #[.int .i64 d] ∧ Keep w w' (· = g) := by
  obtain ⟨b, o, c, rfl, h2, h3, h4, h5, h6⟩ := h.lit (by omega)
  have hC := hide (be64 b o 8 c t w (by omega) (by omega) ht (fun j y hy => h6 j _ (B8_get (by
    have hj : j < 8 := by have := (List.getElem?_eq_some_iff.1 hy).1; simpa [by64_len] using this
    rw [List.getElem?_append_left (by rw [by64_len]; exact hj)]
    exact hy))))
  have hne : b ≠ g := fun e => hpg (e ▸ h4)
  have hD := fun (w1 : World) (k : Keep w w1 (· = g)) => be64 b (o + 8) 8 (c - 8) (d % 18446744073709551616) w1 (by omega) (by omega) (by omega) (fun j y hy => k.cell hne (by
    rw [Nat.add_assoc]
    exact h6 (8 + j) _ (B8_get (by rw [List.getElem?_append_right (by rw [by64_len]; omega), by64_len, Nat.add_sub_cancel_left]; exact hy))))
  have HD := hide hD
  have g0 := hg.cell 0 (v := .int .u64 0) rfl
  have glt := hg.lt
  have nc : (16 : Int) ≤ (c : Int) := by omega
  have cc : ¬ c = 8 := by omega
  have d0 : 0 ≤ d % 18446744073709551616 := by omega
  have ed : wrap64 (d % 18446744073709551616) = d := by unfold wrap64; omega
  clear hD h h6 hne h4
  go_enter Tryd.func23, Tryd.ntmps23
  go_wp2_with fail
  refine (hC.out).mono ?_
  rintro e w1 ⟨rfl, k1⟩
  have hg1 := hg.keep k1 id
  have c1 := hg1.cell 0 (v := .int .u64 0) rfl
  have f1 := hg1.free 0
  have k2 := (k1.nul (· = g)).setg 0 (fun _ => rfl) (.int .u64 t)
  go_wp2_with fail
  refine (HD.out _ k2).mono ?_
  rintro e w2 ⟨rfl, k3⟩
  have k4 := k2.trans0 k3
  have hg2 := (hg1.set_ 0 (.int .u64 t)).keep k3 id
  have c2 := hg2.cell 1 (v := .pointer none) rfl
  have f2 := hg2.free 1
  have glt2 := hg2.lt
  have sz2 := k4.size
  go_wp2_with fail
  go_ret
  refine ⟨rfl, w2.heap.size, sz2, ?_, ?_, ?_⟩
  · exact (hg2.set_ 1 _).alloc _
  · have := Blk.new (w2.setCell ⟨g, 1, none⟩ (.pointer (some ⟨w2.heap.size, 0, none⟩))) 2 #[.int .i64 d]
    rwa [World.size_setCell] at this
  · exact (k4.setg 1 (fun _ => rfl) _).alloc _

theorem cap_cl8 {p : Nat → Prop} {v : Value} (w : World) (g1 g2 g3 : Nat) (t : Int) (ht : 0 ≤ t ∧ t < 18446744073709551616) (h : Rd w p 1 v 8 (B8 (by64 t)))
    (h1 : Blk w g1 23 #[v]) (h2 : Blk w g2 22 #[.int .u64 0]) (h3 : Blk w g3 35 #[.slice none 0 0]) :
    Calls Tryd.prog 22 #[.pointer (some ⟨g1, 0, none⟩), .pointer (some ⟨g2, 0, none⟩), .pointer (some ⟨g3, 0, none⟩)] w fun e w' => e = .returned (.bool true) ∧ Blk w' g2 22 #[.int .u64 t] ∧ Blk w' g3 35 #[.slice none 0 0] ∧ Keep w w' (fun k => k = g2 ∨ k = g3) := by
  have c1 := h1.cell 0 (v := v) rfl
  have hv := h
  obtain ⟨_, A, c, rfl, _⟩ := hv
  have bx := Blk.new w 66 #[.int .u64 0, .pointer none]
  have kx := (Keep.refl w Nul).alloc (.cells #[.int .u64 0, .pointer none] 66)
  have hlt := h2.lt
  have hlt1 := h1.lt
  have hlt3 := h3.lt
  have hne := h3.ne_ h2 (by decide)
  have hC := hide (clone_b _ (h.alloc (.cells #[.int .u64 0, .pointer none] 66)) (B8_one _) (by omega))
  go_enter Tryd.func22, Tryd.ntmps22
  go_wp2_with fail
  refine (hC.out).mono ?_
  rintro e w1 ⟨v1, rfl, ho, k1, -⟩
  have kk := kx.trans k1 (fun _ _ e => e)
  go_wp2_with fail
  refine (cap_un8 _ _ t ht ho.rd (bx.keep k1 id)).mono ?_
  rintro e w2 ⟨rfl, b2, k2⟩
  have kk2 : Keep w w2 Nul := kk.trans k2 (fun i hi e => by omega)
  have d2 := h2.keep kk2 id
  have f0 := d2.free 0
  have e0 := d2.cell 0 (v := .int .u64 0) rfl
  have e1 := b2.cell 0 (v := .int .u64 t) rfl
  have e2 := b2.cell 1 (v := .pointer none) rfl
  have sz := b2.lt
  go_wp2_with fail
  go_ret
  exact ⟨rfl, d2.set_ 0 _, (h3.keep kk2 id).far (p := ⟨g2, 0, none⟩) hne _, (kk2.nul (fun k => k = g2 ∨ k = g3)).setg 0 (fun _ => .inl rfl) _⟩

theorem cap_cl16 {p : Nat → Prop} {v : Value} (w : World) (g1 g2 g3 : Nat) (t d : Int) (ht : 0 ≤ t ∧ t < 18446744073709551616) (hd : -9223372036854775808 ≤ d ∧ d ≤ 9223372036854775807) (h : Rd w p 1 v 16 (B8 (by64 t ++ by64 (d % 18446744073709551616))))
    (h1 : Blk w g1 23 #[v]) (h2 : Blk w g2 22 #[.int .u64 0]) (h3 : Blk w g3 35 #[.slice none 0 0]) :
    Calls Tryd.prog 22 #[.pointer (some ⟨g1, 0, none⟩), .pointer (some ⟨g2, 0, none⟩), .pointer (some ⟨g3, 0, none⟩)] w fun e w' => e = .returned (.bool true) ∧ Blk w' g2 22 #[.int .u64 t] ∧
      (∃ g', w.heap.size ≤ g' ∧ Blk w' g3 35 #[.slice (some ⟨g', 0, none⟩) 1 1] ∧ Blk w' g' 2 #[.int .i64 d]) ∧ Keep w w' (fun k => k = g2 ∨ k = g3) := by
  have c1 := h1.cell 0 (v := v) rfl
  have hv := h
  obtain ⟨_, A, c, rfl, _⟩ := hv
  have bx := Blk.new w 66 #[.int .u64 0, .pointer none]
  have kx := (Keep.refl w Nul).alloc (.cells #[.int .u64 0, .pointer none] 66)
  have hlt := h2.lt
  have hlt1 := h1.lt
  have hlt3 := h3.lt
  have hne := h3.ne_ h2 (by decide)
  have hC := hide (clone_b _ (h.alloc (.cells #[.int .u64 0, .pointer none] 66)) (B8_one _) (by omega))
  go_enter Tryd.func22, Tryd.ntmps22
  go_wp2_with fail
  refine (hC.out).mono ?_
  rintro e w1 ⟨v1, rfl, ho, k1, -⟩
  have kk := kx.trans k1 (fun _ _ e => e)
  have bx1 := bx.keep k1 id
  go_wp2_with fail
  refine (cap_un16 _ _ t d ht hd ho.rd (ho.ne_ bx1 (by decide)) bx1).mono ?_
  rintro e w2 ⟨rfl, g', hg', b2, b3, k2⟩
  have kk2 : Keep w w2 Nul := kk.trans k2 (fun i hi e => by omega)
  have d2 := h2.keep kk2 id
  have d3 := h3.keep kk2 id
  have f0 := d2.free 0
  have f3 := d3.free 0
  have e0 := d2.cell 0 (v := .int .u64 0) rfl
  have e3 := d3.cell 0 (v := .slice none 0 0) rfl
  have e1 := b2.cell 0 (v := .int .u64 t) rfl
  have e2 := b2.cell 1 (v := .pointer (some ⟨g', 0, none⟩)) rfl
  have e4 := b3.cell 0 (v := .int .i64 d) rfl
  have sz := b2.lt
  have sz3 := d3.lt
  have sz2 := d2.lt
  have szk := kk.size
  go_wp2_with fail
  go_ret
  refine ⟨rfl, ((d2.set_ 0 _).far (p := ⟨g3, 0, none⟩) hne.symm _).alloc _, ⟨w2.heap.size, by have := kk2.size; omega, ((d3.far (p := ⟨g2, 0, none⟩) hne _).set_ 0 _).alloc _, ?_⟩, (((kk2.nul (fun k => k = g2 ∨ k = g3)).setg 0 (fun _ => .inl rfl) _).setg 0 (fun _ => .inr rfl) _).alloc _⟩
  have := Blk.new ((w2.setCell ⟨g2, 0, none⟩ (.int .u64 t)).setCell ⟨g3, 0, none⟩ (.slice (some ⟨w2.heap.size, 0, none⟩) 1 1)) 2 #[.int .i64 d]
  rwa [World.size_setCell, World.size_setCell] at this

theorem cap_cl_short {p : Nat → Prop} {v : Value} {n : Nat} {xs : List Value} (w : World) (g1 g2 g3 : Nat) (h : Rd w p 1 v n xs) (hx : ∀ u ∈ xs, u.oneCell' = true) (hn : n < 8) {te : TypeId} {ve : Value} (he : w.cell? ⟨0, 0, none⟩ = some (.iface te ve))
    (h1 : Blk w g1 23 #[v]) (h2 : Blk w g2 22 #[.int .u64 0]) (h3 : Blk w g3 35 #[.slice none 0 0]) :
    Calls Tryd.prog 22 #[.pointer (some ⟨g1, 0, none⟩), .pointer (some ⟨g2, 0, none⟩), .pointer (some ⟨g3, 0, none⟩)] w fun e w' => e = .returned (.bool false) ∧ Blk w' g2 22 #[.int .u64 0] ∧ Blk w' g3 35 #[.slice none 0 0] ∧ Keep w w' (fun k => k = g2 ∨ k = g3) := by
  have c1 := h1.cell 0 (v := v) rfl
  have hv := h
  obtain ⟨_, A, c, rfl, _⟩ := hv
  have bx := Blk.new w 66 #[.int .u64 0, .pointer none]
  have kx := (Keep.refl w Nul).alloc (.cells #[.int .u64 0, .pointer none] 66)
  have hlt := h2.lt
  have hlt1 := h1.lt
  have hlt3 := h3.lt
  have hne := h3.ne_ h2 (by decide)
  have hC := hide (clone_b _ (h.alloc (.cells #[.int .u64 0, .pointer none] 66)) hx (by omega))
  go_enter Tryd.func22, Tryd.ntmps22
  go_wp2_with fail
  refine (hC.out).mono ?_
  rintro e w1 ⟨v1, rfl, ho, k1, -⟩
  have kk := kx.trans k1 (fun _ _ e => e)
  have he1 := kk.cell id he
  go_wp2_with fail
  refine (cap_un_short _ _ ho.rd hn he1).mono ?_
  rintro e w2 ⟨rfl, rfl⟩
  have d2 := h2.keep kk id
  have f0 := d2.free 0
  have e0 := d2.cell 0 (v := .int .u64 0) rfl
  have b2 := bx.keep k1 id
  have e1 := b2.cell 0 (v := .int .u64 0) rfl
  have e2 := b2.cell 1 (v := .pointer none) rfl
  have sz := b2.lt
  clear he1
  go_wp2_with fail
  go_ret
  exact ⟨rfl, d2.set_ 0 _, (h3.keep kk id).far (p := ⟨g2, 0, none⟩) hne _, (kk.nul (fun k => k = g2 ∨ k = g3)).setg 0 (fun _ => .inl rfl) _⟩

/-- impl.ParseCaptureTime of eight bytes. -/
theorem cap_parse8 {p : Nat → Prop} {v : Value} (w : World) (t : Int) (ht : 0 ≤ t ∧ t < 18446744073709551616) (h : Rd w p 1 v 8 (B8 (by64 t))) :
    Calls Tryd.prog 12 #[v] w fun e w' => e = .returned (.tuple #[.int .u64 t, .slice none 0 0, .bool true]) ∧ Keep w w' Nul := by
  have hv := h
  obtain ⟨_, A, c, rfl, _⟩ := hv
  have b1 := ((Blk.new w 23 #[.slice A 8 c]).alloc (.cells #[.int .u64 0] 22)).alloc (.cells #[.slice none 0 0] 35)
  have b2 := (Blk.new (w.alloc (.cells #[.slice A 8 c] 23)) 22 #[.int .u64 0]).alloc (.cells #[.slice none 0 0] 35)
  have b3 := Blk.new ((w.alloc (.cells #[.slice A 8 c] 23)).alloc (.cells #[.int .u64 0] 22)) 35 #[.slice none 0 0]
  simp only [World.size_alloc] at b2 b3
  have kW : Keep w (((w.alloc (.cells #[.slice A 8 c] 23)).alloc (.cells #[.int .u64 0] 22)).alloc (.cells #[.slice none 0 0] 35)) Nul := (((Keep.refl w _).alloc _).alloc _).alloc _
  have hT := hide (try_keep 22 _ true (fun w' => Blk w' (w.heap.size + 1) 22 #[.int .u64 t] ∧ Blk w' (w.heap.size + 1 + 1) 35 #[.slice none 0 0] ∧ Keep w w' Nul) _ (fun _ => by kernel_rfl)
    (fun w1 w2 ⟨hb, hb', hk⟩ k => ⟨hb.keep k (by simp), hb'.keep k (by simp), hk.trans k (fun i hi e => by simp at e; omega)⟩)
    ((cap_cl8 _ w.heap.size (w.heap.size + 1) (w.heap.size + 1 + 1) t ht ((((h.alloc _).alloc _).alloc _).alloc _) (b1.alloc _) (b2.alloc _) (b3.alloc _)).mono (by
      rintro e w' ⟨rfl, hb, hb', hk⟩
      exact ⟨rfl, (Blk.new _ _ _).keep hk (by simp only [World.size_alloc]; omega), hb, hb', (kW.alloc _).trans hk (fun i hi e => by omega)⟩)))
  go_enter Tryd.func12, Tryd.ntmps12
  go_wp2_with (refine (hT.out).mono ?_; rintro e w' ⟨rfl, hb, hb', hk⟩; have c0 := hb.cell 0 (v := .int .u64 t) rfl; have f0 := hb.free 0; have c1 := hb'.cell 0 (v := .slice none 0 0) rfl; have f1 := hb'.free 0)
  go_region
  all_goals go_wp2
  all_goals have d1 := ((hb.set_ 0 (.int .u64 t)).far (p := ⟨w.heap.size + 1 + 1, 0, none⟩) (by simp) (.slice none 0 0)).drew.cell 0 (v := .int .u64 t) rfl
  all_goals have d2 := ((hb'.far (p := ⟨w.heap.size + 1, 0, none⟩) (by simp) (.int .u64 t)).set_ 0 (.slice none 0 0)).drew.cell 0 (v := .slice none 0 0) rfl
  all_goals refine bodyPost_ret (v := .tuple #[.int .u64 t, .slice none 0 0, .bool true]) (by simp only [World.cell?_drew] at d1 d2; simp [results, Tryd.results12, go_sem, d1, d2]) rfl ⟨rfl, ?_⟩
  all_goals exact ((hk.setg 0 (fun h => by omega) _).setg 0 (fun h => by omega) _).drew

/-- impl.ParseCaptureTime of sixteen bytes. -/
theorem cap_parse16 {p : Nat → Prop} {v : Value} (w : World) (t d : Int) (ht : 0 ≤ t ∧ t < 18446744073709551616) (hd : -9223372036854775808 ≤ d ∧ d ≤ 9223372036854775807) (h : Rd w p 1 v 16 (B8 (by64 t ++ by64 (d % 18446744073709551616)))) :
    Calls Tryd.prog 12 #[v] w fun e w' => ∃ g', w.heap.size ≤ g' ∧ e = .returned (.tuple #[.int .u64 t, .slice (some ⟨g', 0, none⟩) 1 1, .bool true]) ∧ Blk w' g' 2 #[.int .i64 d] ∧ Keep w w' Nul := by
  have hv := h
  obtain ⟨_, A, c, rfl, _⟩ := hv
  have b1 := ((Blk.new w 23 #[.slice A 16 c]).alloc (.cells #[.int .u64 0] 22)).alloc (.cells #[.slice none 0 0] 35)
  have b2 := (Blk.new (w.alloc (.cells #[.slice A 16 c] 23)) 22 #[.int .u64 0]).alloc (.cells #[.slice none 0 0] 35)
  have b3 := Blk.new ((w.alloc (.cells #[.slice A 16 c] 23)).alloc (.cells #[.int .u64 0] 22)) 35 #[.slice none 0 0]
  simp only [World.size_alloc] at b2 b3
  have kW : Keep w (((w.alloc (.cells #[.slice A 16 c] 23)).alloc (.cells #[.int .u64 0] 22)).alloc (.cells #[.slice none 0 0] 35)) Nul := (((Keep.refl w _).alloc _).alloc _).alloc _
  have hT := hide (try_keep 22 _ true (fun w' => Blk w' (w.heap.size + 1) 22 #[.int .u64 t] ∧ (∃ g', w.heap.size + 1 + 1 + 1 + 1 ≤ g' ∧ Blk w' (w.heap.size + 1 + 1) 35 #[.slice (some ⟨g', 0, none⟩) 1 1] ∧ Blk w' g' 2 #[.int .i64 d]) ∧ Keep w w' Nul) _ (fun _ => by kernel_rfl)
    (fun w1 w2 ⟨hb, ⟨g', hg, hb', hb''⟩, hk⟩ k => ⟨hb.keep k (by simp), ⟨g', hg, hb'.keep k (by simp), hb''.keep k (by simp; omega)⟩, hk.trans k (fun i hi e => by simp at e; omega)⟩)
    ((cap_cl16 _ w.heap.size (w.heap.size + 1) (w.heap.size + 1 + 1) t d ht hd ((((h.alloc _).alloc _).alloc _).alloc _) (b1.alloc _) (b2.alloc _) (b3.alloc _)).mono (by
      rintro e w' ⟨rfl, hb, ⟨g', hg, hb', hb''⟩, hk⟩
      simp only [World.size_alloc] at hg
      exact ⟨rfl, (Blk.new _ _ _).keep hk (by simp only [World.size_alloc]; omega), hb, ⟨g', hg, hb', hb''⟩, (kW.alloc _).trans hk (fun i hi e => by omega)⟩)))
  go_enter Tryd.func12, Tryd.ntmps12
  go_wp2_with (refine (hT.out).mono ?_; rintro e w' ⟨rfl, hb, ⟨g', hg, hb', hb''⟩, hk⟩; have c0 := hb.cell 0 (v := .int .u64 t) rfl; have f0 := hb.free 0; have c1 := hb'.cell 0 (v := .slice (some ⟨g', 0, none⟩) 1 1) rfl; have f1 := hb'.free 0)
  go_region
  all_goals go_wp2
  all_goals have d1 := ((hb.set_ 0 (.int .u64 t)).far (p := ⟨w.heap.size + 1 + 1, 0, none⟩) (by simp) (.slice (some ⟨g', 0, none⟩) 1 1)).drew.cell 0 (v := .int .u64 t) rfl
  all_goals have d2 := ((hb'.far (p := ⟨w.heap.size + 1, 0, none⟩) (by simp) (.int .u64 t)).set_ 0 (.slice (some ⟨g', 0, none⟩) 1 1)).drew.cell 0 (v := .slice (some ⟨g', 0, none⟩) 1 1) rfl
  all_goals refine bodyPost_ret (v := .tuple #[.int .u64 t, .slice (some ⟨g', 0, none⟩) 1 1, .bool true]) (by simp only [World.cell?_drew] at d1 d2; simp [results, Tryd.results12, go_sem, d1, d2]) rfl ⟨g', by omega, rfl, ?_, ?_⟩
  all_goals first
    | exact ((hk.setg 0 (fun h => by omega) _).setg 0 (fun h => by omega) _).drew
    | exact ((hb''.far (p := ⟨w.heap.size + 1, 0, none⟩) (by simp; omega) _).far (p := ⟨w.heap.size + 1 + 1, 0, none⟩) (by simp; omega) _).drew

/-- impl.ParseCaptureTime of fewer than eight bytes. -/
theorem cap_parse_short {p : Nat → Prop} {v : Value} {n : Nat} {xs : List Value} (w : World) (h : Rd w p 1 v n xs) (hx : ∀ u ∈ xs, u.oneCell' = true) (hn : n < 8) {te : TypeId} {ve : Value} (he : w.cell? ⟨0, 0, none⟩ = some (.iface te ve)) :
    Calls Tryd.prog 12 #[v] w fun e w' => e = .returned (.tuple #[.int .u64 0, .slice none 0 0, .bool false]) ∧ Keep w w' Nul := by
  have hv := h
  obtain ⟨_, A, c, rfl, _⟩ := hv
  have b1 := ((Blk.new w 23 #[.slice A n c]).alloc (.cells #[.int .u64 0] 22)).alloc (.cells #[.slice none 0 0] 35)
  have b2 := (Blk.new (w.alloc (.cells #[.slice A n c] 23)) 22 #[.int .u64 0]).alloc (.cells #[.slice none 0 0] 35)
  have b3 := Blk.new ((w.alloc (.cells #[.slice A n c] 23)).alloc (.cells #[.int .u64 0] 22)) 35 #[.slice none 0 0]
  simp only [World.size_alloc] at b2 b3
  have kW : Keep w (((w.alloc (.cells #[.slice A n c] 23)).alloc (.cells #[.int .u64 0] 22)).alloc (.cells #[.slice none 0 0] 35)) Nul := (((Keep.refl w _).alloc _).alloc _).alloc _
  have hT := hide (try_keep 22 _ false (fun w' => Blk w' (w.heap.size + 1) 22 #[.int .u64 0] ∧ Blk w' (w.heap.size + 1 + 1) 35 #[.slice none 0 0] ∧ Keep w w' Nul) _ (fun _ => by kernel_rfl)
    (fun w1 w2 ⟨hb, hb', hk⟩ k => ⟨hb.keep k (by simp), hb'.keep k (by simp), hk.trans k (fun i hi e => by simp at e; omega)⟩)
    ((cap_cl_short _ w.heap.size (w.heap.size + 1) (w.heap.size + 1 + 1) ((((h.alloc _).alloc _).alloc _).alloc _) hx hn ((kW.alloc _).cell id he) (b1.alloc _) (b2.alloc _) (b3.alloc _)).mono (by
      rintro e w' ⟨rfl, hb, hb', hk⟩
      exact ⟨rfl, (Blk.new _ _ _).keep hk (by simp only [World.size_alloc]; omega), hb, hb', (kW.alloc _).trans hk (fun i hi e => by omega)⟩)))
  clear he
  go_enter Tryd.func12, Tryd.ntmps12
  go_wp2_with (refine (hT.out).mono ?_; rintro e w' ⟨rfl, hb, hb', hk⟩; have c0 := hb.cell 0 (v := .int .u64 0) rfl; have f0 := hb.free 0; have c1 := hb'.cell 0 (v := .slice none 0 0) rfl; have f1 := hb'.free 0)
  have d1 := ((hb.set_ 0 (.int .u64 0)).far (p := ⟨w.heap.size + 1 + 1, 0, none⟩) (by simp) (.slice none 0 0)).cell 0 (v := .int .u64 0) rfl
  have d2 := ((hb'.far (p := ⟨w.heap.size + 1, 0, none⟩) (by simp) (.int .u64 0)).set_ 0 (.slice none 0 0)).cell 0 (v := .slice none 0 0) rfl
  refine bodyPost_ret (v := .tuple #[.int .u64 0, .slice none 0 0, .bool false]) (by simp [results, Tryd.results12, go_sem, d1, d2]) rfl ⟨rfl, ?_⟩
  exact (hk.setg 0 (fun h => by omega) _).setg 0 (fun h => by omega) _

/-- AbsCaptureTimeExtension.Marshal without an offset. -/
theorem cap_marshal8 (t : Int) (ht : 0 ≤ t ∧ t < 18446744073709551616) (w : World) :
    Calls Tryd.prog 59 #[.agg #[.int .u64 t, .pointer none]] w fun e w' => ∃ out, e = .returned (.tuple #[out, .nilIface]) ∧ Keep w w' Nul ∧ Rd w' (w.heap.size ≤ ·) 1 out 8 (B8 (by64 t)) := by
  have hmk : ∀ w : World, (Instr.makeSlice 23 (.int .i64 8) (.int .i64 8)).run Tryd.prog w = .ok (.slice (some ⟨w.heap.size, 0, none⟩) 8 8) (w.alloc (.cells (B8 [] ++ Z8 8).toArray 5)) := fun _ => by kernel_rfl
  have hb : Buf ((w.alloc (.cells #[.int .u64 t, .pointer none] 66)).alloc (.cells (B8 [] ++ Z8 8).toArray 5)) (w.heap.size + 1) [] (Z8 8) := by
    have := Blk.new (w.alloc (.cells #[.int .u64 t, .pointer none] 66)) 5 (B8 [] ++ Z8 8).toArray
    rwa [World.size_alloc] at this
  go_enter Tryd.func59, Tryd.ntmps59
  go_wp2_with fail
  go_region_with ((go_at_call 60; go_loud (refine (bePut64 _ _ _ _ _ _ _ _ (by omega) (by omega) ht hb.drew (Nat.le_refl 8)).mono ?_); rintro e w' ⟨rfl, rfl⟩))
  all_goals go_wp2
  all_goals go_ret2
  all_goals have o := ((Buf.put64 (done := []) hb.drew t).own (n := 8) (cap := 8) (Nat.le_refl _) rfl rfl (by simp [maxLen])).rdB
  all_goals exact ⟨_, rfl, (((Keep.refl w Nul).alloc _).alloc _).drew.trans (keep_put64 _ _ _ _) (fun i hi e => by omega), o.mono fun k _ h => by omega⟩

/-- AbsCaptureTimeExtension.Marshal with an offset. -/
theorem cap_marshal16 (t d : Int) (ht : 0 ≤ t ∧ t < 18446744073709551616) (hd : -9223372036854775808 ≤ d ∧ d ≤ 9223372036854775807) (g : Nat) (w : World) (hg : Blk w g 2 #[.int .i64 d]) :
    Calls Tryd.prog 59 #[.agg #[.int .u64 t, .pointer (some ⟨g, 0, none⟩)]] w fun e w' => ∃ out, e = .returned (.tuple #[out, .nilIface]) ∧ Keep w w' Nul ∧ Rd w' (w.heap.size ≤ ·) 1 out 16 (B8 (by64 t ++ by64 (d % 18446744073709551616))) := by
  have hmk : ∀ w : World, (Instr.makeSlice 23 (.int .i64 16) (.int .i64 16)).run Tryd.prog w = .ok (.slice (some ⟨w.heap.size, 0, none⟩) 16 16) (w.alloc (.cells (B8 [] ++ Z8 16).toArray 5)) := fun _ => by kernel_rfl
  have bx := (Blk.new w 66 #[.int .u64 t, .pointer (some ⟨g, 0, none⟩)]).alloc (.cells (B8 [] ++ Z8 16).toArray 5)
  have hb : Buf ((w.alloc (.cells #[.int .u64 t, .pointer (some ⟨g, 0, none⟩)] 66)).alloc (.cells (B8 [] ++ Z8 16).toArray 5)) (w.heap.size + 1) [] (Z8 16) := by
    have := Blk.new (w.alloc (.cells #[.int .u64 t, .pointer (some ⟨g, 0, none⟩)] 66)) 5 (B8 [] ++ Z8 16).toArray
    rwa [World.size_alloc] at this
  have glt := hg.lt
  have kW := (((Keep.refl w Nul).alloc (.cells #[.int .u64 t, .pointer (some ⟨g, 0, none⟩)] 66)).alloc (.cells (B8 [] ++ Z8 16).toArray 5)).drew
  go_enter Tryd.func59, Tryd.ntmps59
  go_wp2_with fail
  go_region_with ((go_at_call 60; (refine (bePut64 _ _ _ _ _ _ _ _ (by omega) (by omega) ht hb.drew (by decide)).mono ?_); rintro e w' ⟨rfl, rfl⟩))
  have hb1 := Buf.put64 (done := []) hb.drew t
  have k1 : Keep w _ Nul := kW.trans (keep_put64 _ (w.heap.size + 1) 0 t) (fun i hi e => by omega)
  have bx1 := bx.drew.keep (keep_put64 _ (w.heap.size + 1) 0 t) (by omega)
  have hg1 := hg.keep k1 id
  simp only [List.length_nil] at hb1
  generalize put64 _ (w.heap.size + 1) 0 t = w1 at *
  have c0 := bx1.cell 1 (v := .pointer (some ⟨g, 0, none⟩)) rfl
  have c1 := hg1.cell 0 (v := .int .i64 d) rfl
  have eu : IntKind.u64.wrap d = d % 18446744073709551616 := IntKind.wrap_u64 d
  have d0 : 0 ≤ d % 18446744073709551616 ∧ d % 18446744073709551616 < 18446744073709551616 := by omega
  go_wp2_with fail
  go_region_with ((go_at_call 60; (refine (bePut64 _ 8 _ _ _ _ _ _ (by omega) (by omega) d0 hb1.drew (by simp [B8_len, by64_len])).mono ?_); rintro e w' ⟨rfl, rfl⟩))
  all_goals go_wp2
  all_goals go_ret2
  all_goals have o := ((Buf.put64 hb1.drew (d % 18446744073709551616)).own (n := 16) (cap := 16) (Nat.le_refl _) rfl rfl (by simp [maxLen])).rdB
  all_goals simp only [List.nil_append] at o
  all_goals exact ⟨_, rfl, k1.drew.trans (keep_put64 _ _ _ _) (fun i hi e => by omega), o.mono fun k _ h => by omega⟩

end Go.Proofs.YtdlnmkpojiofoaaDoor
