/-
  What impl.try does: the answer of a function that returns. Conditions: those that stand in each theorem.
-/
import Derived.Test.YtdlnmkpojiofoaaDoorGMem
import Derived.Recover
namespace Go.Proofs.YtdlnmkpojiofoaaDoor
open Go.RowKit
set_option linter.unusedVariables false
set_option maxRecDepth 20000

/-- The deferred closure of impl.try in a frame that returns: recover finds nothing. -/
theorem catch_idle (p : Addr) (w : World) :
    CallsD Tryd.prog 28 #[.pointer (some p)] .returning w fun e u' w' => e = .returned (.tuple #[]) ∧ u' = .returning ∧ w' = w := by
  refine callsD_of_wpS Tryd.func28 rfl fun c₀ cs hu => ?_
  apply wpS_seq
  apply wpS_region
  simp [wpOpsS, go_sem, recoverD, hu, Tryd.ntmps28, Exit.thenS]
  refine wpS_cond (t := false) (by simp [Act.eval, Array.replicate]) ?_
  simp only [Bool.false_eq_true, if_false]
  refine wpS_of_wp (wp_skip ?_)
  cases c₀
  simp_all [bodyPostS, results, Tryd.results28]

/-- impl.try of a function that returns. -/
theorem try_ret (k : FuncId) (cap : Array Value) (b : Bool) (R : World → Prop) (w : World)
    (hk : ∀ w, (callFunc k cap).run Tryd.prog w = .ok (.enter k cap) w)
    (hc : Calls Tryd.prog k cap (w.alloc (.cells #[.bool false] 4)) fun e w' => e = .returned (.bool b) ∧ Blk w' w.heap.size 4 #[.bool false] ∧ R w') :
    Calls Tryd.prog 16 #[.func (.func k) #[] cap] w fun e w' => e = .returned (.bool b) ∧ ∃ w1, R w1 ∧ Blk w1 w.heap.size 4 #[.bool false] ∧ w' = w1.setCell ⟨w.heap.size, 0, none⟩ (.bool b) := by
  have hmf : ∀ (fn : Fn) (first cap : Array Value) (w : World), (Instr.makeFunc fn first cap).run Tryd.prog w = .ok (.func fn first cap) w := fun _ _ _ _ => rfl
  have HC := hide hc
  clear hc
  go_enter_defers Tryd.func16, Tryd.ntmps16
  go_wp2_with (refine (HC.out).mono ?_; rintro e w1 ⟨rfl, hb, hr⟩; have f0 := hb.free 0; have c0 := hb.cell 0 (v := .bool false) rfl)
  refine leaves_cons (f := 28) (args := #[.pointer (some ⟨w.heap.size, 0, none⟩)]) (by simp) (by simp [go_sem]) ?_
  refine (catch_idle ⟨w.heap.size, 0, none⟩ _).mono ?_
  rintro e u' w'' ⟨rfl, rfl, rfl⟩
  have hb1 := hb.set_ 0 (.bool b)
  have c1 := hb1.cell 0 (v := .bool b) rfl
  simp [Leaves, settle, results, Tryd.results16, go_sem, c1]
  exact ⟨w1, hr, hb, rfl⟩

/-- The same, where what the function leaves is not touched by the answer's own variable. -/
theorem try_keep (k : FuncId) (cap : Array Value) (b : Bool) (R : World → Prop) (w : World)
    (hk : ∀ w, (callFunc k cap).run Tryd.prog w = .ok (.enter k cap) w)
    (hR : ∀ w1 w2, R w1 → Keep w1 w2 (· = w.heap.size) → R w2)
    (hc : Calls Tryd.prog k cap (w.alloc (.cells #[.bool false] 4)) fun e w' => e = .returned (.bool b) ∧ Blk w' w.heap.size 4 #[.bool false] ∧ R w') :
    Calls Tryd.prog 16 #[.func (.func k) #[] cap] w fun e w' => e = .returned (.bool b) ∧ R w' :=
  (try_ret k cap b R w hk hc).mono fun e w' ⟨he, w1, hr, _, hw⟩ => ⟨he, hR w1 w' hr (by rw [hw]; exact Keep.set1 _ _ _ _)⟩

/-- All blocks but the three that impl.bytes lays for itself. -/
def Far (B : Nat) : Nat → Prop := fun k => k < B ∨ B + 3 ≤ k

/-- The closure of impl.bytes. -/
theorem bytes1 {te : TypeId} {ve rv : Value} {k : FuncId} {er : Value} (okb : Bool) {g1 g2 : Nat} (w : World) (R : World → Value → Prop)
    (he : (er = .nilIface ∧ okb = true) ∨ (∃ t v, er = .iface t v) ∧ okb = false)
    (hm : ∀ w, (method 231 te ve "Marshal").run Tryd.prog w = .ok (k, rv) w)
    (hk : ∀ w, (callFunc k #[rv]).run Tryd.prog w = .ok (.enter k #[rv]) w)
    (h1 : Blk w g1 76 #[.iface te ve]) (h2 : Blk w g2 23 #[.slice none 0 0])
    (hc : Calls Tryd.prog k #[rv] w fun e w' => ∃ A n c, e = .returned (.tuple #[.slice A n c, er]) ∧ Keep w w' Nul ∧ R w' (.slice A n c)) :
    Calls Tryd.prog 27 #[.pointer (some ⟨g1, 0, none⟩), .pointer (some ⟨g2, 0, none⟩)] w fun e w' =>
      e = .returned (.bool okb) ∧ ∃ w1 A n c, R w1 (.slice A n c) ∧ Keep w w1 Nul ∧ w' = w1.setCell ⟨g2, 0, none⟩ (.slice A n c) := by
  have c1 := h1.cell 0 (v := .iface te ve) rfl
  have HC := hide hc
  clear hc
  rcases he with ⟨rfl, rfl⟩ | ⟨⟨t, v, rfl⟩, rfl⟩ <;>
  · go_enter Tryd.func27, Tryd.ntmps27
    go_wp2_with (refine (HC.out).mono ?_; rintro e w1 ⟨A, n, c, rfl, hk, hr⟩; have h3 := h2.keep hk id; have f0 := h3.free 0; have d0 := h3.cell 0 (v := .slice none 0 0) rfl)
    go_ret
    exact ⟨rfl, w1, A, n, c, hr, hk, rfl⟩

theorem bytes_try {te : TypeId} {ve rv : Value} {k : FuncId} {er : Value} (okb : Bool) {g1 g2 : Nat} (w : World) (R : World → Value → Prop)
    (he : (er = .nilIface ∧ okb = true) ∨ (∃ t v, er = .iface t v) ∧ okb = false)
    (hm : ∀ w, (method 231 te ve "Marshal").run Tryd.prog w = .ok (k, rv) w)
    (hk : ∀ w, (callFunc k #[rv]).run Tryd.prog w = .ok (.enter k #[rv]) w)
    (h1 : Blk w g1 76 #[.iface te ve]) (h2 : Blk w g2 23 #[.slice none 0 0])
    (hR : ∀ w1 w2 v, R w1 v → Keep w1 w2 (fun i => i = g2 ∨ i = w.heap.size) → R w2 v)
    (hc : Calls Tryd.prog k #[rv] (w.alloc (.cells #[.bool false] 4)) fun e w' => ∃ A n c, e = .returned (.tuple #[.slice A n c, er]) ∧ Keep (w.alloc (.cells #[.bool false] 4)) w' Nul ∧ R w' (.slice A n c)) :
    Calls Tryd.prog 16 #[.func (.func 27) #[] #[.pointer (some ⟨g1, 0, none⟩), .pointer (some ⟨g2, 0, none⟩)]] w fun e w' =>
      e = .returned (.bool okb) ∧ ∃ A n c, R w' (.slice A n c) ∧ Blk w' g2 23 #[.slice A n c] ∧ Keep w w' (· = g2) := by
  have hlt := h2.lt
  refine (try_ret 27 _ okb (fun w' => ∃ w1 A n c, R w1 (.slice A n c) ∧ Keep (w.alloc (.cells #[.bool false] 4)) w1 Nul ∧ w' = w1.setCell ⟨g2, 0, none⟩ (.slice A n c)) w (fun _ => by kernel_rfl) ?_).mono ?_
  · refine (bytes1 okb _ R he hm hk (h1.alloc _) (h2.alloc _) hc).mono ?_
    rintro e w' ⟨rfl, w1, A, n, c, hr, hkp, rfl⟩
    have hb := (Blk.new w 4 #[.bool false]).keep hkp id
    exact ⟨rfl, hb.far (p := ⟨g2, 0, none⟩) (fun e => by simp at e; omega) _, w1, A, n, c, hr, hkp, rfl⟩
  · rintro e w' ⟨rfl, w1, ⟨w2, A, n, c, hr, hkp, rfl⟩, hb, rfl⟩
    refine ⟨rfl, A, n, c, hR _ _ _ hr ?_, ?_, ?_⟩
    · exact ((Keep.refl w2 _).set (p := ⟨g2, 0, none⟩) (fun _ => .inl rfl) _).set (p := ⟨w.heap.size, 0, none⟩) (fun _ => .inr rfl) _
    · exact ((((h2.alloc _).keep hkp id).set_ 0 (.slice A n c))).far (p := ⟨w.heap.size, 0, none⟩) (by simp; omega) _
    · exact ((((Keep.refl w (· = g2)).alloc _).trans0 hkp).set (p := ⟨g2, 0, none⟩) (fun _ => rfl) _).set (p := ⟨w.heap.size, 0, none⟩) (fun h => by simp at h) _

theorem far_keep {B g2 sz m : Nat} {p : Nat → Prop} {w1 w2 : World} {v : Value} {n : Nat} {xs : List Value} (hp : ∀ k, p k → Far B k) (h : Rd w1 p sz v n xs) (k : Keep w1 w2 (fun i => i = g2 ∨ i = m)) (h2 : B ≤ g2 ∧ g2 < B + 3) (hm : B ≤ m ∧ m < B + 3) : Rd w2 p sz v n xs :=
  h.keep k fun i _ hq e => by have := hp i hq; unfold Far at this; omega

/-- impl.bytes of a thing that is written without an error. -/
theorem bytes_ok {te : TypeId} {ve rv : Value} {k : FuncId} {n : Nat} {xs : List Value} {p : Nat → Prop} (w : World) (hp : ∀ k, p k → Far w.heap.size k)
    (hm : ∀ w, (method 231 te ve "Marshal").run Tryd.prog w = .ok (k, rv) w)
    (hk : ∀ w, (callFunc k #[rv]).run Tryd.prog w = .ok (.enter k #[rv]) w)
    (hc : ∀ w1 : World, w1.heap.size = w.heap.size + 3 → Keep w w1 Nul → Calls Tryd.prog k #[rv] w1 fun e w' => ∃ out, e = .returned (.tuple #[out, .nilIface]) ∧ Keep w1 w' Nul ∧ Rd w' p 1 out n xs) :
    Calls Tryd.prog 15 #[.iface te ve] w fun e w' => ∃ out, e = .returned (.tuple #[out, .bool true]) ∧ Keep w w' Nul ∧ Rd w' p 1 out n xs := by
  have b1 := (Blk.new w 76 #[.iface te ve]).alloc (.cells #[.slice none 0 0] 23)
  have b2 := Blk.new (w.alloc (.cells #[.iface te ve] 76)) 23 #[.slice none 0 0]
  simp only [World.size_alloc] at b2
  have kW : Keep w ((w.alloc (.cells #[.iface te ve] 76)).alloc (.cells #[.slice none 0 0] 23)) Nul := ((Keep.refl w _).alloc _).alloc _
  have hT := bytes_try true _ (fun w' v => Rd w' p 1 v n xs) (.inl ⟨rfl, rfl⟩) hm hk b1 b2 (fun w1 w2 v h k => far_keep hp h k (by omega) (by simp; omega)) ((hc _ (by simp) (kW.alloc _)).mono (by
    rintro e w' ⟨out, rfl, hk, hr⟩
    have hr' := hr
    obtain ⟨_, A, c, rfl, _⟩ := hr'
    exact ⟨A, n, c, rfl, hk, hr⟩))
  have HT := hide hT
  clear hT hc b1 b2
  go_enter Tryd.func15, Tryd.ntmps15
  go_wp2_with (refine (HT.out).mono ?_; rintro e w' ⟨rfl, A, m, c, hr, hb, hkp⟩; have c0 := hb.cell 0 (v := .slice A m c) rfl; have f0 := hb.free 0)
  have c1 := (hb.set_ 0 (.slice A m c)).cell 0 (v := .slice A m c) rfl
  refine bodyPost_ret (v := .tuple #[.slice A m c, .bool true]) (by simp [results, Tryd.results15, go_sem, c1]) rfl ⟨_, rfl, ?_, ?_⟩
  · exact (kW.trans hkp (fun i hi e => by omega)).set (p := ⟨w.heap.size + 1, 0, none⟩) (fun h => by simp at h; omega) _
  · exact far_keep (g2 := w.heap.size + 1) (m := w.heap.size + 1) hp hr ((Keep.refl w' _).set (p := ⟨w.heap.size + 1, 0, none⟩) (fun _ => .inl rfl) _) (by omega) (by omega)

/-- impl.bytes of a thing that is written with an error. -/
theorem bytes_err {te : TypeId} {ve rv : Value} {k : FuncId} {t : TypeId} {u : Value} (w : World)
    (hm : ∀ w, (method 231 te ve "Marshal").run Tryd.prog w = .ok (k, rv) w)
    (hk : ∀ w, (callFunc k #[rv]).run Tryd.prog w = .ok (.enter k #[rv]) w)
    (hc : ∀ w1 : World, w1.heap.size = w.heap.size + 3 → Keep w w1 Nul → Calls Tryd.prog k #[rv] w1 fun e w' => e = .returned (.tuple #[.slice none 0 0, .iface t u]) ∧ Keep w1 w' Nul) :
    Calls Tryd.prog 15 #[.iface te ve] w fun e w' => e = .returned (.tuple #[.slice none 0 0, .bool false]) ∧ Keep w w' Nul := by
  have b1 := (Blk.new w 76 #[.iface te ve]).alloc (.cells #[.slice none 0 0] 23)
  have b2 := Blk.new (w.alloc (.cells #[.iface te ve] 76)) 23 #[.slice none 0 0]
  simp only [World.size_alloc] at b2
  have kW : Keep w ((w.alloc (.cells #[.iface te ve] 76)).alloc (.cells #[.slice none 0 0] 23)) Nul := ((Keep.refl w _).alloc _).alloc _
  have hT := bytes_try (er := .iface t u) false _ (fun w' v => True) (.inr ⟨⟨_, _, rfl⟩, rfl⟩) hm hk b1 b2 (fun _ _ _ _ _ => trivial) ((hc _ (by simp) (kW.alloc _)).mono (by
    rintro e w' ⟨rfl, hk⟩
    exact ⟨none, 0, 0, rfl, hk, trivial⟩))
  have HT := hide hT
  clear hT hc b1 b2
  go_enter Tryd.func15, Tryd.ntmps15
  go_wp2_with (refine (HT.out).mono ?_; rintro e w' ⟨rfl, A, m, c, hr, hb, hkp⟩; have c0 := hb.cell 0 (v := .slice A m c) rfl; have f0 := hb.free 0)
  have c1 := (hb.set_ 0 (.slice none 0 0)).cell 0 (v := .slice none 0 0) rfl
  refine bodyPost_ret (v := .tuple #[.slice none 0 0, .bool false]) (by simp [results, Tryd.results15, go_sem, c1]) rfl ⟨rfl, ?_⟩
  exact (kW.trans hkp (fun i hi e => by omega)).set (p := ⟨w.heap.size + 1, 0, none⟩) (fun h => by simp at h; omega) _
end Go.Proofs.YtdlnmkpojiofoaaDoor
