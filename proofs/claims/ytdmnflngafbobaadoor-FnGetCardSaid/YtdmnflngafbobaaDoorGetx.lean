/-
  The extension with an id, of the thin package and of the reference. Conditions: those that stand in each theorem.
-/
import Derived.Test.YtdmnflngafbobaaDoorFind
import Derived.Deep.RegionWith
namespace Go.Proofs.YtdmnflngafbobaaDoor
open Go.RowKit
set_option linter.unusedVariables false
set_option linter.unusedSimpArgs false
set_option maxRecDepth 100000

/-- The bytes of the extension that a search finds. -/
def Fd (hd : Hd) (id : Int) : Option Ex := if hd.ext then (fi hd.exts id).bind (fun k => hd.exts[k]?) else none
def fdd (hd : Hd) (id : Int) : List Int := match Fd hd id with
  | none => []
  | some x => x.data
theorem fdd_len {hd : Hd} (id : Int) (hdn : ∀ x ∈ hd.exts, x.data.length ≤ 2147483647) : (fdd hd id).length ≤ 2147483647 := by
  unfold fdd
  cases h : Fd hd id with
  | none => simp
  | some x =>
    refine hdn x ?_
    unfold Fd at h
    split at h
    · cases hf : fi hd.exts id with
      | none => rw [hf] at h; cases h
      | some k => rw [hf] at h; exact List.mem_of_getElem? h
    · cases h
theorem GX.fd {w : World} {p : Nat → Prop} {hd : Hd} {id : Int} {d : Value} (h : GX w p hd id d) : ∃ A c, d = .slice A (fdd hd id).length c ∧ Rd w p 1 d (fdd hd id).length (B8 (fdd hd id)) ∧ (Fd hd id = none → A = none) := by
  rcases h with ⟨h1, rfl⟩ | ⟨h1, k, x, h2, h3, h4⟩
  · have hF : Fd hd id = none := by
      rcases h1 with h | h
      · simp [Fd, h]
      · simp [Fd, h]
    have hf : fdd hd id = [] := by unfold fdd; rw [hF]
    rw [hf]
    exact ⟨none, 0, rfl, Rd.nil_ _ _ _, fun _ => rfl⟩
  · have hF : Fd hd id = some x := by simp [Fd, h1, h2, h3]
    have hf : fdd hd id = x.data := by unfold fdd; rw [hF]
    obtain ⟨A, c, rfl⟩ := h4.shape
    rw [hf]
    exact ⟨A, c, rfl, h4, fun e => by rw [hF] at e; cases e⟩

theorem getx_fd {p : Nat → Prop} {hd : Hd} {id : Int} {sv xv : Value} {off : Int} {g : Nat} {t : TypeId} (w : World) (hB : Blk w g t (rcells hd sv xv off)) (hX : XR w p xv hd.exts) (hn : hd.exts.length ≤ 2147483647) :
    Calls Tryd.prog 78 #[.pointer (some ⟨g, 0, none⟩), .int .u8 id] w fun e w' => ∃ A c, e = .returned (.slice A (fdd hd id).length c) ∧ Keep w w' Nul ∧
      Rd w p 1 (.slice A (fdd hd id).length c) (fdd hd id).length (B8 (fdd hd id)) ∧ (Fd hd id = none → A = none) :=
  (getx_walk w hB hX hn).mono fun e w' ⟨d, h1, h2, h3⟩ => by
    obtain ⟨A, c, rfl, h4, h5⟩ := h3.fd
    exact ⟨A, c, h1, h2, h4, h5⟩

/-- impl.try of a function whose answer is not known beforehand. -/
theorem try_any (k : FuncId) (cap : Array Value) (R : Bool → World → Prop) (w : World)
    (hk : ∀ w, (callFunc k cap).run Tryd.prog w = .ok (.enter k cap) w)
    (hR : ∀ b w1 w2, R b w1 → Keep w1 w2 (· = w.heap.size) → R b w2)
    (hc : Calls Tryd.prog k cap (w.alloc (.cells #[.bool false] 4)) fun e w' => ∃ b, e = .returned (.bool b) ∧ Blk w' w.heap.size 4 #[.bool false] ∧ R b w') :
    Calls Tryd.prog 52 #[.func (.func k) #[] cap] w fun e w' => ∃ b, e = .returned (.bool b) ∧ R b w' := by
  have hmf : ∀ (fn : Fn) (first cap : Array Value) (w : World), (Instr.makeFunc fn first cap).run Tryd.prog w = .ok (.func fn first cap) w := fun _ _ _ _ => rfl
  have HC := hide hc
  clear hc
  go_enter_defers Tryd.func52, Tryd.ntmps52
  go_wp2_with (refine (HC.out).mono ?_; rintro e w1 ⟨b, rfl, hb, hr⟩; have f0 := hb.free 0; have c0 := hb.cell 0 (v := .bool false) rfl)
  refine leaves_cons (f := 95) (args := #[.pointer (some ⟨w.heap.size, 0, none⟩)]) (by simp) (by simp [go_sem]) ?_
  refine (catch_idle ⟨w.heap.size, 0, none⟩ _).mono ?_
  rintro e u' w'' ⟨rfl, rfl, rfl⟩
  have hb1 := hb.set_ 0 (.bool b)
  have c1 := hb1.cell 0 (v := .bool b) rfl
  simp [Leaves, settle, results, Tryd.results52, go_sem, c1]
  have hq := hR _ _ _ hr (Keep.set1 w1 w.heap.size 0 (.bool b))
  cases b
  · exact .inl ⟨rfl, hq⟩
  · exact .inr ⟨rfl, hq⟩

set_option maxHeartbeats 1600000 in
theorem sget_walk {p : Nat → Prop} {v : Value} {hd : Hd} {id : Int} (w : World) (hh : HV w p v hd) (hn : hd.exts.length ≤ 2147483647) :
    Calls Tryd.prog 36 #[v, .int .u8 id] w fun e w' => ∃ A c, e = .returned (.tuple #[.slice A (fdd hd id).length c, .bool (Fd hd id).isSome]) ∧ Keep w w' Nul ∧ Rd w p 1 (.slice A (fdd hd id).length c) (fdd hd id).length (B8 (fdd hd id)) := by
  have HF := hide (fun (wa : World) (k : Keep w wa Nul) => find_walk (id := id) wa (hh.keep0 k) hn)
  obtain ⟨sv, xv, rfl, h1, h2⟩ := hh
  have H := hide h2
  obtain ⟨A1, c1, rfl⟩ := h1.shape
  obtain ⟨A2, c2, rfl⟩ := h2.shape
  clear h1 h2
  have HC : hcells hd (.slice A1 hd.srcs.length c1) (.slice A2 hd.exts.length c2) = #[.int .u8 hd.v, .bool hd.pad, .bool hd.ext, .bool hd.mark, .int .u8 hd.ty, .int .u16 hd.seq, .int .u32 hd.time, .int .u32 hd.ssrc, .slice A1 hd.srcs.length c1, .int .u16 hd.prof, .slice A2 hd.exts.length c2, .int .u8 hd.padn] := rfl
  rw [HC]
  go_enter Tryd.func36, Tryd.ntmps36
  go_upto_region 1 with fail
  generalize hwa : World.alloc w _ = wa
  have BX := hide (show Blk wa w.heap.size 27 (hcells hd (.slice A1 hd.srcs.length c1) (.slice A2 hd.exts.length c2)) by subst hwa; exact Blk.new w _ _)
  have KA := hide (show Keep w wa Nul by subst hwa; exact (Keep.refl w Nul).alloc _)
  generalize hv0 : Value.agg _ = v0
  clear hwa hv0 HC
  obtain ⟨x0, x1, x2, x3, x4, x5, x6, x7, x8, x9, x10, x11⟩ := hc12 BX.out
  have hFW := hide (HF.out wa KA.out)
  go_wp2_with fail
  refine Calls.mono (show Calls _ _ #[.agg (hcells hd (.slice A1 hd.srcs.length c1) (.slice A2 hd.exts.length c2)), _] _ _ from hFW.out) ?_
  rintro e w1 ⟨rfl, k1⟩
  have K1 := hide (KA.out.trans0 k1)
  have BX1 := hide (BX.out.keep k1 (fun h => h))
  clear k1 x0 x1 x2 x3 x4 x5 x6 x7 x8 x9 x10 x11
  obtain ⟨x0, x1, x2, x3, x4, x5, x6, x7, x8, x9, x10, x11⟩ := hc12 BX1.out
  clear x0 x1 x3 x4 x5 x6 x7 x8 x9 x11
  cases he : hd.ext with
  | false =>
    have hfq : Fd hd id = none := by simp [Fd, he]
    have hf : fdd hd id = [] := by unfold fdd; rw [hfq]
    rw [he] at x2
    have HFa := hide hfq
    have HFb := hide hf
    clear he hfq hf
    go_wp2_with fail
    go_ret2
    rw [HFa.out, HFb.out]
    exact ⟨_, _, rfl, K1.out, Rd.nil_ _ _ _⟩
  | true =>
    rw [he] at x2
    cases hfi : fi hd.exts id with
    | none =>
      have hfq : Fd hd id = none := by simp [Fd, hfi]
      have hf : fdd hd id = [] := by unfold fdd; rw [hfq]
      have HFa := hide hfq
      have HFb := hide hf
      clear he hfq hf
      clear hfi
      unfold fiI
      go_wp2_with fail
      go_ret2
      rw [HFa.out, HFb.out]
      exact ⟨_, _, rfl, K1.out, Rd.nil_ _ _ _⟩
    | some k =>
      obtain ⟨hk, -, -⟩ := List.findIdx?_eq_some_iff_getElem.1 hfi
      have hg : hd.exts[k]? = some hd.exts[k] := List.getElem?_eq_getElem _
      have hfq : Fd hd id = some hd.exts[k] := by simp [Fd, he, hfi]
      have hf : fdd hd id = hd.exts[k].data := by unfold fdd; rw [hfq]
      obtain ⟨b', o', c'', d', hv', -, -, -, -, q5', q6', q7⟩ := H.out.at_ hg
      have y0 := K1.out.cell (fun h => h) q5'
      have y1 := K1.out.cell (fun h => h) q6'
      injection hv' with f1 _ f3
      subst f1 f3
      have HFa := hide hfq
      have HFb := hide hf
      clear he hfq hf q5' q6' hg
      clear hfi
      generalize hd.exts[k] = x at *
      have Q7 := hide q7
      obtain ⟨A', c3, rfl⟩ := q7.shape
      clear q7
      unfold fiI
      go_wp2_with fail
      go_ret2
      rw [HFa.out, HFb.out]
      exact ⟨_, _, rfl, K1.out, Q7.out⟩
end Go.Proofs.YtdmnflngafbobaaDoor
