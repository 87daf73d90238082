/-
  The extension with an id. Conditions: those that stand in each theorem.
-/
import Derived.Test.YtdmnflngafbobaaDoorFmh
import Derived.Deep.RegionWith
namespace Go.Proofs.YtdmnflngafbobaaDoor
open Go.RowKit
set_option linter.unusedVariables false
set_option linter.unusedSimpArgs false
set_option maxRecDepth 100000

/-- The place of the first extension with the id. -/
def fi (xs : List Ex) (id : Int) : Option Nat := xs.findIdx? (fun x => decide (x.id = id))
theorem fi_none {xs : List Ex} {id : Int} {k : Nat} (h : ∀ x ∈ xs.take k, x.id ≠ id) (hk : xs.length ≤ k) : fi xs id = none := by
  rw [List.take_of_length_le hk] at h
  simp only [fi, List.findIdx?_eq_none_iff, decide_eq_false_iff_not]
  exact h
theorem fi_some {xs : List Ex} {id : Int} {k : Nat} {x : Ex} (h : ∀ x ∈ xs.take k, x.id ≠ id) (hg : xs[k]? = some x) (hx : x.id = id) : fi xs id = some k := by
  obtain ⟨hk, rfl⟩ := List.getElem?_eq_some_iff.1 hg
  simp only [fi, List.findIdx?_eq_some_iff_getElem, decide_eq_true_eq]
  refine ⟨hk, hx, fun j hj => ?_⟩
  exact h _ (List.mem_take_iff_getElem.2 ⟨j, by omega, rfl⟩)
def fiI : Option Nat → Int
  | none => -1
  | some k => (k : Int)

set_option maxHeartbeats 1600000 in
theorem find_walk {p : Nat → Prop} {v : Value} {hd : Hd} {id : Int} (w : World) (hh : HV w p v hd) (hn : hd.exts.length ≤ 2147483647) :
    Calls Tryd.prog 76 #[v, .int .u8 id] w fun e w' => e = .returned (.int .i64 (fiI (fi hd.exts id))) ∧ Keep w w' Nul := by
  obtain ⟨sv, xv, rfl, h1, h2⟩ := hh
  have H := hide h2
  obtain ⟨A1, c1, rfl⟩ := h1.shape
  obtain ⟨A2, c2, rfl⟩ := h2.shape
  clear h1 h2
  unfold hcells
  go_enter Tryd.func76, Tryd.ntmps76
  go_upto_region 1 with fail
  generalize hwa : World.alloc w _ = wa
  have BX := hide (show Blk wa w.heap.size 27 (hcells hd (.slice A1 hd.srcs.length c1) (.slice A2 hd.exts.length c2)) by subst hwa; exact Blk.new w _ _)
  have KA := hide (show Keep w wa Nul by subst hwa; exact (Keep.refl w Nul).alloc _)
  generalize hv0 : Value.agg _ = v0
  clear hwa hv0
  obtain ⟨x0, x1, x2, x3, x4, x5, x6, x7, x8, x9, x10, x11⟩ := hc12 BX.out
  clear x0 x1 x2 x3 x4 x5 x6 x7 x8 x9 x11
  go_wp2_with fail
  clear x10
  go_loopw [10] (fun i wr => ∃ k : Nat, k ≤ hd.exts.length ∧ i = .int .i64 k ∧ Keep w wr Nul ∧ ∀ x ∈ hd.exts.take k, x.id ≠ id) (fun i _ => hd.exts.length - (intOf i).toNat)
  case atStart => exact ⟨0, Nat.zero_le _, rfl, KA.out, by simp⟩
  case round =>
    obtain ⟨k, hk, rfl, hK, hx⟩ := hrel
    by_cases hlt : k < hd.exts.length
    · have hg : hd.exts[k]? = some hd.exts[k] := List.getElem?_eq_getElem _
      obtain ⟨b, o, c', d, hv, q1, q2, q3, q4, q5, q6, q7⟩ := (H.out.keep0 hK).at_ hg
      injection hv with e1 _ e3
      subst e1 e3
      have HX := hide hx
      have HG := hide hg
      clear hx hg
      generalize hd.exts[k] = x at *
      obtain ⟨A', c3, rfl⟩ := q7.shape
      clear q7
      have HK := hide hK
      clear hK
      by_cases hid : x.id = id
      · rw [hid] at q5
        have HID := hide hid
        clear hid
        go_wp2_with fail
        go_ret
        exact ⟨by rw [fi_some HX.out HG.out HID.out]; rfl, HK.out.alloc _⟩
      · go_wp2_with fail
        go_roundw
        case rel =>
          refine ⟨k + 1, by omega, by go_num, HK.out.alloc _, fun y hy => ?_⟩
          rw [List.take_add_one, HG.out] at hy
          rcases List.mem_append.1 hy with hy | hy
          · exact HX.out y hy
          · obtain rfl : y = x := by simpa using hy
            exact hid
        case measure => simp [intOf]; omega
    · have hkn : k = hd.exts.length := by omega
      have HX := hide hx
      have HK := hide hK
      clear hx hK
      go_wp2_with fail
      go_ret
      exact ⟨by rw [fi_none HX.out (by omega)]; rfl, HK.out⟩

/-- What a search for an id finds. -/
def GX (w : World) (p : Nat → Prop) (hd : Hd) (id : Int) (d : Value) : Prop :=
  ((hd.ext = false ∨ fi hd.exts id = none) ∧ d = .slice none 0 0) ∨ (hd.ext = true ∧ ∃ k x, fi hd.exts id = some k ∧ hd.exts[k]? = some x ∧ Rd w p 1 d x.data.length (B8 x.data))

set_option maxHeartbeats 1600000 in
/-- The library's GetExtension. -/
theorem getx_walk {p : Nat → Prop} {hd : Hd} {id : Int} {sv xv : Value} {off : Int} {g : Nat} {t : TypeId} (w : World) (hB : Blk w g t (rcells hd sv xv off)) (hX : XR w p xv hd.exts) (hn : hd.exts.length ≤ 2147483647) :
    Calls Tryd.prog 78 #[.pointer (some ⟨g, 0, none⟩), .int .u8 id] w fun e w' => ∃ d, e = .returned d ∧ Keep w w' Nul ∧
      GX w p hd id d := by
  have H := hide hX
  obtain ⟨A2, c2, rfl⟩ := hX.shape
  obtain ⟨x0, x1, x2, x3, x4, x5, x6, x7, x8, x9, x10, x11, x12⟩ := rc13 hB
  clear hX hB x0 x1 x3 x4 x5 x6 x7 x8 x9 x11 x12
  cases he : hd.ext
  · rw [he] at x2
    have HEX := hide he
    clear he
    go_enter Tryd.func78, Tryd.ntmps78
    go_wp2_with fail
    go_ret
    exact ⟨_, rfl, Keep.refl _ _, .inl ⟨.inl HEX.out, rfl⟩⟩
  rw [he] at x2
  have HEX := hide he
  clear he
  go_enter Tryd.func78, Tryd.ntmps78
  go_wp2_with fail
  clear x10 x2
  go_loopw [17] (fun i wr => ∃ k : Nat, k ≤ hd.exts.length ∧ i = .int .i64 k ∧ Keep w wr Nul ∧ ∀ x ∈ hd.exts.take k, x.id ≠ id) (fun i _ => hd.exts.length - (intOf i).toNat)
  case atStart => exact ⟨0, Nat.zero_le _, rfl, Keep.refl _ _, by simp⟩
  case round =>
    obtain ⟨k, hk, rfl, hK, hx⟩ := hrel
    by_cases hlt : k < hd.exts.length
    · have hg : hd.exts[k]? = some hd.exts[k] := List.getElem?_eq_getElem _
      obtain ⟨b', o', c'', d', hv', -, -, -, -, q5', q6', q7'⟩ := H.out.at_ hg
      obtain ⟨b, o, c', d, hv, q1, q2, q3, q4, q5, q6, q7⟩ := (H.out.keep0 hK).at_ hg
      injection hv with e1 _ e3
      injection hv' with f1 _ f3
      subst e1 e3
      injection f1 with f1
      injection f1 with f4 f5 f6
      subst f4 f5 f3
      have hdd : d = d' := by
        have := hK.cell (fun h => h) q6'
        rw [q6] at this
        injection this
      subst hdd
      have HX := hide hx
      have HG := hide hg
      have Q7 := hide q7'
      clear hx hg q5' q6' q7' f6
      generalize hd.exts[k] = x at *
      obtain ⟨A', c3, rfl⟩ := q7.shape
      clear q7
      have HK := hide hK
      clear hK
      by_cases hid : x.id = id
      · rw [hid] at q5
        have HID := hide hid
        clear hid
        go_wp2_with fail
        go_ret
        exact ⟨_, rfl, HK.out.alloc _, .inr ⟨HEX.out, k, x, fi_some HX.out HG.out HID.out, HG.out, Q7.out⟩⟩
      · go_wp2_with fail
        go_roundw
        case rel =>
          refine ⟨k + 1, by omega, by go_num, HK.out.alloc _, fun y hy => ?_⟩
          rw [List.take_add_one, HG.out] at hy
          rcases List.mem_append.1 hy with hy | hy
          · exact HX.out y hy
          · obtain rfl : y = x := by simpa using hy
            exact hid
        case measure => simp [intOf]; omega
    · have hkn : k = hd.exts.length := by omega
      have HX := hide hx
      have HK := hide hK
      clear hx hK
      go_wp2_with fail
      go_ret
      exact ⟨_, rfl, HK.out, .inl ⟨.inr (fi_none HX.out (by omega)), rfl⟩⟩
end Go.Proofs.YtdmnflngafbobaaDoor
namespace Go.Proofs.YtdmnflngafbobaaDoor
open Go.RowKit
set_option linter.unusedVariables false
set_option linter.unusedSimpArgs false
set_option maxRecDepth 100000

/-- The bytes of the extension that a search finds. -/
def Fd (hd : Hd) (id : Int) : Option Ex := if hd.ext then (fi hd.exts id).bind (fun k => hd.exts[k]?) else none
def fdd (hd : Hd) (id : Int) : List Int := match Fd hd id with
  | none => []
  | some x => x.data
theorem fdd_len {hd : Hd} (id : Int) (hdn : ∀ x ∈ hd.exts, x.data.length ≤ 2147483647) : (fdd hd id).length ≤ 2147483647 := by
  unfold fdd
  cases h : Fd hd id with
  | none => simp
  | some x =>
    refine hdn x ?_
    unfold Fd at h
    split at h
    · cases hf : fi hd.exts id with
      | none => rw [hf] at h; cases h
      | some k => rw [hf] at h; exact List.mem_of_getElem? h
    · cases h
theorem GX.fd {w : World} {p : Nat → Prop} {hd : Hd} {id : Int} {d : Value} (h : GX w p hd id d) : ∃ A c, d = .slice A (fdd hd id).length c ∧ Rd w p 1 d (fdd hd id).length (B8 (fdd hd id)) ∧ (Fd hd id = none → A = none) := by
  rcases h with ⟨h1, rfl⟩ | ⟨h1, k, x, h2, h3, h4⟩
  · have hF : Fd hd id = none := by
      rcases h1 with h | h
      · simp [Fd, h]
      · simp [Fd, h]
    have hf : fdd hd id = [] := by unfold fdd; rw [hF]
    rw [hf]
    exact ⟨none, 0, rfl, Rd.nil_ _ _ _, fun _ => rfl⟩
  · have hF : Fd hd id = some x := by simp [Fd, h1, h2, h3]
    have hf : fdd hd id = x.data := by unfold fdd; rw [hF]
    obtain ⟨A, c, rfl⟩ := h4.shape
    rw [hf]
    exact ⟨A, c, rfl, h4, fun e => by rw [hF] at e; cases e⟩

theorem getx_fd {p : Nat → Prop} {hd : Hd} {id : Int} {sv xv : Value} {off : Int} {g : Nat} {t : TypeId} (w : World) (hB : Blk w g t (rcells hd sv xv off)) (hX : XR w p xv hd.exts) (hn : hd.exts.length ≤ 2147483647) :
    Calls Tryd.prog 78 #[.pointer (some ⟨g, 0, none⟩), .int .u8 id] w fun e w' => ∃ A c, e = .returned (.slice A (fdd hd id).length c) ∧ Keep w w' Nul ∧
      Rd w p 1 (.slice A (fdd hd id).length c) (fdd hd id).length (B8 (fdd hd id)) ∧ (Fd hd id = none → A = none) :=
  (getx_walk w hB hX hn).mono fun e w' ⟨d, h1, h2, h3⟩ => by
    obtain ⟨A, c, rfl, h4, h5⟩ := h3.fd
    exact ⟨A, c, h1, h2, h4, h5⟩

/-- impl.try of a function whose answer is not known beforehand. -/
theorem try_any (k : FuncId) (cap : Array Value) (R : Bool → World → Prop) (w : World)
    (hk : ∀ w, (callFunc k cap).run Tryd.prog w = .ok (.enter k cap) w)
    (hR : ∀ b w1 w2, R b w1 → Keep w1 w2 (· = w.heap.size) → R b w2)
    (hc : Calls Tryd.prog k cap (w.alloc (.cells #[.bool false] 4)) fun e w' => ∃ b, e = .returned (.bool b) ∧ Blk w' w.heap.size 4 #[.bool false] ∧ R b w') :
    Calls Tryd.prog 52 #[.func (.func k) #[] cap] w fun e w' => ∃ b, e = .returned (.bool b) ∧ R b w' := by
  have hmf : ∀ (fn : Fn) (first cap : Array Value) (w : World), (Instr.makeFunc fn first cap).run Tryd.prog w = .ok (.func fn first cap) w := fun _ _ _ _ => rfl
  have HC := hide hc
  clear hc
  go_enter_defers Tryd.func52, Tryd.ntmps52
  go_wp2_with (refine (HC.out).mono ?_; rintro e w1 ⟨b, rfl, hb, hr⟩; have f0 := hb.free 0; have c0 := hb.cell 0 (v := .bool false) rfl)
  refine leaves_cons (f := 95) (args := #[.pointer (some ⟨w.heap.size, 0, none⟩)]) (by simp) (by simp [go_sem]) ?_
  refine (catch_idle ⟨w.heap.size, 0, none⟩ _).mono ?_
  rintro e u' w'' ⟨rfl, rfl, rfl⟩
  have hb1 := hb.set_ 0 (.bool b)
  have c1 := hb1.cell 0 (v := .bool b) rfl
  simp [Leaves, settle, results, Tryd.results52, go_sem, c1]
  have hq := hR _ _ _ hr (Keep.set1 w1 w.heap.size 0 (.bool b))
  cases b
  · exact .inl ⟨rfl, hq⟩
  · exact .inr ⟨rfl, hq⟩

set_option maxHeartbeats 1600000 in
theorem sget_walk {p : Nat → Prop} {v : Value} {hd : Hd} {id : Int} (w : World) (hh : HV w p v hd) (hn : hd.exts.length ≤ 2147483647) :
    Calls Tryd.prog 36 #[v, .int .u8 id] w fun e w' => ∃ A c, e = .returned (.tuple #[.slice A (fdd hd id).length c, .bool (Fd hd id).isSome]) ∧ Keep w w' Nul ∧ Rd w p 1 (.slice A (fdd hd id).length c) (fdd hd id).length (B8 (fdd hd id)) := by
  have HF := hide (fun (wa : World) (k : Keep w wa Nul) => find_walk (id := id) wa (hh.keep0 k) hn)
  obtain ⟨sv, xv, rfl, h1, h2⟩ := hh
  have H := hide h2
  obtain ⟨A1, c1, rfl⟩ := h1.shape
  obtain ⟨A2, c2, rfl⟩ := h2.shape
  clear h1 h2
  have HC : hcells hd (.slice A1 hd.srcs.length c1) (.slice A2 hd.exts.length c2) = #[.int .u8 hd.v, .bool hd.pad, .bool hd.ext, .bool hd.mark, .int .u8 hd.ty, .int .u16 hd.seq, .int .u32 hd.time, .int .u32 hd.ssrc, .slice A1 hd.srcs.length c1, .int .u16 hd.prof, .slice A2 hd.exts.length c2, .int .u8 hd.padn] := rfl
  rw [HC]
  go_enter Tryd.func36, Tryd.ntmps36
  go_upto_region 1 with fail
  generalize hwa : World.alloc w _ = wa
  have BX := hide (show Blk wa w.heap.size 27 (hcells hd (.slice A1 hd.srcs.length c1) (.slice A2 hd.exts.length c2)) by subst hwa; exact Blk.new w _ _)
  have KA := hide (show Keep w wa Nul by subst hwa; exact (Keep.refl w Nul).alloc _)
  generalize hv0 : Value.agg _ = v0
  clear hwa hv0 HC
  obtain ⟨x0, x1, x2, x3, x4, x5, x6, x7, x8, x9, x10, x11⟩ := hc12 BX.out
  have hFW := hide (HF.out wa KA.out)
  go_wp2_with fail
  refine Calls.mono (show Calls _ _ #[.agg (hcells hd (.slice A1 hd.srcs.length c1) (.slice A2 hd.exts.length c2)), _] _ _ from hFW.out) ?_
  rintro e w1 ⟨rfl, k1⟩
  have K1 := hide (KA.out.trans0 k1)
  have BX1 := hide (BX.out.keep k1 (fun h => h))
  clear k1 x0 x1 x2 x3 x4 x5 x6 x7 x8 x9 x10 x11
  obtain ⟨x0, x1, x2, x3, x4, x5, x6, x7, x8, x9, x10, x11⟩ := hc12 BX1.out
  clear x0 x1 x3 x4 x5 x6 x7 x8 x9 x11
  cases he : hd.ext with
  | false =>
    have hfq : Fd hd id = none := by simp [Fd, he]
    have hf : fdd hd id = [] := by unfold fdd; rw [hfq]
    rw [he] at x2
    have HFa := hide hfq
    have HFb := hide hf
    clear he hfq hf
    go_wp2_with fail
    go_ret2
    rw [HFa.out, HFb.out]
    exact ⟨_, _, rfl, K1.out, Rd.nil_ _ _ _⟩
  | true =>
    rw [he] at x2
    cases hfi : fi hd.exts id with
    | none =>
      have hfq : Fd hd id = none := by simp [Fd, hfi]
      have hf : fdd hd id = [] := by unfold fdd; rw [hfq]
      have HFa := hide hfq
      have HFb := hide hf
      clear he hfq hf
      clear hfi
      unfold fiI
      go_wp2_with fail
      go_ret2
      rw [HFa.out, HFb.out]
      exact ⟨_, _, rfl, K1.out, Rd.nil_ _ _ _⟩
    | some k =>
      obtain ⟨hk, -, -⟩ := List.findIdx?_eq_some_iff_getElem.1 hfi
      have hg : hd.exts[k]? = some hd.exts[k] := List.getElem?_eq_getElem _
      have hfq : Fd hd id = some hd.exts[k] := by simp [Fd, he, hfi]
      have hf : fdd hd id = hd.exts[k].data := by unfold fdd; rw [hfq]
      obtain ⟨b', o', c'', d', hv', -, -, -, -, q5', q6', q7⟩ := H.out.at_ hg
      have y0 := K1.out.cell (fun h => h) q5'
      have y1 := K1.out.cell (fun h => h) q6'
      injection hv' with f1 _ f3
      subst f1 f3
      have HFa := hide hfq
      have HFb := hide hf
      clear he hfq hf q5' q6' hg
      clear hfi
      generalize hd.exts[k] = x at *
      have Q7 := hide q7
      obtain ⟨A', c3, rfl⟩ := q7.shape
      clear q7
      unfold fiI
      go_wp2_with fail
      go_ret2
      rw [HFa.out, HFb.out]
      exact ⟨_, _, rfl, K1.out, Q7.out⟩
end Go.Proofs.YtdmnflngafbobaaDoor
namespace Go.Proofs.YtdmnflngafbobaaDoor
open Go.RowKit
set_option linter.unusedVariables false
set_option linter.unusedSimpArgs false
set_option maxRecDepth 100000

set_option maxHeartbeats 1600000 in
theorem get1_walk {p : Nat → Prop} {hd : Hd} {id : Int} {sv xv : Value} {g0 g1 g2 : Nat} (w : World) (hh : HV w p (.agg (hcells hd sv xv)) hd) (hs : hd.srcs.length ≤ 2147483647) (hn : hd.exts.length ≤ 2147483647) (hdn : ∀ x ∈ hd.exts, x.data.length ≤ 2147483647)
    (h1 : Blk w g1 35 (hcells hd sv xv)) (h0 : Blk w g0 5 #[.int .u8 id]) (h2 : Blk w g2 29 #[.slice none 0 0]) :
    Calls Tryd.prog 77 #[.pointer (some ⟨g1, 0, none⟩), .pointer (some ⟨g0, 0, none⟩), .pointer (some ⟨g2, 0, none⟩)] w fun e w' => ∃ A c, e = .returned (.bool A.isSome) ∧ Keep w w' (· = g2) ∧ Blk w' g2 29 #[.slice A (fdd hd id).length c] ∧
      Rd w' (w.heap.size ≤ ·) 1 (.slice A (fdd hd id).length c) (fdd hd id).length (B8 (fdd hd id)) ∧ (Fd hd id = none → A = none) := by
  have hlen := fdd_len id hdn
  have hh0 := hh
  obtain ⟨sv', xv', e', q1, q2⟩ := hh
  injection e' with e'
  have es : sv = sv' := by have := congrArg (fun a : Array Value => a[8]?) e'; simpa [hcells] using this
  have ex : xv = xv' := by have := congrArg (fun a : Array Value => a[10]?) e'; simpa [hcells] using this
  subst es ex
  obtain ⟨A1, c1, rfl⟩ := q1.shape
  obtain ⟨A2, c2, rfl⟩ := q2.shape
  clear q1 q2 e'
  have KD := hide ((Keep.refl w Nul).drew)
  have HH := hide (header_walk w.drew (hh0.keep0 KD.out) hn hs hdn)
  have x0' := hide (h0.drew)
  have x1' := hide (h1.drew)
  have x2' := hide (h2.drew)
  have lg2 := h2.lt
  clear hh0 h0 h1 h2 hdn
  go_enter Tryd.func77, Tryd.ntmps77
  go_upto_region 1 with fail
  have i0 := x0'.out.cell 0 (v := .int .u8 id) rfl
  have f2 := x2'.out.free 0
  have c2' := x2'.out.cell 0 (v := .slice none 0 0) rfl
  obtain ⟨x0, x1, x2, x3, x4, x5, x6, x7, x8, x9, x10, x11⟩ := hc12 x1'.out
  go_region_with (first
    | (go_at_call 54; refine Calls.mono (show Calls _ _ #[.agg (hcells hd (.slice A1 hd.srcs.length c1) (.slice A2 hd.exts.length c2))] _ _ from HH.out) ?_; rintro e w1 ⟨k1, g, rfl, hr⟩; obtain ⟨svg, xvg, offg, bg, r1, r2⟩ := hr.open_; have i0' := (x0'.out.keep k1 (fun h => h)).cell 0 (v := .int .u8 id) rfl; have BG := hide bg; have R2 := hide r2; have K1 := hide k1; clear hr bg r1 r2 k1)
    | (go_at_call 78; refine (getx_fd (id := id) _ BG.out R2.out hn).mono ?_; rintro e w2 ⟨A, c, rfl, k2, rd, hnn⟩; have RD := hide (rd.keep0 k2); have HNN := hide hnn; have K2 := hide k2; have H3 := hide ((x2'.out.keep K1.out (fun h => h)).keep k2 (fun h => h)); have f3 := H3.out.free 0; have c3' := H3.out.cell 0 (v := .slice none 0 0) rfl; clear rd hnn k2))
  all_goals
    have kn := fun w => run_neq_slice_nil_any (P := Tryd.prog) w 29 5 A (fdd hd id).length c 0 0 Tryd.underlying29
    have hz0 := KD.out.size
    have hz1 := K1.out.size
    have H4 := hide (H3.out.set_ 0 (.slice A (fdd hd id).length c))
    have c4 := H4.out.cell 0 (v := .slice A (fdd hd id).length c) rfl
    clear c3' f3 i0 i0' x0 x1 x2 x3 x4 x5 x6 x7 x8 x9 x10 x11
    go_wp2_with fail
    go_ret
    refine ⟨A, c, rfl, ?_, H4.out, ?_, HNN.out⟩
    · exact (((KD.out.trans0 K1.out).trans0 K2.out).nul (· = g2)).setg (g := g2) 0 (fun _ => rfl) _
    · exact ((RD.out.mono (q := (w.heap.size ≤ ·)) (fun k _ hk => Nat.le_trans hz0 hk)).keep (Keep.set1 _ _ _ _) (fun i _ hq e => by have : w.heap.size ≤ i := hq; omega))

/-- What the thin package's Get answers. -/
def GetR (w w' : World) (hd : Hd) (id : Int) (e : Ending) : Prop :=
  (fdd hd id = [] ∧ e = .returned (.tuple #[.slice none 0 0, .bool false])) ∨
  ((Fd hd id).isSome = true ∧ ∃ A c, e = .returned (.tuple #[.slice A (fdd hd id).length c, .bool true]) ∧ Rd w' (w.heap.size ≤ ·) 1 (.slice A (fdd hd id).length c) (fdd hd id).length (B8 (fdd hd id)))

set_option maxHeartbeats 1600000 in
theorem get_walk {p : Nat → Prop} {v : Value} {hd : Hd} {id : Int} (w : World) (hh : HV w p v hd) (hs : hd.srcs.length ≤ 2147483647) (hn : hd.exts.length ≤ 2147483647) (hdn : ∀ x ∈ hd.exts, x.data.length ≤ 2147483647) :
    Calls Tryd.prog 37 #[v, .int .u8 id] w fun e w' => GetR w w' hd id e ∧ Keep w w' Nul := by
  have hlen := fdd_len id hdn
  have hh0 := hh
  obtain ⟨sv, xv, rfl, q1, q2⟩ := hh
  obtain ⟨A1, c1, rfl⟩ := q1.shape
  obtain ⟨A2, c2, rfl⟩ := q2.shape
  clear q1 q2
  have b1 := ((Blk.new w 35 (hcells hd (.slice A1 hd.srcs.length c1) (.slice A2 hd.exts.length c2))).alloc (.cells #[.int .u8 id] 5)).alloc (.cells #[.slice none 0 0] 29)
  have b0 := (Blk.new (w.alloc (.cells (hcells hd (.slice A1 hd.srcs.length c1) (.slice A2 hd.exts.length c2)) 35)) 5 #[.int .u8 id]).alloc (.cells #[.slice none 0 0] 29)
  have b2 := Blk.new ((w.alloc (.cells (hcells hd (.slice A1 hd.srcs.length c1) (.slice A2 hd.exts.length c2)) 35)).alloc (.cells #[.int .u8 id] 5)) 29 #[.slice none 0 0]
  simp only [World.size_alloc] at b0 b2
  have kW : Keep w (((w.alloc (.cells (hcells hd (.slice A1 hd.srcs.length c1) (.slice A2 hd.exts.length c2)) 35)).alloc (.cells #[.int .u8 id] 5)).alloc (.cells #[.slice none 0 0] 29)) Nul := (((Keep.refl w _).alloc _).alloc _).alloc _
  have hT := hide (try_any 77 _ (fun b w' => ∃ A c, b = A.isSome ∧ Keep w w' Nul ∧ Blk w' (w.heap.size + 1 + 1) 29 #[.slice A (fdd hd id).length c] ∧ Rd w' (w.heap.size + 4 ≤ ·) 1 (.slice A (fdd hd id).length c) (fdd hd id).length (B8 (fdd hd id)) ∧ (Fd hd id = none → A = none)) _ (fun _ => by kernel_rfl)
    (fun b w1 w2 ⟨A, c, h1, h2, h3, h4, h5⟩ k => by
      simp only [World.size_alloc] at k
      exact ⟨A, c, h1, h2.trans k (fun i hi e => by omega), h3.keep k (by omega), h4.keep k (fun i _ hq e => by have : w.heap.size + 4 ≤ i := hq; omega), h5⟩)
    ((get1_walk _ (hh0.keep0 (kW.alloc (.cells #[.bool false] 4))) hs hn hdn (b1.alloc (.cells #[.bool false] 4)) (b0.alloc (.cells #[.bool false] 4)) (b2.alloc (.cells #[.bool false] 4))).mono (by
      rintro e w' ⟨A, c, rfl, hk, hb, hr, hnn⟩
      simp only [World.size_alloc] at hr
      exact ⟨_, rfl, (Blk.new _ _ _).keep hk (by simp only [World.size_alloc]; omega), A, c, rfl, (kW.alloc _).trans hk (fun i hi e => by omega), hb, hr, hnn⟩)))
  clear kW hh0 hdn b1 b2 b0
  unfold hcells at *
  go_enter Tryd.func37, Tryd.ntmps37
  go_wp2_with fail
  refine (hT.out).mono ?_
  rintro e w1 ⟨b, rfl, A, c, rfl, hk, hb, hr, hnn⟩
  have K1 := hide hk
  have B1 := hide hb
  have f0 := hb.free 0
  have c0 := hb.cell 0 (v := .slice A (fdd hd id).length c) rfl
  have HR := hide hr
  have HNN := hide hnn
  clear hk hb hr hnn
  cases A with
  | none =>
    have c1 := (B1.out.set_ 0 (.slice none 0 0)).cell 0 (v := .slice none 0 0) rfl
    simp only [Option.isSome_none]
    go_wp2_with fail
    refine bodyPost_ret (v := .tuple #[.slice none 0 0, .bool false]) (by simp [results, Tryd.results37, go_sem, c1]) rfl ⟨.inl ⟨?_, rfl⟩, ?_⟩
    · rcases Nat.eq_zero_or_pos (fdd hd id).length with h | h
      · exact List.eq_nil_of_length_eq_zero h
      · obtain ⟨_, _, _, e, _⟩ := HR.out.lit (by omega)
        injection e with e; cases e
    · exact K1.out.setg _ (fun h => by omega) _
  | some A =>
    have hC := hide (clone_b w1 HR.out (B8_one _) (by omega))
    simp only [Option.isSome_some]
    go_wp2_with fail
    refine (hC.out).mono ?_
    rintro e w2 ⟨v2, rfl, o2, k2, -⟩
    obtain ⟨A3, c3, rfl⟩ := o2.rd.shape
    have B2 := hide (B1.out.keep k2 (fun h => h))
    have f2 := B2.out.free 0
    have c2' := B2.out.cell 0 (v := .slice (some A) (fdd hd id).length c) rfl
    have O2 := hide o2
    have K2 := hide (K1.out.trans0 k2)
    have hz := K1.out.size
    have hlt := B1.out.lt
    have hat := hide o2.at_
    clear o2 k2
    have c4 := (B2.out.set_ 0 (.slice A3 (fdd hd id).length c3)).cell 0 (v := .slice A3 (fdd hd id).length c3) rfl
    go_wp2_with fail
    refine bodyPost_ret (v := .tuple #[.slice A3 (fdd hd id).length c3, .bool true]) (by simp [results, Tryd.results37, go_sem, c4]) rfl ⟨.inr ⟨?_, A3, c3, rfl, ?_⟩, ?_⟩
    · cases hF : Fd hd id with
      | none => cases HNN.out hF
      | some x => rfl
    · exact ((O2.out.rdB.mono (q := fun i => w1.heap.size ≤ i) (fun k _ hk => hk)).keep (Keep.set1 _ _ _ _) (fun i _ hq e => by have : w1.heap.size ≤ i := hq; omega)).mono (fun k _ hk => Nat.le_trans hz hk)
    · exact K2.out.setg _ (fun h => by omega) _
end Go.Proofs.YtdmnflngafbobaaDoor
