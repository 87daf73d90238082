/-
  The extension with an id. Conditions: those that stand in each theorem.
-/
import Derived.Test.YtdmnflngafbobaaDoorFmh
namespace Go.Proofs.YtdmnflngafbobaaDoor
open Go.RowKit
set_option linter.unusedVariables false
set_option linter.unusedSimpArgs false
set_option maxRecDepth 100000

/-- The place of the first extension with the id. -/
def fi (xs : List Ex) (id : Int) : Option Nat := xs.findIdx? (fun x => decide (x.id = id))
theorem fi_none {xs : List Ex} {id : Int} {k : Nat} (h : ∀ x ∈ xs.take k, x.id ≠ id) (hk : xs.length ≤ k) : fi xs id = none := by
  rw [List.take_of_length_le hk] at h
  simp only [fi, List.findIdx?_eq_none_iff, decide_eq_false_iff_not]
  exact h
theorem fi_some {xs : List Ex} {id : Int} {k : Nat} {x : Ex} (h : ∀ x ∈ xs.take k, x.id ≠ id) (hg : xs[k]? = some x) (hx : x.id = id) : fi xs id = some k := by
  obtain ⟨hk, rfl⟩ := List.getElem?_eq_some_iff.1 hg
  simp only [fi, List.findIdx?_eq_some_iff_getElem, decide_eq_true_eq]
  refine ⟨hk, hx, fun j hj => ?_⟩
  exact h _ (List.mem_take_iff_getElem.2 ⟨j, by omega, rfl⟩)
def fiI : Option Nat → Int
  | none => -1
  | some k => (k : Int)

set_option maxHeartbeats 1600000 in
theorem find_walk {p : Nat → Prop} {v : Value} {hd : Hd} {id : Int} (w : World) (hh : HV w p v hd) (hn : hd.exts.length ≤ 2147483647) :
    Calls Tryd.prog 76 #[v, .int .u8 id] w fun e w' => e = .returned (.int .i64 (fiI (fi hd.exts id))) ∧ Keep w w' Nul := by
  obtain ⟨sv, xv, rfl, h1, h2⟩ := hh
  have H := hide h2
  obtain ⟨A1, c1, rfl⟩ := h1.shape
  obtain ⟨A2, c2, rfl⟩ := h2.shape
  clear h1 h2
  unfold hcells
  go_enter Tryd.func76, Tryd.ntmps76
  go_upto_region 1 with fail
  generalize hwa : World.alloc w _ = wa
  have BX := hide (show Blk wa w.heap.size 27 (hcells hd (.slice A1 hd.srcs.length c1) (.slice A2 hd.exts.length c2)) by subst hwa; exact Blk.new w _ _)
  have KA := hide (show Keep w wa Nul by subst hwa; exact (Keep.refl w Nul).alloc _)
  generalize hv0 : Value.agg _ = v0
  clear hwa hv0
  obtain ⟨x0, x1, x2, x3, x4, x5, x6, x7, x8, x9, x10, x11⟩ := hc12 BX.out
  clear x0 x1 x2 x3 x4 x5 x6 x7 x8 x9 x11
  go_wp2_with fail
  clear x10
  go_loopw [10] (fun i wr => ∃ k : Nat, k ≤ hd.exts.length ∧ i = .int .i64 k ∧ Keep w wr Nul ∧ ∀ x ∈ hd.exts.take k, x.id ≠ id) (fun i _ => hd.exts.length - (intOf i).toNat)
  case atStart => exact ⟨0, Nat.zero_le _, rfl, KA.out, by simp⟩
  case round =>
    obtain ⟨k, hk, rfl, hK, hx⟩ := hrel
    by_cases hlt : k < hd.exts.length
    · have hg : hd.exts[k]? = some hd.exts[k] := List.getElem?_eq_getElem _
      obtain ⟨b, o, c', d, hv, q1, q2, q3, q4, q5, q6, q7⟩ := (H.out.keep0 hK).at_ hg
      injection hv with e1 _ e3
      subst e1 e3
      have HX := hide hx
      have HG := hide hg
      clear hx hg
      generalize hd.exts[k] = x at *
      obtain ⟨A', c3, rfl⟩ := q7.shape
      clear q7
      have HK := hide hK
      clear hK
      by_cases hid : x.id = id
      · rw [hid] at q5
        have HID := hide hid
        clear hid
        go_wp2_with fail
        go_ret
        exact ⟨by rw [fi_some HX.out HG.out HID.out]; rfl, HK.out.alloc _⟩
      · go_wp2_with fail
        go_roundw
        case rel =>
          refine ⟨k + 1, by omega, by go_num, HK.out.alloc _, fun y hy => ?_⟩
          rw [List.take_add_one, HG.out] at hy
          rcases List.mem_append.1 hy with hy | hy
          · exact HX.out y hy
          · obtain rfl : y = x := by simpa using hy
            exact hid
        case measure => simp [intOf]; omega
    · have hkn : k = hd.exts.length := by omega
      have HX := hide hx
      have HK := hide hK
      clear hx hK
      go_wp2_with fail
      go_ret
      exact ⟨by rw [fi_none HX.out (by omega)]; rfl, HK.out⟩

/-- What a search for an id finds. -/
def GX (w : World) (p : Nat → Prop) (hd : Hd) (id : Int) (d : Value) : Prop :=
  ((hd.ext = false ∨ fi hd.exts id = none) ∧ d = .slice none 0 0) ∨ (hd.ext = true ∧ ∃ k x, fi hd.exts id = some k ∧ hd.exts[k]? = some x ∧ Rd w p 1 d x.data.length (B8 x.data))

set_option maxHeartbeats 1600000 in
/-- The library's GetExtension. -/
theorem getx_walk {p : Nat → Prop} {hd : Hd} {id : Int} {sv xv : Value} {off : Int} {g : Nat} {t : TypeId} (w : World) (hB : Blk w g t (rcells hd sv xv off)) (hX : XR w p xv hd.exts) (hn : hd.exts.length ≤ 2147483647) :
    Calls Tryd.prog 78 #[.pointer (some ⟨g, 0, none⟩), .int .u8 id] w fun e w' => ∃ d, e = .returned d ∧ Keep w w' Nul ∧
      GX w p hd id d := by
  have H := hide hX
  obtain ⟨A2, c2, rfl⟩ := hX.shape
  obtain ⟨x0, x1, x2, x3, x4, x5, x6, x7, x8, x9, x10, x11, x12⟩ := rc13 hB
  clear hX hB x0 x1 x3 x4 x5 x6 x7 x8 x9 x11 x12
  cases he : hd.ext
  · rw [he] at x2
    have HEX := hide he
    clear he
    go_enter Tryd.func78, Tryd.ntmps78
    go_wp2_with fail
    go_ret
    exact ⟨_, rfl, Keep.refl _ _, .inl ⟨.inl HEX.out, rfl⟩⟩
  rw [he] at x2
  have HEX := hide he
  clear he
  go_enter Tryd.func78, Tryd.ntmps78
  go_wp2_with fail
  clear x10 x2
  go_loopw [17] (fun i wr => ∃ k : Nat, k ≤ hd.exts.length ∧ i = .int .i64 k ∧ Keep w wr Nul ∧ ∀ x ∈ hd.exts.take k, x.id ≠ id) (fun i _ => hd.exts.length - (intOf i).toNat)
  case atStart => exact ⟨0, Nat.zero_le _, rfl, Keep.refl _ _, by simp⟩
  case round =>
    obtain ⟨k, hk, rfl, hK, hx⟩ := hrel
    by_cases hlt : k < hd.exts.length
    · have hg : hd.exts[k]? = some hd.exts[k] := List.getElem?_eq_getElem _
      obtain ⟨b', o', c'', d', hv', -, -, -, -, q5', q6', q7'⟩ := H.out.at_ hg
      obtain ⟨b, o, c', d, hv, q1, q2, q3, q4, q5, q6, q7⟩ := (H.out.keep0 hK).at_ hg
      injection hv with e1 _ e3
      injection hv' with f1 _ f3
      subst e1 e3
      injection f1 with f1
      injection f1 with f4 f5 f6
      subst f4 f5 f3
      have hdd : d = d' := by
        have := hK.cell (fun h => h) q6'
        rw [q6] at this
        injection this
      subst hdd
      have HX := hide hx
      have HG := hide hg
      have Q7 := hide q7'
      clear hx hg q5' q6' q7' f6
      generalize hd.exts[k] = x at *
      obtain ⟨A', c3, rfl⟩ := q7.shape
      clear q7
      have HK := hide hK
      clear hK
      by_cases hid : x.id = id
      · rw [hid] at q5
        have HID := hide hid
        clear hid
        go_wp2_with fail
        go_ret
        exact ⟨_, rfl, HK.out.alloc _, .inr ⟨HEX.out, k, x, fi_some HX.out HG.out HID.out, HG.out, Q7.out⟩⟩
      · go_wp2_with fail
        go_roundw
        case rel =>
          refine ⟨k + 1, by omega, by go_num, HK.out.alloc _, fun y hy => ?_⟩
          rw [List.take_add_one, HG.out] at hy
          rcases List.mem_append.1 hy with hy | hy
          · exact HX.out y hy
          · obtain rfl : y = x := by simpa using hy
            exact hid
        case measure => simp [intOf]; omega
    · have hkn : k = hd.exts.length := by omega
      have HX := hide hx
      have HK := hide hK
      clear hx hK
      go_wp2_with fail
      go_ret
      exact ⟨_, rfl, HK.out, .inl ⟨.inr (fi_none HX.out (by omega)), rfl⟩⟩
end Go.Proofs.YtdmnflngafbobaaDoor
