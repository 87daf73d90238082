/-
  The reference's extensions: what they are written as. Conditions: those that stand in each theorem.
-/
import Derived.Test.YtdmnflngafbobaaDoorWr
import Derived.Deep.Cut
namespace Go.Proofs.YtdmnflngafbobaaDoor
open Go.RowKit
set_option linter.unusedVariables false
set_option linter.unusedSimpArgs false
set_option maxRecDepth 20000

/-- The bytes of an extension, by the profile. -/
def xb (prof : Int) (x : Ex) : List Int :=
  if prof = 48862 then (x.id * 16 + ((x.data.length : Int) - 1)) :: x.data else x.id :: (x.data.length : Int) :: x.data
def xsb (prof : Int) (xs : List Ex) : List Int := xs.flatMap (xb prof)
def pad4 (n : Nat) : List Int := List.replicate ((4 - n % 4) % 4) 0
def own1 (xs : List Ex) : Option (List Int) :=
  match xs with
  | [x] => if x.id = 0 ∧ x.data.length % 4 = 0 then some x.data else none
  | _ => none
def fitsAll (prof : Int) (xs : List Ex) : Bool := xs.all fun x => fitsB prof x.id x.data.length
/-- The bytes of the extensions. -/
def extsB (prof : Int) (xs : List Ex) : Option (List Int) :=
  if plainB prof = false then none
  else if prof ≠ 48862 ∧ prof ≠ 4096 then own1 xs
  else if fitsAll prof xs then some (xsb prof xs ++ pad4 (xsb prof xs).length) else none

def lenOf : Value → Nat
  | .slice _ n _ => n
  | _ => 0
def padM (v : Value) : Nat := (4 - lenOf v % 4) % 4

theorem xsb_snoc (prof : Int) (xs : List Ex) (k : Nat) (x : Ex) (h : xs[k]? = some x) : xsb prof (xs.take (k + 1)) = xsb prof (xs.take k) ++ xb prof x := by
  obtain ⟨hk, rfl⟩ := List.getElem?_eq_some_iff.1 h
  unfold xsb
  rw [List.take_succ_eq_append_getElem hk, List.flatMap_append]
  simp
theorem fitsAll_snoc (prof : Int) (xs : List Ex) (k : Nat) (x : Ex) (h : xs[k]? = some x) : fitsAll prof (xs.take (k + 1)) = (fitsAll prof (xs.take k) && fitsB prof x.id x.data.length) := by
  obtain ⟨hk, rfl⟩ := List.getElem?_eq_some_iff.1 h
  unfold fitsAll
  rw [List.take_succ_eq_append_getElem hk, List.all_append]
  simp
theorem xb_len (prof : Int) (x : Ex) (h : fitsB prof x.id x.data.length = true) (hp : prof = 48862 ∨ prof = 4096) : (xb prof x).length ≤ 257 := by
  rcases hp with rfl | rfl
  · simp [fitsB] at h
    simp [xb]
    omega
  · simp [fitsB] at h
    simp [xb]
    omega
theorem xsb_len (prof : Int) (hp : prof = 48862 ∨ prof = 4096) : ∀ xs : List Ex, fitsAll prof xs = true → (xsb prof xs).length ≤ 257 * xs.length
  | [], _ => by simp [xsb]
  | x :: xs, h => by
    simp only [fitsAll, List.all_cons, Bool.and_eq_true] at h
    have a := xb_len prof x h.1 hp
    have b := xsb_len prof hp xs h.2
    simp only [xsb, List.flatMap_cons, List.length_append, List.length_cons] at b ⊢
    omega

/-- No profile of which something is said. -/
theorem ext_none {p : Nat → Prop} {v : Value} {hd : Hd} (w : World) (hh : HV w p v hd) (hp : plainB hd.prof = false) :
    Calls Tryd.prog 94 #[v] w fun e w' => e = .returned (.tuple #[.slice none 0 0, .bool false]) ∧ Keep w w' Nul := by
  obtain ⟨sv, xv, rfl, h1, h2⟩ := hh
  have bx := Blk.new w 27 (hcells hd sv xv)
  clear h1 h2
  unfold hcells at *
  go_enter Tryd.func94, Tryd.ntmps94
  go_wp2_with fail
  refine (plain_walk _ _).mono ?_
  rintro e w1 ⟨rfl, rfl⟩
  go_wp2_with fail
  go_ret2
  exact ⟨rfl, (Keep.refl _ _).alloc _⟩

theorem ext_one {p : Nat → Prop} {v : Value} {hd : Hd} (w : World) (hh : HV w p v hd) (hok : hd.Ok) (hp : hd.prof = 48862) (hn : hd.exts.length ≤ 2147483647) :
    Calls Tryd.prog 94 #[v] w fun e w' => Keep w w' Nul ∧
      ((fitsAll 48862 hd.exts = false ∧ e = .returned (.tuple #[.slice none 0 0, .bool false])) ∨
       (fitsAll 48862 hd.exts = true ∧ ∃ out, e = .returned (.tuple #[out, .bool true]) ∧ Own w' w.heap.size 5 1 out (xsb 48862 hd.exts ++ pad4 (xsb 48862 hd.exts).length).length (B8 (xsb 48862 hd.exts ++ pad4 (xsb 48862 hd.exts).length)))) := by
  obtain ⟨sv, xv, rfl, h1, h2⟩ := hh
  obtain ⟨A, c, rfl⟩ := h2.shape
  have bx := Blk.new w 27 (hcells hd sv (.slice A hd.exts.length c))
  have H2 := hide (h2.keep0 ((Keep.refl w Nul).alloc (.cells (hcells hd sv (.slice A hd.exts.length c)) 27)))
  have HX := hide hok.exts
  clear h1 h2 hok
  unfold hcells at *
  rw [hp] at *
  have pl : plainB 48862 = true := by decide
  go_enter Tryd.func94, Tryd.ntmps94
  go_wp2_with fail
  refine (plain_walk _ _).mono ?_
  rintro e w1 ⟨rfl, hw⟩
  rw [hw] at H2 bx
  have hB : w1.heap.size = w.heap.size + 1 := by rw [← hw, World.size_alloc]
  have K1 : Hid (Keep w w1 Nul) := hide (by rw [← hw]; exact (Keep.refl _ _).alloc _)
  clear hw
  have BX := hide bx
  have t9 := bx.cell 9 (v := .int .u16 48862) rfl
  have t10 := bx.cell 10 (v := .slice A hd.exts.length c) rfl
  clear bx
  go_wp2_with fail
  go_loopw [4, 49] (fun u i wr => ∃ k : Nat, k ≤ hd.exts.length ∧ i = .int .i64 k ∧ Keep w1 wr Nul ∧ fitsAll 48862 (hd.exts.take k) = true ∧ Own wr w1.heap.size 5 1 u (xsb 48862 (hd.exts.take k)).length (B8 (xsb 48862 (hd.exts.take k)))) (fun _ i _ => hd.exts.length - (intOf i).toNat)
  case atStart => exact ⟨0, Nat.zero_le _, rfl, Keep.refl _ _, rfl, Own.nil_ _ _ _ _⟩
  case round =>
    obtain ⟨k, hk, rfl, hK, hF, hO⟩ := hrel
    by_cases hlt : k < hd.exts.length
    · have hg : hd.exts[k]? = some hd.exts[k] := List.getElem?_eq_getElem _
      obtain ⟨b, o, c', d, hv, q1, q2, q3, q4, p5, p6, q7⟩ := H2.out.at_ hg
      injection hv with e1 _ e3
      subst e1 e3
      have HG := hide hg
      clear hg
      generalize hd.exts[k] = x at *
      obtain ⟨A', c2, rfl⟩ := q7.shape
      have q5 := hK.cell id p5
      have q6 := hK.cell id p6
      have Q7 := hide q7
      have HK := hide hK
      have HF := hide hF
      have HO := hide hO
      have bb := BX.out.keep hK id
      have s9 := bb.cell 9 (v := .int .u16 48862) rfl
      have l9 := bb.lt
      have ne := HO.out.ne_ bb (by decide)
      have hat := hide HO.out.at_
      have BB := hide bb
      clear bb
      clear q7 hK hF hO p5 p6
      go_wp2_with fail
      refine (fits_walk _ _ _ _ _ _).mono ?_
      rintro e w2 ⟨rfl, rfl⟩
      cases hf : fitsB 48862 x.id x.data.length
      · go_wp2_with fail
        go_ret2
        refine ⟨(K1.out.trans0 HK.out).alloc _, .inl ⟨?_, rfl⟩⟩
        rw [Bool.eq_false_iff]
        intro hall
        have := List.all_eq_true.1 hall x (List.mem_of_getElem? HG.out)
        simp [hf] at this
      · have hb := hide (xb_len 48862 x hf (.inl rfl))
        have hid := HX.out x (List.mem_of_getElem? HG.out)
        have hfi : 1 ≤ x.id ∧ x.id ≤ 14 ∧ 1 ≤ x.data.length ∧ x.data.length ≤ 16 := by simpa [fitsB] using hf
        have hF := hide hf
        clear hf
        have eo : bits .or .u8 (x.id * 16) ((x.data.length : Int) - 1) = x.id * 16 + ((x.data.length : Int) - 1) := or8 4 _ _ (by omega) (by omega) (by omega) (by omega) (by decide) (by omega)
        go_upto_region 14 with (fail)
        have hlen := xsb_len 48862 (.inl rfl) _ HF.out
        rw [List.length_take] at hlen
        have hsz := HK.out.size
        go_upto_region 16 with (at_builtin; go_loud (refine wpList_app etB rfl _ _ rfl ((HO.out.alloc _).alloc _) rfl (src_lit (n := 1) Tryd.underlying29 [x.id * 16 + ((x.data.length : Int) - 1)] rfl (by simp only [World.size_alloc]) rfl (by simp [maxLen])) rfl (by simp only [maxLen]; omega) (by omega) (by simp; omega) ?_); intro v1 w2 o1 k1 b1 z1 _)
        have HK2 : Hid (Keep w1 w2 Nul) := hide (((HK.out.alloc _).alloc _).trans k1 fun i hi e => by have := (hat.out i e).1; omega)
        have xb2 := ((Blk.new wr 66 #[.int .u8 x.id, .slice A' x.data.length c2]).alloc (.cells #[.int .u8 (x.id * 16 + ((x.data.length : Int) - 1))] 5)).keep k1 (fun e => by have := (hat.out _ e).2.1; omega)
        have x1 := xb2.cell 1 (v := .slice A' x.data.length c2) rfl
        have xl := xb2.lt
        have HO1 := hide o1
        clear o1 k1 b1 z1 xb2
        go_wp2_with (at_builtin; go_loud (refine wpList_app etB rfl _ _ rfl HO1.out rfl (src_of_rd _ Tryd.underlying29 (Q7.out.keep0 HK2.out) (B8_one _)) rfl (by simp only [maxLen]; omega) (by omega) (by omega) ?_); intro v3 w3 o3 k3 b3 z3 _)
        have hat1 := HO1.out.at_
        have HK3 : Hid (Keep w1 w3 Nul) := hide (HK2.out.trans k3 fun i hi e => by have := (hat1 i e).1; omega)
        clear hat1
        have HO3 := hide o3
        clear o3 k3 b3 z3
        go_roundw
        case rel =>
          have ex : xsb 48862 (hd.exts.take (k + 1)) = xsb 48862 (hd.exts.take k) ++ [x.id * 16 + ((x.data.length : Int) - 1)] ++ x.data := by
            rw [xsb_snoc _ _ _ _ HG.out]; simp [xb]
          refine ⟨k + 1, by omega, by go_num, HK3.out, by rw [fitsAll_snoc _ _ _ _ HG.out, HF.out, hF.out]; rfl, ?_⟩
          have := HO3.out
          rw [← B8_app, ← B8_app] at this
          rw [ex, List.length_append, List.length_append]
          exact this
        case measure => simp [intOf]; omega
    · obtain rfl : k = hd.exts.length := by omega
      rw [List.take_length] at hF hO
      have hlen := xsb_len 48862 (.inl rfl) _ hF
      have HF := hide hF
      have HO := hide hO
      have HK := hide hK
      clear hF hO hK
      generalize hxs : xsb 48862 hd.exts = bs at *
      have HXS := hide hxs
      clear hxs
      obtain ⟨A4, c4, e4⟩ := HO.out.rd.shape
      go_wp2_with fail
      go_loopw [4] (fun u wq => ∃ j : Nat, j ≤ (4 - bs.length % 4) % 4 ∧ Own wq w1.heap.size 5 1 u (bs.length + j) (B8 (bs ++ List.replicate j 0)) ∧ Keep w1 wq Nul) (fun u _ => padM u)
      case atStart => exact ⟨0, Nat.zero_le _, by simpa using HO.out, HK.out⟩
      case round =>
        obtain ⟨j, hj, hO, hK⟩ := hrel
        obtain ⟨A5, c5, rfl⟩ := hO.rd.shape
        have HO5 := hide hO
        have HK5 := hide hK
        clear hO hK HO HK
        have hsz := HK5.out.size
        by_cases hz : (bs.length + j) % 4 = 0
        · have ez : ((bs.length : Int) + (j : Int)) % 4 = 0 := by omega
          have hj0 : j = (4 - bs.length % 4) % 4 := by omega
          go_wp2_with fail
          go_ret2
          refine ⟨K1.out.trans0 HK5.out, .inr ⟨HF.out, _, rfl, ?_⟩⟩
          have := HO5.out.low (B' := w.heap.size) (by omega)
          rw [hj0] at this ⊢
          rw [HXS.out, List.length_append]
          simpa [pad4] using this
        · have ez : (((bs.length : Int) + (j : Int)) % 4 != 0) = true := by simp; omega
          go_wp2_with (at_builtin; go_loud (refine wpList_app etB rfl _ _ rfl (HO5.out.alloc _) rfl (src_lit (n := 1) Tryd.underlying29 [0] rfl (by simp only [World.size_alloc]) rfl (by simp [maxLen])) rfl (by simp only [maxLen]; omega) (by omega) (by simp; omega) ?_); intro v3 w3 o3 k3 b3 z3 _)
          have hat1 := HO5.out.at_
          have HK3 : Hid (Keep w1 w3 Nul) := hide ((HK5.out.alloc _).trans k3 fun i hi e => by have := (hat1 i e).1; omega)
          clear hat1
          have HO3 := hide o3
          clear o3 k3 b3 z3
          obtain ⟨A6, c6, rfl⟩ := HO3.out.rd.shape
          go_roundw
          case rel =>
            refine ⟨j + 1, by omega, ?_, HK3.out⟩
            have := HO3.out
            rw [← B8_app, List.append_assoc] at this
            rw [show List.replicate (j + 1) (0 : Int) = List.replicate j 0 ++ [0] from List.replicate_succ']
            exact this
          case measure => simp [padM, lenOf]; omega
theorem ext_two {p : Nat → Prop} {v : Value} {hd : Hd} (w : World) (hh : HV w p v hd) (hok : hd.Ok) (hp : hd.prof = 4096) (hn : hd.exts.length ≤ 2147483647) :
    Calls Tryd.prog 94 #[v] w fun e w' => Keep w w' Nul ∧
      ((fitsAll 4096 hd.exts = false ∧ e = .returned (.tuple #[.slice none 0 0, .bool false])) ∨
       (fitsAll 4096 hd.exts = true ∧ ∃ out, e = .returned (.tuple #[out, .bool true]) ∧ Own w' w.heap.size 5 1 out (xsb 4096 hd.exts ++ pad4 (xsb 4096 hd.exts).length).length (B8 (xsb 4096 hd.exts ++ pad4 (xsb 4096 hd.exts).length)))) := by
  obtain ⟨sv, xv, rfl, h1, h2⟩ := hh
  obtain ⟨A, c, rfl⟩ := h2.shape
  have bx := Blk.new w 27 (hcells hd sv (.slice A hd.exts.length c))
  have H2 := hide (h2.keep0 ((Keep.refl w Nul).alloc (.cells (hcells hd sv (.slice A hd.exts.length c)) 27)))
  have HX := hide hok.exts
  clear h1 h2 hok
  unfold hcells at *
  rw [hp] at *
  have pl : plainB 4096 = true := by decide
  go_enter Tryd.func94, Tryd.ntmps94
  go_wp2_with fail
  refine (plain_walk _ _).mono ?_
  rintro e w1 ⟨rfl, hw⟩
  rw [hw] at H2 bx
  have hB : w1.heap.size = w.heap.size + 1 := by rw [← hw, World.size_alloc]
  have K1 : Hid (Keep w w1 Nul) := hide (by rw [← hw]; exact (Keep.refl _ _).alloc _)
  clear hw
  have BX := hide bx
  have t9 := bx.cell 9 (v := .int .u16 4096) rfl
  have t10 := bx.cell 10 (v := .slice A hd.exts.length c) rfl
  clear bx
  go_wp2_with fail
  go_loopw [4, 49] (fun u i wr => ∃ k : Nat, k ≤ hd.exts.length ∧ i = .int .i64 k ∧ Keep w1 wr Nul ∧ fitsAll 4096 (hd.exts.take k) = true ∧ Own wr w1.heap.size 5 1 u (xsb 4096 (hd.exts.take k)).length (B8 (xsb 4096 (hd.exts.take k)))) (fun _ i _ => hd.exts.length - (intOf i).toNat)
  case atStart => exact ⟨0, Nat.zero_le _, rfl, Keep.refl _ _, rfl, Own.nil_ _ _ _ _⟩
  case round =>
    obtain ⟨k, hk, rfl, hK, hF, hO⟩ := hrel
    by_cases hlt : k < hd.exts.length
    · have hg : hd.exts[k]? = some hd.exts[k] := List.getElem?_eq_getElem _
      obtain ⟨b, o, c', d, hv, q1, q2, q3, q4, p5, p6, q7⟩ := H2.out.at_ hg
      injection hv with e1 _ e3
      subst e1 e3
      have HG := hide hg
      clear hg
      generalize hd.exts[k] = x at *
      obtain ⟨A', c2, rfl⟩ := q7.shape
      have q5 := hK.cell id p5
      have q6 := hK.cell id p6
      have Q7 := hide q7
      have HK := hide hK
      have HF := hide hF
      have HO := hide hO
      have bb := BX.out.keep hK id
      have s9 := bb.cell 9 (v := .int .u16 4096) rfl
      have l9 := bb.lt
      have ne := HO.out.ne_ bb (by decide)
      have hat := hide HO.out.at_
      have BB := hide bb
      clear bb
      clear q7 hK hF hO p5 p6
      go_wp2_with fail
      refine (fits_walk _ _ _ _ _ _).mono ?_
      rintro e w2 ⟨rfl, rfl⟩
      cases hf : fitsB 4096 x.id x.data.length
      · go_wp2_with fail
        go_ret2
        refine ⟨(K1.out.trans0 HK.out).alloc _, .inl ⟨?_, rfl⟩⟩
        rw [Bool.eq_false_iff]
        intro hall
        have := List.all_eq_true.1 hall x (List.mem_of_getElem? HG.out)
        simp [hf] at this
      · have hb := hide (xb_len 4096 x hf (.inr rfl))
        have hid := HX.out x (List.mem_of_getElem? HG.out)
        have hfi : 1 ≤ x.id ∧ x.data.length ≤ 255 := by simpa [fitsB] using hf
        have hF := hide hf
        clear hf
        go_upto_region 15 with (fail)
        have hlen := xsb_len 4096 (.inr rfl) _ HF.out
        rw [List.length_take] at hlen
        have hsz := HK.out.size
        go_upto_region 16 with (at_builtin; go_loud (refine wpList_app etB rfl _ _ rfl ((HO.out.alloc _).alloc _) rfl (src_lit (n := 2) Tryd.underlying29 [x.id, (x.data.length : Int)] rfl (by simp only [World.size_alloc]) rfl (by simp [maxLen])) rfl (by simp only [maxLen]; omega) (by omega) (by simp; omega) ?_); intro v1 w2 o1 k1 b1 z1 _)
        have HK2 : Hid (Keep w1 w2 Nul) := hide (((HK.out.alloc _).alloc _).trans k1 fun i hi e => by have := (hat.out i e).1; omega)
        have xb2 := ((Blk.new wr 66 #[.int .u8 x.id, .slice A' x.data.length c2]).alloc (.cells #[.int .u8 x.id, .int .u8 (x.data.length : Int)] 5)).keep k1 (fun e => by have := (hat.out _ e).2.1; omega)
        have x1 := xb2.cell 1 (v := .slice A' x.data.length c2) rfl
        have xl := xb2.lt
        have HO1 := hide o1
        clear o1 k1 b1 z1 xb2
        go_wp2_with (at_builtin; go_loud (refine wpList_app etB rfl _ _ rfl HO1.out rfl (src_of_rd _ Tryd.underlying29 (Q7.out.keep0 HK2.out) (B8_one _)) rfl (by simp only [maxLen]; omega) (by omega) (by omega) ?_); intro v3 w3 o3 k3 b3 z3 _)
        have hat1 := HO1.out.at_
        have HK3 : Hid (Keep w1 w3 Nul) := hide (HK2.out.trans k3 fun i hi e => by have := (hat1 i e).1; omega)
        clear hat1
        have HO3 := hide o3
        clear o3 k3 b3 z3
        go_roundw
        case rel =>
          have ex : xsb 4096 (hd.exts.take (k + 1)) = xsb 4096 (hd.exts.take k) ++ [x.id, (x.data.length : Int)] ++ x.data := by
            rw [xsb_snoc _ _ _ _ HG.out]; simp [xb]
          refine ⟨k + 1, by omega, by go_num, HK3.out, by rw [fitsAll_snoc _ _ _ _ HG.out, HF.out, hF.out]; rfl, ?_⟩
          have := HO3.out
          rw [← B8_app, ← B8_app] at this
          rw [ex, List.length_append, List.length_append]
          exact this
        case measure => simp [intOf]; omega
    · obtain rfl : k = hd.exts.length := by omega
      rw [List.take_length] at hF hO
      have hlen := xsb_len 4096 (.inr rfl) _ hF
      have HF := hide hF
      have HO := hide hO
      have HK := hide hK
      clear hF hO hK
      generalize hxs : xsb 4096 hd.exts = bs at *
      have HXS := hide hxs
      clear hxs
      obtain ⟨A4, c4, e4⟩ := HO.out.rd.shape
      go_wp2_with fail
      go_loopw [4] (fun u wq => ∃ j : Nat, j ≤ (4 - bs.length % 4) % 4 ∧ Own wq w1.heap.size 5 1 u (bs.length + j) (B8 (bs ++ List.replicate j 0)) ∧ Keep w1 wq Nul) (fun u _ => padM u)
      case atStart => exact ⟨0, Nat.zero_le _, by simpa using HO.out, HK.out⟩
      case round =>
        obtain ⟨j, hj, hO, hK⟩ := hrel
        obtain ⟨A5, c5, rfl⟩ := hO.rd.shape
        have HO5 := hide hO
        have HK5 := hide hK
        clear hO hK HO HK
        have hsz := HK5.out.size
        by_cases hz : (bs.length + j) % 4 = 0
        · have ez : ((bs.length : Int) + (j : Int)) % 4 = 0 := by omega
          have hj0 : j = (4 - bs.length % 4) % 4 := by omega
          go_wp2_with fail
          go_ret2
          refine ⟨K1.out.trans0 HK5.out, .inr ⟨HF.out, _, rfl, ?_⟩⟩
          have := HO5.out.low (B' := w.heap.size) (by omega)
          rw [hj0] at this ⊢
          rw [HXS.out, List.length_append]
          simpa [pad4] using this
        · have ez : (((bs.length : Int) + (j : Int)) % 4 != 0) = true := by simp; omega
          go_wp2_with (at_builtin; go_loud (refine wpList_app etB rfl _ _ rfl (HO5.out.alloc _) rfl (src_lit (n := 1) Tryd.underlying29 [0] rfl (by simp only [World.size_alloc]) rfl (by simp [maxLen])) rfl (by simp only [maxLen]; omega) (by omega) (by simp; omega) ?_); intro v3 w3 o3 k3 b3 z3 _)
          have hat1 := HO5.out.at_
          have HK3 : Hid (Keep w1 w3 Nul) := hide ((HK5.out.alloc _).trans k3 fun i hi e => by have := (hat1 i e).1; omega)
          clear hat1
          have HO3 := hide o3
          clear o3 k3 b3 z3
          obtain ⟨A6, c6, rfl⟩ := HO3.out.rd.shape
          go_roundw
          case rel =>
            refine ⟨j + 1, by omega, ?_, HK3.out⟩
            have := HO3.out
            rw [← B8_app, List.append_assoc] at this
            rw [show List.replicate (j + 1) (0 : Int) = List.replicate j 0 ++ [0] from List.replicate_succ']
            exact this
          case measure => simp [padM, lenOf]; omega
theorem ext_own {p : Nat → Prop} {v : Value} {hd : Hd} (w : World) (hh : HV w p v hd) (hp : plainB hd.prof = true) (h1 : hd.prof ≠ 48862) (h2 : hd.prof ≠ 4096) :
    Calls Tryd.prog 94 #[v] w fun e w' => Keep w w' Nul ∧ ∃ out, e = .returned (.tuple #[out, .bool (own1 hd.exts).isSome]) ∧ ∀ bs, own1 hd.exts = some bs → Rd w' p 1 out bs.length (B8 bs) := by
  obtain ⟨sv, xv, rfl, _, h2'⟩ := hh
  obtain ⟨A, c, rfl⟩ := h2'.shape
  have bx := Blk.new w 27 (hcells hd sv (.slice A hd.exts.length c))
  have kx := (Keep.refl w Nul).alloc (.cells (hcells hd sv (.slice A hd.exts.length c)) 27)
  have HX := hide (h2'.keep0 kx)
  have HK := hide kx
  clear h2' kx bx
  unfold hcells at *
  have n1 : (hd.prof == 48862) = false := by simpa using h1
  have n2 : (hd.prof == 4096) = false := by simpa using h2
  have m1 : (hd.prof != 48862) = true := by simpa using h1
  have m2 : (hd.prof != 4096) = true := by simpa using h2
  go_enter Tryd.func94, Tryd.ntmps94
  go_wp2_with fail
  refine (plain_walk _ _).mono ?_
  rintro e w1 ⟨rfl, rfl⟩
  by_cases c1 : hd.exts.length = 1
  · obtain ⟨x, hx⟩ := List.length_eq_one_iff.1 c1
    have hg : hd.exts[0]? = some x := by rw [hx]; rfl
    obtain ⟨b, o, c', d, hv, q1, q2, q3, q4, q5, q6, q7⟩ := HX.out.at_ hg
    injection hv with e1 _ e3
    subst e1 e3
    simp only [Nat.zero_mul, Nat.add_zero, Nat.zero_add] at q5 q6
    obtain ⟨A', c2, rfl⟩ := q7.shape
    have Q7 := hide q7
    have l1 : ((hd.exts.length : Int) != 1) = false := by simp [c1]
    have l2 : (0 : Int) < (hd.exts.length : Int) := by omega
    by_cases z1 : x.id = 0
    · have zb : (x.id != 0) = false := by simp [z1]
      by_cases z2 : x.data.length % 4 = 0
      · have zc : ((x.data.length : Int) % 4 != 0) = false := by simp; omega
        have ho : own1 hd.exts = some x.data := by rw [hx]; simp [own1, z1, z2]
        have HO := hide ho
        clear q7 hx ho c1
        go_wp2_with fail
        go_ret2
        exact ⟨HK.out, _, by rw [HO.out]; rfl, fun bs hb => by rw [HO.out] at hb; cases hb; exact Q7.out⟩
      · have zc : ((x.data.length : Int) % 4 != 0) = true := by simp; omega
        have ho : own1 hd.exts = none := by rw [hx]; simp [own1, z1, z2]
        have HO := hide ho
        clear q7 hx ho c1
        go_wp2_with fail
        go_ret2
        exact ⟨HK.out, _, by rw [HO.out]; rfl, fun bs hb => by rw [HO.out] at hb; cases hb⟩
    · have zb : (x.id != 0) = true := by simpa using z1
      have ho : own1 hd.exts = none := by rw [hx]; simp [own1, z1]
      have HO := hide ho
      clear q7 hx ho c1
      go_wp2_with fail
      go_ret2
      exact ⟨HK.out, _, by rw [HO.out]; rfl, fun bs hb => by rw [HO.out] at hb; cases hb⟩
  · have l1 : ((hd.exts.length : Int) != 1) = true := by simp; omega
    have ho : own1 hd.exts = none := by
      unfold own1
      split
      · rename_i h
        rw [h] at c1
        simp at c1
      · rfl
    have HO := hide ho
    clear ho
    go_wp2_with fail
    go_ret2
    exact ⟨HK.out, _, by rw [HO.out]; rfl, fun bs hb => by rw [HO.out] at hb; cases hb⟩

/-- The bytes of the extensions. -/
theorem ext_walk {p : Nat → Prop} {v : Value} {hd : Hd} (w : World) (hh : HV w p v hd) (hok : hd.Ok) (hn : hd.exts.length ≤ 2147483647) :
    Calls Tryd.prog 94 #[v] w fun e w' => Keep w w' Nul ∧ ∃ out, e = .returned (.tuple #[out, .bool (extsB hd.prof hd.exts).isSome]) ∧ ∀ bs, extsB hd.prof hd.exts = some bs → Rd w' (fun k => p k ∨ w.heap.size ≤ k) 1 out bs.length (B8 bs) := by
  cases hp : plainB hd.prof
  · refine (ext_none w hh hp).mono fun e w' ⟨he, hk⟩ => ⟨hk, .slice none 0 0, ?_, fun bs hb => ?_⟩
    · simpa [extsB, hp] using he
    · simp [extsB, hp] at hb
  by_cases h1 : hd.prof = 48862
  · refine (ext_one w hh hok h1 hn).mono fun e w' ⟨hk, h⟩ => ⟨hk, ?_⟩
    rcases h with ⟨hf, he⟩ | ⟨hf, out, he, ho⟩
    · rw [h1] at hp ⊢
      refine ⟨.slice none 0 0, by simpa [extsB, hp, hf] using he, fun bs hb => ?_⟩
      simp [extsB, hp, hf] at hb
    · have e0 : extsB hd.prof hd.exts = some (xsb 48862 hd.exts ++ pad4 (xsb 48862 hd.exts).length) := by rw [h1] at hp ⊢; simp [extsB, hp, hf]
      exact ⟨out, by rw [e0]; exact he, fun bs hb => by rw [e0] at hb; cases hb; exact ho.rdB.mono fun _ _ h => .inr h⟩
  by_cases h2 : hd.prof = 4096
  · refine (ext_two w hh hok h2 hn).mono fun e w' ⟨hk, h⟩ => ⟨hk, ?_⟩
    rcases h with ⟨hf, he⟩ | ⟨hf, out, he, ho⟩
    · rw [h2] at hp ⊢
      refine ⟨.slice none 0 0, by simpa [extsB, hp, hf] using he, fun bs hb => ?_⟩
      simp [extsB, hp, hf] at hb
    · have e0 : extsB hd.prof hd.exts = some (xsb 4096 hd.exts ++ pad4 (xsb 4096 hd.exts).length) := by rw [h2] at hp ⊢; simp [extsB, hp, hf]
      exact ⟨out, by rw [e0]; exact he, fun bs hb => by rw [e0] at hb; cases hb; exact ho.rdB.mono fun _ _ h => .inr h⟩
  · have e0 : extsB hd.prof hd.exts = own1 hd.exts := by simp [extsB, hp, h1, h2]
    rw [e0]
    exact (ext_own w hh hp h1 h2).mono fun e w' ⟨hk, out, he, ho⟩ => ⟨hk, out, he, fun bs hb => (ho bs hb).mono fun _ _ h => .inl h⟩
end Go.Proofs.YtdmnflngafbobaaDoor
