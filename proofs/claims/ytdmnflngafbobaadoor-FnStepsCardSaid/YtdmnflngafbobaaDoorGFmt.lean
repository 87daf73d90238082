/-
  What the reference writes: Fits, Plain, p16, p32. Conditions: those that stand in each theorem.
-/
import Derived.Test.YtdmnflngafbobaaDoorGMem
import Derived.Deep.Cut
import Derived.Deep.DeepCutAuto
import Derived.Deep.RegionWith
import Derived.Deep.RegionHeld3
import Derived.Deep.QuietTactic
import Derived.BigQuiet
import Derived.Deep.Light
namespace Go.Proofs.YtdmnflngafbobaaDoor
open Go.RowKit
set_option linter.unusedVariables false
set_option maxRecDepth 20000

/-- Bytes that a literal lays down, to be appended. -/
theorem src_lit {P : Program} {tx e e' : TypeId} (hk : P.underlying tx = some (.slice e')) {w : World} (xs : List Int) {cs : Array Value} {g n : Nat} (hc : cs = (B8 xs).toArray) (hg : g = w.heap.size) (hn : xs.length = n) (hm : n ≤ maxLen) :
    Src P 1 tx (.slice (some ⟨g, 0, none⟩) n n) n (B8 xs) (w.alloc (.cells cs e)) := by
  subst hc hg
  have := (Own.of_lit (e := e) (sz := 1) w (B8 xs).toArray n hm (by simp [B8_len, hn])).rd
  simp only [] at this
  exact src_of_rd _ hk this (B8_one xs)

/-- Fits: an extension of n bytes is one of the profile. -/
def fitsB (p id : Int) (n : Nat) : Bool :=
  if p = 48862 then decide (1 ≤ id ∧ id ≤ 14 ∧ 1 ≤ n ∧ n ≤ 16)
  else if p = 4096 then decide (1 ≤ id ∧ n ≤ 255)
  else decide (id = 0)
def plainB (p : Int) : Bool := decide (p = 48862 ∨ p = 4096 ∨ p < 4096 ∨ (4111 < p ∧ p ≠ 49374 ∧ p ≠ 49886))

theorem fits_walk (w : World) (p id : Int) (A : Option Addr) (n c : Nat) :
    Calls Tryd.prog 35 #[.int .u16 p, .int .u8 id, .slice A n c] w fun e w' => e = .returned (.bool (fitsB p id n)) ∧ w = w' := by
  go_enter Tryd.func35, Tryd.ntmps35
  go_wp2_with fail
  all_goals
    go_ret
    refine ⟨congrArg (fun b => Ending.returned (.bool b)) (Bool.eq_iff_iff.2 ?_), rfl⟩
    simp only [beq_iff_eq, beq_eq_false_iff_ne, ne_eq] at *
    by_cases q1 : p = 48862 <;> by_cases q2 : p = 4096 <;> (try (exfalso; omega)) <;> (try simp [fitsB, q1, q2]) <;> omega

theorem plain_walk (w : World) (p : Int) :
    Calls Tryd.prog 33 #[.int .u16 p] w fun e w' => e = .returned (.bool (plainB p)) ∧ w = w' := by
  go_enter Tryd.func33, Tryd.ntmps33
  go_wp2_with fail
  all_goals
    go_ret
    refine ⟨congrArg (fun b => Ending.returned (.bool b)) (Bool.eq_iff_iff.2 ?_), rfl⟩
    simp only [plainB, decide_eq_true_eq, Bool.false_eq_true, false_iff]
    first | omega | (simp; omega)

/-- A slice of the call's own has grown: what it was may be written, nothing else that was there. -/
def Grew (w w' : World) (v v' : Value) : Prop := Keep w w' (fun k => v.ownBlock = some k) ∧ ∀ g, g < w.heap.size → v'.ownBlock = some g → v.ownBlock = some g
theorem Grew.refl (w : World) (v : Value) : Grew w w v v := ⟨Keep.refl _ _, fun _ _ e => e⟩
theorem Grew.trans {w w1 w2 : World} {v v1 v2 : Value} (h : Grew w w1 v v1) (k : Grew w1 w2 v1 v2) : Grew w w2 v v2 :=
  ⟨h.1.trans k.1 fun i hi e => h.2 i hi e, fun g hg e => h.2 g hg (k.2 g (Nat.lt_of_lt_of_le hg h.1.size) e)⟩
theorem Grew.keep0 {w w1 w2 : World} {v v1 : Value} (h : Grew w w1 v v1) (k : Keep w1 w2 Nul) : Grew w w2 v v1 := ⟨h.1.trans0 k, h.2⟩
theorem Grew.from {w w1 w2 : World} {v v1 : Value} (k : Keep w w1 Nul) (h : Grew w1 w2 v v1) : Grew w w2 v v1 :=
  ⟨(k.nul _).trans h.1 fun _ _ e => e, fun g hg e => h.2 g (Nat.lt_of_lt_of_le hg k.size) e⟩
theorem Grew.of {w w1 : World} {v v1 : Value} (k : Keep w w1 (fun k => v.ownBlock = some k)) (h : v1.ownBlock = v.ownBlock ∨ v1.ownBlock = some w.heap.size) : Grew w w1 v v1 :=
  ⟨k, fun g hg e => by
    rcases h with h | h
    · rw [← h]; exact e
    · rw [h] at e; injection e with e; omega⟩
/-- All of it lies at B or above: what was below stays. -/
theorem Grew.keep {w w1 : World} {v v1 : Value} {B : Nat} {e : TypeId} {sz n : Nat} {xs : List Value} (h : Grew w w1 v v1) (o : Own w B e sz v n xs) {w0 : World} (k0 : Keep w0 w Nul) (hB : w0.heap.size ≤ B) : Keep w0 w1 Nul :=
  k0.trans h.1 fun i hi e => by have := (o.at_ i e).1; omega

def by16 (x : Int) : List Int := [x / 256, x % 256]
def by32 (x : Int) : List Int := by16 (x / 65536) ++ by16 (x % 65536)

theorem p16_walk {B : Nat} {v : Value} {n : Nat} {xs : List Value} (w : World) (x : Int) (h : Own w B 5 1 v n xs) (hx : 0 ≤ x ∧ x < 65536) (hn : n ≤ 70368744177664) (hB : B ≤ w.heap.size) :
    Calls Tryd.prog 93 #[v, .int .u16 x] w fun e w' => ∃ v', e = .returned v' ∧ Own w' B 5 1 v' (n + 2) (xs ++ B8 (by16 x)) ∧ Grew w w' v v' := by
  have hS := src_of_rd (P := Tryd.prog) (w.alloc (.cells #[.int .u8 (x / 256), .int .u8 (x % 256)] 5)) Tryd.underlying29 (Own.of_lit (e := 5) (sz := 1) w #[.int .u8 (x / 256), .int .u8 (x % 256)] 2 (by simp [maxLen]) rfl).rd (B8_one (by16 x))
  obtain ⟨A, c, rfl⟩ := h.rd.shape
  go_enter Tryd.func93, Tryd.ntmps93
  go_wp2_with (at_builtin; go_loud (refine wpList_app etB rfl _ _ rfl (h.alloc _) rfl hS rfl (by simp only [maxLen]; omega) (by omega) (by simp; omega) ?_); intro v' w1 ho1 hk1 hb1 hz1 _)
  go_ret
  exact ⟨_, rfl, ho1, Grew.from ((Keep.refl w _).alloc _) (Grew.of hk1 hb1)⟩

theorem p32_walk {B : Nat} {v : Value} {n : Nat} {xs : List Value} (w : World) (x : Int) (h : Own w B 5 1 v n xs) (hx : 0 ≤ x ∧ x < 4294967296) (hn : n ≤ 70368744177660) (hB : B ≤ w.heap.size) :
    Calls Tryd.prog 92 #[v, .int .u32 x] w fun e w' => ∃ v', e = .returned v' ∧ Own w' B 5 1 v' (n + 4) (xs ++ B8 (by32 x)) ∧ Grew w w' v v' := by
  have hC := hide (p16_walk w (x / 65536) h (by omega) (by omega) hB)
  have hD := fun v' w' (hk : w.heap.size ≤ w'.heap.size) (h : Own w' B 5 1 v' (n + 2) (xs ++ B8 (by16 (x / 65536)))) => p16_walk w' (x % 65536) h (by omega) (by omega) (by omega)
  have HD := hide hD
  obtain ⟨A, c, rfl⟩ := h.rd.shape
  have H := hide h
  clear h hD
  go_enter Tryd.func92, Tryd.ntmps92
  go_wp2_with fail
  refine hC.out.mono ?_
  rintro e w1 ⟨v1, rfl, o1, k1⟩
  have hC2 := hide (HD.out _ _ k1.1.size o1)
  have K1 := hide k1
  have e1 : IntKind.u16.wrap x = x % 65536 := IntKind.wrap_u16 x
  clear o1 k1 HD
  go_wp2_with fail
  refine hC2.out.mono ?_
  rintro e w2 ⟨v2, rfl, o2, k2⟩
  rw [List.append_assoc, ← B8_app] at o2
  have O2 := hide o2
  have K2 := hide k2
  clear o2 k2
  go_wp2_with fail
  go_ret
  exact ⟨_, rfl, O2.out, K1.out.trans K2.out⟩
end Go.Proofs.YtdmnflngafbobaaDoor
namespace Go.Proofs.YtdmnflngafbobaaDoor
open Go.RowKit
set_option linter.unusedVariables false
set_option linter.unusedSimpArgs false
set_option maxRecDepth 20000

/-- The bytes of an extension, by the profile. -/
def xb (prof : Int) (x : Ex) : List Int :=
  if prof = 48862 then (x.id * 16 + ((x.data.length : Int) - 1)) :: x.data else x.id :: (x.data.length : Int) :: x.data
def xsb (prof : Int) (xs : List Ex) : List Int := xs.flatMap (xb prof)
def pad4 (n : Nat) : List Int := List.replicate ((4 - n % 4) % 4) 0
def own1 (xs : List Ex) : Option (List Int) :=
  match xs with
  | [x] => if x.id = 0 ∧ x.data.length % 4 = 0 then some x.data else none
  | _ => none
def fitsAll (prof : Int) (xs : List Ex) : Bool := xs.all fun x => fitsB prof x.id x.data.length
/-- The bytes of the extensions. -/
def extsB (prof : Int) (xs : List Ex) : Option (List Int) :=
  if plainB prof = false then none
  else if prof ≠ 48862 ∧ prof ≠ 4096 then own1 xs
  else if fitsAll prof xs then some (xsb prof xs ++ pad4 (xsb prof xs).length) else none

def lenOf : Value → Nat
  | .slice _ n _ => n
  | _ => 0
def padM (v : Value) : Nat := (4 - lenOf v % 4) % 4

theorem xsb_snoc (prof : Int) (xs : List Ex) (k : Nat) (x : Ex) (h : xs[k]? = some x) : xsb prof (xs.take (k + 1)) = xsb prof (xs.take k) ++ xb prof x := by
  obtain ⟨hk, rfl⟩ := List.getElem?_eq_some_iff.1 h
  unfold xsb
  rw [List.take_succ_eq_append_getElem hk, List.flatMap_append]
  simp
theorem fitsAll_snoc (prof : Int) (xs : List Ex) (k : Nat) (x : Ex) (h : xs[k]? = some x) : fitsAll prof (xs.take (k + 1)) = (fitsAll prof (xs.take k) && fitsB prof x.id x.data.length) := by
  obtain ⟨hk, rfl⟩ := List.getElem?_eq_some_iff.1 h
  unfold fitsAll
  rw [List.take_succ_eq_append_getElem hk, List.all_append]
  simp
theorem xb_len (prof : Int) (x : Ex) (h : fitsB prof x.id x.data.length = true) (hp : prof = 48862 ∨ prof = 4096) : (xb prof x).length ≤ 257 := by
  rcases hp with rfl | rfl
  · simp [fitsB] at h
    simp [xb]
    omega
  · simp [fitsB] at h
    simp [xb]
    omega
theorem xsb_len (prof : Int) (hp : prof = 48862 ∨ prof = 4096) : ∀ xs : List Ex, fitsAll prof xs = true → (xsb prof xs).length ≤ 257 * xs.length
  | [], _ => by simp [xsb]
  | x :: xs, h => by
    simp only [fitsAll, List.all_cons, Bool.and_eq_true] at h
    have a := xb_len prof x h.1 hp
    have b := xsb_len prof hp xs h.2
    simp only [xsb, List.flatMap_cons, List.length_append, List.length_cons] at b ⊢
    omega

/-- No profile of which something is said. -/
theorem ext_none {p : Nat → Prop} {v : Value} {hd : Hd} (w : World) (hh : HV w p v hd) (hp : plainB hd.prof = false) :
    Calls Tryd.prog 94 #[v] w fun e w' => e = .returned (.tuple #[.slice none 0 0, .bool false]) ∧ Keep w w' Nul := by
  obtain ⟨sv, xv, rfl, h1, h2⟩ := hh
  have bx := Blk.new w 27 (hcells hd sv xv)
  clear h1 h2
  unfold hcells at *
  go_enter Tryd.func94, Tryd.ntmps94
  go_wp2_with fail
  refine (plain_walk _ _).mono ?_
  rintro e w1 ⟨rfl, rfl⟩
  go_wp2_with fail
  go_ret2
  exact ⟨rfl, (Keep.refl _ _).alloc _⟩

theorem ext_one {p : Nat → Prop} {v : Value} {hd : Hd} (w : World) (hh : HV w p v hd) (hok : hd.Ok) (hp : hd.prof = 48862) (hn : hd.exts.length ≤ 2147483647) :
    Calls Tryd.prog 94 #[v] w fun e w' => Keep w w' Nul ∧
      ((fitsAll 48862 hd.exts = false ∧ e = .returned (.tuple #[.slice none 0 0, .bool false])) ∨
       (fitsAll 48862 hd.exts = true ∧ ∃ out, e = .returned (.tuple #[out, .bool true]) ∧ Own w' w.heap.size 5 1 out (xsb 48862 hd.exts ++ pad4 (xsb 48862 hd.exts).length).length (B8 (xsb 48862 hd.exts ++ pad4 (xsb 48862 hd.exts).length)))) := by
  obtain ⟨sv, xv, rfl, h1, h2⟩ := hh
  obtain ⟨A, c, rfl⟩ := h2.shape
  have bx := Blk.new w 27 (hcells hd sv (.slice A hd.exts.length c))
  have H2 := hide (h2.keep0 ((Keep.refl w Nul).alloc (.cells (hcells hd sv (.slice A hd.exts.length c)) 27)))
  have HX := hide hok.exts
  clear h1 h2 hok
  unfold hcells at *
  rw [hp] at *
  have pl : plainB 48862 = true := by decide
  go_enter Tryd.func94, Tryd.ntmps94
  go_wp2_with fail
  refine (plain_walk _ _).mono ?_
  rintro e w1 ⟨rfl, hw⟩
  rw [hw] at H2 bx
  have hB : w1.heap.size = w.heap.size + 1 := by rw [← hw, World.size_alloc]
  have K1 : Hid (Keep w w1 Nul) := hide (by rw [← hw]; exact (Keep.refl _ _).alloc _)
  clear hw
  have BX := hide bx
  have t9 := bx.cell 9 (v := .int .u16 48862) rfl
  have t10 := bx.cell 10 (v := .slice A hd.exts.length c) rfl
  clear bx
  go_wp2_with fail
  go_loopw [4, 49] (fun u i wr => ∃ k : Nat, k ≤ hd.exts.length ∧ i = .int .i64 k ∧ Keep w1 wr Nul ∧ fitsAll 48862 (hd.exts.take k) = true ∧ Own wr w1.heap.size 5 1 u (xsb 48862 (hd.exts.take k)).length (B8 (xsb 48862 (hd.exts.take k)))) (fun _ i _ => hd.exts.length - (intOf i).toNat)
  case atStart => exact ⟨0, Nat.zero_le _, rfl, Keep.refl _ _, rfl, Own.nil_ _ _ _ _⟩
  case round =>
    obtain ⟨k, hk, rfl, hK, hF, hO⟩ := hrel
    by_cases hlt : k < hd.exts.length
    · have hg : hd.exts[k]? = some hd.exts[k] := List.getElem?_eq_getElem _
      obtain ⟨b, o, c', d, hv, q1, q2, q3, q4, p5, p6, q7⟩ := H2.out.at_ hg
      injection hv with e1 _ e3
      subst e1 e3
      have HG := hide hg
      clear hg
      generalize hd.exts[k] = x at *
      obtain ⟨A', c2, rfl⟩ := q7.shape
      have q5 := hK.cell id p5
      have q6 := hK.cell id p6
      have Q7 := hide q7
      have HK := hide hK
      have HF := hide hF
      have HO := hide hO
      have bb := BX.out.keep hK id
      have s9 := bb.cell 9 (v := .int .u16 48862) rfl
      have l9 := bb.lt
      have ne := HO.out.ne_ bb (by decide)
      have hat := hide HO.out.at_
      have BB := hide bb
      clear bb
      clear q7 hK hF hO p5 p6
      go_wp2_with fail
      refine (fits_walk _ _ _ _ _ _).mono ?_
      rintro e w2 ⟨rfl, rfl⟩
      cases hf : fitsB 48862 x.id x.data.length
      · go_wp2_with fail
        go_ret2
        refine ⟨(K1.out.trans0 HK.out).alloc _, .inl ⟨?_, rfl⟩⟩
        rw [Bool.eq_false_iff]
        intro hall
        have := List.all_eq_true.1 hall x (List.mem_of_getElem? HG.out)
        simp [hf] at this
      · have hb := hide (xb_len 48862 x hf (.inl rfl))
        have hid := HX.out x (List.mem_of_getElem? HG.out)
        have hfi : 1 ≤ x.id ∧ x.id ≤ 14 ∧ 1 ≤ x.data.length ∧ x.data.length ≤ 16 := by simpa [fitsB] using hf
        have hF := hide hf
        clear hf
        have eo : bits .or .u8 (x.id * 16) ((x.data.length : Int) - 1) = x.id * 16 + ((x.data.length : Int) - 1) := or8 4 _ _ (by omega) (by omega) (by omega) (by omega) (by decide) (by omega)
        go_upto_region 14 with (fail)
        have hlen := xsb_len 48862 (.inl rfl) _ HF.out
        rw [List.length_take] at hlen
        have hsz := HK.out.size
        go_upto_region 16 with (at_builtin; go_loud (refine wpList_app etB rfl _ _ rfl ((HO.out.alloc _).alloc _) rfl (src_lit (n := 1) Tryd.underlying29 [x.id * 16 + ((x.data.length : Int) - 1)] rfl (by simp only [World.size_alloc]) rfl (by simp [maxLen])) rfl (by simp only [maxLen]; omega) (by omega) (by simp; omega) ?_); intro v1 w2 o1 k1 b1 z1 _)
        have HK2 : Hid (Keep w1 w2 Nul) := hide (((HK.out.alloc _).alloc _).trans k1 fun i hi e => by have := (hat.out i e).1; omega)
        have xb2 := ((Blk.new wr 66 #[.int .u8 x.id, .slice A' x.data.length c2]).alloc (.cells #[.int .u8 (x.id * 16 + ((x.data.length : Int) - 1))] 5)).keep k1 (fun e => by have := (hat.out _ e).2.1; omega)
        have x1 := xb2.cell 1 (v := .slice A' x.data.length c2) rfl
        have xl := xb2.lt
        have HO1 := hide o1
        clear o1 k1 b1 z1 xb2
        go_wp2_with (at_builtin; go_loud (refine wpList_app etB rfl _ _ rfl HO1.out rfl (src_of_rd _ Tryd.underlying29 (Q7.out.keep0 HK2.out) (B8_one _)) rfl (by simp only [maxLen]; omega) (by omega) (by omega) ?_); intro v3 w3 o3 k3 b3 z3 _)
        have hat1 := HO1.out.at_
        have HK3 : Hid (Keep w1 w3 Nul) := hide (HK2.out.trans k3 fun i hi e => by have := (hat1 i e).1; omega)
        clear hat1
        have HO3 := hide o3
        clear o3 k3 b3 z3
        go_roundw
        case rel =>
          have ex : xsb 48862 (hd.exts.take (k + 1)) = xsb 48862 (hd.exts.take k) ++ [x.id * 16 + ((x.data.length : Int) - 1)] ++ x.data := by
            rw [xsb_snoc _ _ _ _ HG.out]; simp [xb]
          refine ⟨k + 1, by omega, by go_num, HK3.out, by rw [fitsAll_snoc _ _ _ _ HG.out, HF.out, hF.out]; rfl, ?_⟩
          have := HO3.out
          rw [← B8_app, ← B8_app] at this
          rw [ex, List.length_append, List.length_append]
          exact this
        case measure => simp [intOf]; omega
    · obtain rfl : k = hd.exts.length := by omega
      rw [List.take_length] at hF hO
      have hlen := xsb_len 48862 (.inl rfl) _ hF
      have HF := hide hF
      have HO := hide hO
      have HK := hide hK
      clear hF hO hK
      generalize hxs : xsb 48862 hd.exts = bs at *
      have HXS := hide hxs
      clear hxs
      obtain ⟨A4, c4, e4⟩ := HO.out.rd.shape
      go_wp2_with fail
      go_loopw [4] (fun u wq => ∃ j : Nat, j ≤ (4 - bs.length % 4) % 4 ∧ Own wq w1.heap.size 5 1 u (bs.length + j) (B8 (bs ++ List.replicate j 0)) ∧ Keep w1 wq Nul) (fun u _ => padM u)
      case atStart => exact ⟨0, Nat.zero_le _, by simpa using HO.out, HK.out⟩
      case round =>
        obtain ⟨j, hj, hO, hK⟩ := hrel
        obtain ⟨A5, c5, rfl⟩ := hO.rd.shape
        have HO5 := hide hO
        have HK5 := hide hK
        clear hO hK HO HK
        have hsz := HK5.out.size
        by_cases hz : (bs.length + j) % 4 = 0
        · have ez : ((bs.length : Int) + (j : Int)) % 4 = 0 := by omega
          have hj0 : j = (4 - bs.length % 4) % 4 := by omega
          go_wp2_with fail
          go_ret2
          refine ⟨K1.out.trans0 HK5.out, .inr ⟨HF.out, _, rfl, ?_⟩⟩
          have := HO5.out.low (B' := w.heap.size) (by omega)
          rw [hj0] at this ⊢
          rw [HXS.out, List.length_append]
          simpa [pad4] using this
        · have ez : (((bs.length : Int) + (j : Int)) % 4 != 0) = true := by simp; omega
          go_wp2_with (at_builtin; go_loud (refine wpList_app etB rfl _ _ rfl (HO5.out.alloc _) rfl (src_lit (n := 1) Tryd.underlying29 [0] rfl (by simp only [World.size_alloc]) rfl (by simp [maxLen])) rfl (by simp only [maxLen]; omega) (by omega) (by simp; omega) ?_); intro v3 w3 o3 k3 b3 z3 _)
          have hat1 := HO5.out.at_
          have HK3 : Hid (Keep w1 w3 Nul) := hide ((HK5.out.alloc _).trans k3 fun i hi e => by have := (hat1 i e).1; omega)
          clear hat1
          have HO3 := hide o3
          clear o3 k3 b3 z3
          obtain ⟨A6, c6, rfl⟩ := HO3.out.rd.shape
          go_roundw
          case rel =>
            refine ⟨j + 1, by omega, ?_, HK3.out⟩
            have := HO3.out
            rw [← B8_app, List.append_assoc] at this
            rw [show List.replicate (j + 1) (0 : Int) = List.replicate j 0 ++ [0] from List.replicate_succ']
            exact this
          case measure => simp [padM, lenOf]; omega
theorem ext_two {p : Nat → Prop} {v : Value} {hd : Hd} (w : World) (hh : HV w p v hd) (hok : hd.Ok) (hp : hd.prof = 4096) (hn : hd.exts.length ≤ 2147483647) :
    Calls Tryd.prog 94 #[v] w fun e w' => Keep w w' Nul ∧
      ((fitsAll 4096 hd.exts = false ∧ e = .returned (.tuple #[.slice none 0 0, .bool false])) ∨
       (fitsAll 4096 hd.exts = true ∧ ∃ out, e = .returned (.tuple #[out, .bool true]) ∧ Own w' w.heap.size 5 1 out (xsb 4096 hd.exts ++ pad4 (xsb 4096 hd.exts).length).length (B8 (xsb 4096 hd.exts ++ pad4 (xsb 4096 hd.exts).length)))) := by
  obtain ⟨sv, xv, rfl, h1, h2⟩ := hh
  obtain ⟨A, c, rfl⟩ := h2.shape
  have bx := Blk.new w 27 (hcells hd sv (.slice A hd.exts.length c))
  have H2 := hide (h2.keep0 ((Keep.refl w Nul).alloc (.cells (hcells hd sv (.slice A hd.exts.length c)) 27)))
  have HX := hide hok.exts
  clear h1 h2 hok
  unfold hcells at *
  rw [hp] at *
  have pl : plainB 4096 = true := by decide
  go_enter Tryd.func94, Tryd.ntmps94
  go_wp2_with fail
  refine (plain_walk _ _).mono ?_
  rintro e w1 ⟨rfl, hw⟩
  rw [hw] at H2 bx
  have hB : w1.heap.size = w.heap.size + 1 := by rw [← hw, World.size_alloc]
  have K1 : Hid (Keep w w1 Nul) := hide (by rw [← hw]; exact (Keep.refl _ _).alloc _)
  clear hw
  have BX := hide bx
  have t9 := bx.cell 9 (v := .int .u16 4096) rfl
  have t10 := bx.cell 10 (v := .slice A hd.exts.length c) rfl
  clear bx
  go_wp2_with fail
  go_loopw [4, 49] (fun u i wr => ∃ k : Nat, k ≤ hd.exts.length ∧ i = .int .i64 k ∧ Keep w1 wr Nul ∧ fitsAll 4096 (hd.exts.take k) = true ∧ Own wr w1.heap.size 5 1 u (xsb 4096 (hd.exts.take k)).length (B8 (xsb 4096 (hd.exts.take k)))) (fun _ i _ => hd.exts.length - (intOf i).toNat)
  case atStart => exact ⟨0, Nat.zero_le _, rfl, Keep.refl _ _, rfl, Own.nil_ _ _ _ _⟩
  case round =>
    obtain ⟨k, hk, rfl, hK, hF, hO⟩ := hrel
    by_cases hlt : k < hd.exts.length
    · have hg : hd.exts[k]? = some hd.exts[k] := List.getElem?_eq_getElem _
      obtain ⟨b, o, c', d, hv, q1, q2, q3, q4, p5, p6, q7⟩ := H2.out.at_ hg
      injection hv with e1 _ e3
      subst e1 e3
      have HG := hide hg
      clear hg
      generalize hd.exts[k] = x at *
      obtain ⟨A', c2, rfl⟩ := q7.shape
      have q5 := hK.cell id p5
      have q6 := hK.cell id p6
      have Q7 := hide q7
      have HK := hide hK
      have HF := hide hF
      have HO := hide hO
      have bb := BX.out.keep hK id
      have s9 := bb.cell 9 (v := .int .u16 4096) rfl
      have l9 := bb.lt
      have ne := HO.out.ne_ bb (by decide)
      have hat := hide HO.out.at_
      have BB := hide bb
      clear bb
      clear q7 hK hF hO p5 p6
      go_wp2_with fail
      refine (fits_walk _ _ _ _ _ _).mono ?_
      rintro e w2 ⟨rfl, rfl⟩
      cases hf : fitsB 4096 x.id x.data.length
      · go_wp2_with fail
        go_ret2
        refine ⟨(K1.out.trans0 HK.out).alloc _, .inl ⟨?_, rfl⟩⟩
        rw [Bool.eq_false_iff]
        intro hall
        have := List.all_eq_true.1 hall x (List.mem_of_getElem? HG.out)
        simp [hf] at this
      · have hb := hide (xb_len 4096 x hf (.inr rfl))
        have hid := HX.out x (List.mem_of_getElem? HG.out)
        have hfi : 1 ≤ x.id ∧ x.data.length ≤ 255 := by simpa [fitsB] using hf
        have hF := hide hf
        clear hf
        go_upto_region 15 with (fail)
        have hlen := xsb_len 4096 (.inr rfl) _ HF.out
        rw [List.length_take] at hlen
        have hsz := HK.out.size
        go_upto_region 16 with (at_builtin; go_loud (refine wpList_app etB rfl _ _ rfl ((HO.out.alloc _).alloc _) rfl (src_lit (n := 2) Tryd.underlying29 [x.id, (x.data.length : Int)] rfl (by simp only [World.size_alloc]) rfl (by simp [maxLen])) rfl (by simp only [maxLen]; omega) (by omega) (by simp; omega) ?_); intro v1 w2 o1 k1 b1 z1 _)
        have HK2 : Hid (Keep w1 w2 Nul) := hide (((HK.out.alloc _).alloc _).trans k1 fun i hi e => by have := (hat.out i e).1; omega)
        have xb2 := ((Blk.new wr 66 #[.int .u8 x.id, .slice A' x.data.length c2]).alloc (.cells #[.int .u8 x.id, .int .u8 (x.data.length : Int)] 5)).keep k1 (fun e => by have := (hat.out _ e).2.1; omega)
        have x1 := xb2.cell 1 (v := .slice A' x.data.length c2) rfl
        have xl := xb2.lt
        have HO1 := hide o1
        clear o1 k1 b1 z1 xb2
        go_wp2_with (at_builtin; go_loud (refine wpList_app etB rfl _ _ rfl HO1.out rfl (src_of_rd _ Tryd.underlying29 (Q7.out.keep0 HK2.out) (B8_one _)) rfl (by simp only [maxLen]; omega) (by omega) (by omega) ?_); intro v3 w3 o3 k3 b3 z3 _)
        have hat1 := HO1.out.at_
        have HK3 : Hid (Keep w1 w3 Nul) := hide (HK2.out.trans k3 fun i hi e => by have := (hat1 i e).1; omega)
        clear hat1
        have HO3 := hide o3
        clear o3 k3 b3 z3
        go_roundw
        case rel =>
          have ex : xsb 4096 (hd.exts.take (k + 1)) = xsb 4096 (hd.exts.take k) ++ [x.id, (x.data.length : Int)] ++ x.data := by
            rw [xsb_snoc _ _ _ _ HG.out]; simp [xb]
          refine ⟨k + 1, by omega, by go_num, HK3.out, by rw [fitsAll_snoc _ _ _ _ HG.out, HF.out, hF.out]; rfl, ?_⟩
          have := HO3.out
          rw [← B8_app, ← B8_app] at this
          rw [ex, List.length_append, List.length_append]
          exact this
        case measure => simp [intOf]; omega
    · obtain rfl : k = hd.exts.length := by omega
      rw [List.take_length] at hF hO
      have hlen := xsb_len 4096 (.inr rfl) _ hF
      have HF := hide hF
      have HO := hide hO
      have HK := hide hK
      clear hF hO hK
      generalize hxs : xsb 4096 hd.exts = bs at *
      have HXS := hide hxs
      clear hxs
      obtain ⟨A4, c4, e4⟩ := HO.out.rd.shape
      go_wp2_with fail
      go_loopw [4] (fun u wq => ∃ j : Nat, j ≤ (4 - bs.length % 4) % 4 ∧ Own wq w1.heap.size 5 1 u (bs.length + j) (B8 (bs ++ List.replicate j 0)) ∧ Keep w1 wq Nul) (fun u _ => padM u)
      case atStart => exact ⟨0, Nat.zero_le _, by simpa using HO.out, HK.out⟩
      case round =>
        obtain ⟨j, hj, hO, hK⟩ := hrel
        obtain ⟨A5, c5, rfl⟩ := hO.rd.shape
        have HO5 := hide hO
        have HK5 := hide hK
        clear hO hK HO HK
        have hsz := HK5.out.size
        by_cases hz : (bs.length + j) % 4 = 0
        · have ez : ((bs.length : Int) + (j : Int)) % 4 = 0 := by omega
          have hj0 : j = (4 - bs.length % 4) % 4 := by omega
          go_wp2_with fail
          go_ret2
          refine ⟨K1.out.trans0 HK5.out, .inr ⟨HF.out, _, rfl, ?_⟩⟩
          have := HO5.out.low (B' := w.heap.size) (by omega)
          rw [hj0] at this ⊢
          rw [HXS.out, List.length_append]
          simpa [pad4] using this
        · have ez : (((bs.length : Int) + (j : Int)) % 4 != 0) = true := by simp; omega
          go_wp2_with (at_builtin; go_loud (refine wpList_app etB rfl _ _ rfl (HO5.out.alloc _) rfl (src_lit (n := 1) Tryd.underlying29 [0] rfl (by simp only [World.size_alloc]) rfl (by simp [maxLen])) rfl (by simp only [maxLen]; omega) (by omega) (by simp; omega) ?_); intro v3 w3 o3 k3 b3 z3 _)
          have hat1 := HO5.out.at_
          have HK3 : Hid (Keep w1 w3 Nul) := hide ((HK5.out.alloc _).trans k3 fun i hi e => by have := (hat1 i e).1; omega)
          clear hat1
          have HO3 := hide o3
          clear o3 k3 b3 z3
          obtain ⟨A6, c6, rfl⟩ := HO3.out.rd.shape
          go_roundw
          case rel =>
            refine ⟨j + 1, by omega, ?_, HK3.out⟩
            have := HO3.out
            rw [← B8_app, List.append_assoc] at this
            rw [show List.replicate (j + 1) (0 : Int) = List.replicate j 0 ++ [0] from List.replicate_succ']
            exact this
          case measure => simp [padM, lenOf]; omega
theorem ext_own {p : Nat → Prop} {v : Value} {hd : Hd} (w : World) (hh : HV w p v hd) (hp : plainB hd.prof = true) (h1 : hd.prof ≠ 48862) (h2 : hd.prof ≠ 4096) :
    Calls Tryd.prog 94 #[v] w fun e w' => Keep w w' Nul ∧ ∃ out, e = .returned (.tuple #[out, .bool (own1 hd.exts).isSome]) ∧ ∀ bs, own1 hd.exts = some bs → Rd w' p 1 out bs.length (B8 bs) := by
  obtain ⟨sv, xv, rfl, _, h2'⟩ := hh
  obtain ⟨A, c, rfl⟩ := h2'.shape
  have bx := Blk.new w 27 (hcells hd sv (.slice A hd.exts.length c))
  have kx := (Keep.refl w Nul).alloc (.cells (hcells hd sv (.slice A hd.exts.length c)) 27)
  have HX := hide (h2'.keep0 kx)
  have HK := hide kx
  clear h2' kx bx
  unfold hcells at *
  have n1 : (hd.prof == 48862) = false := by simpa using h1
  have n2 : (hd.prof == 4096) = false := by simpa using h2
  have m1 : (hd.prof != 48862) = true := by simpa using h1
  have m2 : (hd.prof != 4096) = true := by simpa using h2
  go_enter Tryd.func94, Tryd.ntmps94
  go_wp2_with fail
  refine (plain_walk _ _).mono ?_
  rintro e w1 ⟨rfl, rfl⟩
  by_cases c1 : hd.exts.length = 1
  · obtain ⟨x, hx⟩ := List.length_eq_one_iff.1 c1
    have hg : hd.exts[0]? = some x := by rw [hx]; rfl
    obtain ⟨b, o, c', d, hv, q1, q2, q3, q4, q5, q6, q7⟩ := HX.out.at_ hg
    injection hv with e1 _ e3
    subst e1 e3
    simp only [Nat.zero_mul, Nat.add_zero, Nat.zero_add] at q5 q6
    obtain ⟨A', c2, rfl⟩ := q7.shape
    have Q7 := hide q7
    have l1 : ((hd.exts.length : Int) != 1) = false := by simp [c1]
    have l2 : (0 : Int) < (hd.exts.length : Int) := by omega
    by_cases z1 : x.id = 0
    · have zb : (x.id != 0) = false := by simp [z1]
      by_cases z2 : x.data.length % 4 = 0
      · have zc : ((x.data.length : Int) % 4 != 0) = false := by simp; omega
        have ho : own1 hd.exts = some x.data := by rw [hx]; simp [own1, z1, z2]
        have HO := hide ho
        clear q7 hx ho c1
        go_wp2_with fail
        go_ret2
        exact ⟨HK.out, _, by rw [HO.out]; rfl, fun bs hb => by rw [HO.out] at hb; cases hb; exact Q7.out⟩
      · have zc : ((x.data.length : Int) % 4 != 0) = true := by simp; omega
        have ho : own1 hd.exts = none := by rw [hx]; simp [own1, z1, z2]
        have HO := hide ho
        clear q7 hx ho c1
        go_wp2_with fail
        go_ret2
        exact ⟨HK.out, _, by rw [HO.out]; rfl, fun bs hb => by rw [HO.out] at hb; cases hb⟩
    · have zb : (x.id != 0) = true := by simpa using z1
      have ho : own1 hd.exts = none := by rw [hx]; simp [own1, z1]
      have HO := hide ho
      clear q7 hx ho c1
      go_wp2_with fail
      go_ret2
      exact ⟨HK.out, _, by rw [HO.out]; rfl, fun bs hb => by rw [HO.out] at hb; cases hb⟩
  · have l1 : ((hd.exts.length : Int) != 1) = true := by simp; omega
    have ho : own1 hd.exts = none := by
      unfold own1
      split
      · rename_i h
        rw [h] at c1
        simp at c1
      · rfl
    have HO := hide ho
    clear ho
    go_wp2_with fail
    go_ret2
    exact ⟨HK.out, _, by rw [HO.out]; rfl, fun bs hb => by rw [HO.out] at hb; cases hb⟩

/-- The bytes of the extensions. -/
theorem ext_walk {p : Nat → Prop} {v : Value} {hd : Hd} (w : World) (hh : HV w p v hd) (hok : hd.Ok) (hn : hd.exts.length ≤ 2147483647) :
    Calls Tryd.prog 94 #[v] w fun e w' => Keep w w' Nul ∧ ∃ out, e = .returned (.tuple #[out, .bool (extsB hd.prof hd.exts).isSome]) ∧ ∀ bs, extsB hd.prof hd.exts = some bs → Rd w' (fun k => p k ∨ w.heap.size ≤ k) 1 out bs.length (B8 bs) := by
  cases hp : plainB hd.prof
  · refine (ext_none w hh hp).mono fun e w' ⟨he, hk⟩ => ⟨hk, .slice none 0 0, ?_, fun bs hb => ?_⟩
    · simpa [extsB, hp] using he
    · simp [extsB, hp] at hb
  by_cases h1 : hd.prof = 48862
  · refine (ext_one w hh hok h1 hn).mono fun e w' ⟨hk, h⟩ => ⟨hk, ?_⟩
    rcases h with ⟨hf, he⟩ | ⟨hf, out, he, ho⟩
    · rw [h1] at hp ⊢
      refine ⟨.slice none 0 0, by simpa [extsB, hp, hf] using he, fun bs hb => ?_⟩
      simp [extsB, hp, hf] at hb
    · have e0 : extsB hd.prof hd.exts = some (xsb 48862 hd.exts ++ pad4 (xsb 48862 hd.exts).length) := by rw [h1] at hp ⊢; simp [extsB, hp, hf]
      exact ⟨out, by rw [e0]; exact he, fun bs hb => by rw [e0] at hb; cases hb; exact ho.rdB.mono fun _ _ h => .inr h⟩
  by_cases h2 : hd.prof = 4096
  · refine (ext_two w hh hok h2 hn).mono fun e w' ⟨hk, h⟩ => ⟨hk, ?_⟩
    rcases h with ⟨hf, he⟩ | ⟨hf, out, he, ho⟩
    · rw [h2] at hp ⊢
      refine ⟨.slice none 0 0, by simpa [extsB, hp, hf] using he, fun bs hb => ?_⟩
      simp [extsB, hp, hf] at hb
    · have e0 : extsB hd.prof hd.exts = some (xsb 4096 hd.exts ++ pad4 (xsb 4096 hd.exts).length) := by rw [h2] at hp ⊢; simp [extsB, hp, hf]
      exact ⟨out, by rw [e0]; exact he, fun bs hb => by rw [e0] at hb; cases hb; exact ho.rdB.mono fun _ _ h => .inr h⟩
  · have e0 : extsB hd.prof hd.exts = own1 hd.exts := by simp [extsB, hp, h1, h2]
    rw [e0]
    exact (ext_own w hh hp h1 h2).mono fun e w' ⟨hk, out, he, ho⟩ => ⟨hk, out, he, fun bs hb => (ho bs hb).mono fun _ _ h => .inl h⟩
end Go.Proofs.YtdmnflngafbobaaDoor
namespace Go.Proofs.YtdmnflngafbobaaDoor
open Go.RowKit
set_option linter.unusedVariables false
set_option linter.unusedSimpArgs false
set_option maxRecDepth 20000

theorem Own.drew {w : World} {B : Nat} {e : TypeId} {sz n : Nat} {v : Value} {xs : List Value} (h : Own w B e sz v n xs) : Own w.drew B e sz v n xs := h.keep0 ((Keep.refl w Nul).drew)

def hb0 (h : Hd) : Int := 128 + h.srcs.length + (if h.pad then 32 else 0) + (if h.ext then 16 else 0)
def hb1 (h : Hd) : Int := h.ty + (if h.mark then 128 else 0)
/-- The bytes of a header ahead of its extensions. -/
def headB (h : Hd) : List Int := hb0 h :: hb1 h :: (by16 h.seq ++ by32 h.time ++ by32 h.ssrc ++ h.srcs.flatMap by32)
def badB (h : Hd) : Prop := h.v ≠ 2 ∨ 15 < h.srcs.length ∨ 127 < h.ty ∨ (h.ext = false ∧ h.exts ≠ []) ∨ h.pad ≠ decide (0 < h.padn)
instance (h : Hd) : Decidable (badB h) := by unfold badB; infer_instance
/-- The bytes of a header. -/
def fmtB (h : Hd) : Option (List Int) :=
  if badB h then none
  else if h.ext = false then some (headB h)
  else match extsB h.prof h.exts with
    | none => none
    | some e => if 262140 < e.length then none else some (headB h ++ by16 h.prof ++ by16 (e.length / 4) ++ e)

set_option maxHeartbeats 3200000 in
theorem fmt_bad {p : Nat → Prop} {v : Value} {hd : Hd} (w : World) (hh : HV w p v hd) (hb : badB hd) :
    Calls Tryd.prog 51 #[v] w fun e w' => Keep w w' Nul ∧ e = .returned (.tuple #[.slice none 0 0, .bool false]) := by
  obtain ⟨sv, xv, rfl, h1, h2⟩ := hh
  obtain ⟨A1, c1, rfl⟩ := h1.shape
  obtain ⟨A2, c2, rfl⟩ := h2.shape
  have HB := hide hb
  clear h1 h2 hb
  unfold hcells at *
  go_enter Tryd.func51, Tryd.ntmps51
  go_upto_region 3 with fail
  all_goals first
    | (go_ret2; exact ⟨(Keep.refl _ _).alloc _, rfl⟩)
    | skip
  all_goals go_light
  all_goals
    exfalso
    have hb := HB.out
    have hp : 0 < hd.exts.length ↔ hd.exts ≠ [] := List.length_pos_iff
    clear HB
    unfold badB at hb
    cases hpd : hd.pad <;> by_cases hq : 0 < hd.padn <;> simp_all <;> omega

theorem or_pad : ∀ n : Nat, n < 16 → bits .or .u8 (128 + (n : Int)) 32 = 128 + (n : Int) + 32 := by decide +kernel
theorem or_ext0 : ∀ n : Nat, n < 16 → bits .or .u8 (128 + (n : Int)) 16 = 128 + (n : Int) + 16 := by decide +kernel
theorem or_ext1 : ∀ n : Nat, n < 16 → bits .or .u8 (128 + (n : Int) + 32) 16 = 128 + (n : Int) + 32 + 16 := by decide +kernel

theorem good_of {hd : Hd} (hb : ¬ badB hd) : hd.v = 2 ∧ (hd.srcs.length : Int) ≤ 15 ∧ hd.ty ≤ 127 ∧ (hd.ext = false → hd.exts = []) ∧ (!hd.pad == decide (0 < hd.padn)) = false := by
  unfold badB at hb
  refine ⟨by omega, by omega, by omega, fun he => ?_, ?_⟩
  · by_cases q : hd.exts = []
    · exact q
    · exact absurd (.inr (.inr (.inr (.inl ⟨he, q⟩)))) hb
  · have : hd.pad = decide (0 < hd.padn) := by
      by_cases q : hd.pad = decide (0 < hd.padn)
      · exact q
      · exact absurd (.inr (.inr (.inr (.inr q)))) hb
    rw [this]; simp

set_option maxHeartbeats 3200000 in
theorem fmt_ext {p : Nat → Prop} {v : Value} {hd : Hd} (w : World) (hh : HV w p v hd) (hok : hd.Ok) (hb : ¬ badB hd) (he : hd.ext = true) (hn : hd.exts.length ≤ 2147483647) :
    Calls Tryd.prog 51 #[v] w fun e w' => Keep w w' Nul ∧
      ((extsB hd.prof hd.exts = none ∧ e = .returned (.tuple #[.slice none 0 0, .bool false])) ∨
       ∃ es, extsB hd.prof hd.exts = some es ∧ ((262140 < es.length ∧ e = .returned (.tuple #[.slice none 0 0, .bool false])) ∨
        (es.length ≤ 262140 ∧ ∃ out, e = .returned (.tuple #[out, .bool true]) ∧ Own w' w.heap.size 5 1 out (headB hd ++ by16 hd.prof ++ by16 (es.length / 4) ++ es).length (B8 (headB hd ++ by16 hd.prof ++ by16 (es.length / 4) ++ es))))) := by
  obtain ⟨sv, xv, rfl, h1, h2⟩ := hh.mono (q := (· < w.heap.size)) (fun k hk _ => hk)
  obtain ⟨A1, c1, rfl⟩ := h1.shape
  obtain ⟨A2, c2, rfl⟩ := h2.shape
  obtain ⟨a1, a2, a3, a4, a5⟩ := good_of hb
  have H1 := hide h1
  have H2 := hide h2
  have HO := hide hok
  have HB := hide hb
  clear h1 h2 hb hok
  unfold hcells at *
  go_enter Tryd.func51, Tryd.ntmps51
  go_upto_region 3 with fail
  clear a4 a5
  go_quiet (fail)
  generalize hwa : World.drewN _ nq = wa
  have BX : Hid (Blk wa w.heap.size 27 (hcells hd (.slice A1 hd.srcs.length c1) (.slice A2 hd.exts.length c2))) := hide (by
    subst hwa
    unfold hcells
    rw [a1, he]
    exact Blk.new w _ _)
  have hK : Keep w wa Nul := by
    subst hwa
    exact ((Keep.refl w Nul).alloc _).drewN _
  have HK := hide hK
  have b1 := BX.out.cell 1 (v := .bool hd.pad) rfl
  have b2 := BX.out.cell 2 (v := .bool hd.ext) rfl
  have b3 := BX.out.cell 3 (v := .bool hd.mark) rfl
  rw [he] at b2
  have HA := hide hwa
  clear hwa hK
  generalize hv0 : Value.agg _ = v0
  clear hv0
  have HT := hide HO.out.ty
  have hl : hd.srcs.length < 16 := by omega
  go_upto_if 55 with fail
  go_cut [4] (fun s4 wx => s4 = .int .u8 (128 + hd.srcs.length + (if hd.pad then 32 else 0)) ∧ wx = wa)
  case first =>
    cases hp : hd.pad
    · go_wp2_with fail
      go_meet
      exact ⟨by simp [hp], rfl⟩
    · have eo := or_pad _ hl
      go_wp2_with fail
      go_meet
      exact ⟨by simp [hp], rfl⟩
  case rest =>
  obtain ⟨rfl, rfl⟩ := hcut
  go_upto_if 59 with fail
  go_cut [4] (fun s4 wx => s4 = .int .u8 (hb0 hd) ∧ wx = wc)
  case first =>
    have e0 : hb0 hd = 128 + (hd.srcs.length : Int) + (if hd.pad then 32 else 0) + 16 := by simp [hb0, he]
    cases hp : hd.pad
    · have eo := or_ext0 _ hl
      rw [hp] at e0
      go_wp2_with fail
      go_meet
      exact ⟨by rw [e0]; simp [hp], rfl⟩
    · have eo := or_ext1 _ hl
      rw [hp] at e0
      go_wp2_with fail
      go_meet
      exact ⟨by rw [e0]; simp [hp], rfl⟩
  case rest =>
  obtain ⟨rfl, rfl⟩ := hcut
  go_upto_if 63 with fail
  go_cut [5] (fun s5 wx => s5 = .int .u8 (hb1 hd) ∧ wx = wc)
  case first =>
    cases hp : hd.mark
    · go_wp2_with fail
      go_meet
      exact ⟨by simp [hb1, hp], rfl⟩
    · have eo : bits .or .u8 hd.ty 128 = hd.ty + 128 := or8' 7 _ _ HT.out.1 (by omega) (by decide) (by omega) (by omega) (by decide)
      go_wp2_with fail
      go_meet
      exact ⟨by simp [hb1, hp], rfl⟩
  case rest =>
  obtain ⟨rfl, rfl⟩ := hcut
  go_upto_region 10 with fail
  obtain ⟨wz, hwz⟩ : ∃ wz, wz = wc := ⟨_, rfl⟩
  subst hwz
  have b5 := BX.out.cell 5 (v := .int .u16 hd.seq) rfl
  have b6 := BX.out.cell 6 (v := .int .u32 hd.time) rfl
  have b7 := BX.out.cell 7 (v := .int .u32 hd.ssrc) rfl
  have bl := BX.out.lt
  have BX0 := hide (BX.out.alloc (.cells #[.int .u8 (hb0 hd), .int .u8 (hb1 hd)] 5))
  have O0 := hide (Own.of_lit (e := 5) (sz := 1) wz #[.int .u8 (hb0 hd), .int .u8 (hb1 hd)] 2 (by simp [maxLen]) rfl)
  have kseq := HO.out.seq
  have ktime := HO.out.time
  have kssrc := HO.out.ssrc
  go_cut [6] (fun s6 wx => Keep wz wx Nul ∧ Own wx wz.heap.size 5 1 s6 12 (B8 (hb0 hd :: hb1 hd :: (by16 hd.seq ++ by32 hd.time ++ by32 hd.ssrc))))
  case first =>
    go_region_held3 (fun w' => w'.cell? ⟨w.heap.size, 5, none⟩ = some (.int .u16 hd.seq) ∧ w'.cell? ⟨w.heap.size, 6, none⟩ = some (.int .u32 hd.time) ∧ w'.cell? ⟨w.heap.size, 7, none⟩ = some (.int .u32 hd.ssrc))
      (first | exact ⟨b5, b6, b7⟩ | exact ⟨BX0.out.cell 5 rfl, BX0.out.cell 6 rfl, BX0.out.cell 7 rfl⟩ | exact ⟨bx1.cell 5 rfl, bx1.cell 6 rfl, bx1.cell 7 rfl⟩ | exact ⟨bx2.cell 5 rfl, bx2.cell 6 rfl, bx2.cell 7 rfl⟩ | exact ⟨bx3.cell 5 rfl, bx3.cell 6 rfl, bx3.cell 7 rfl⟩)
      (first
        | (go_at_call 93; refine (p16_walk _ hd.seq O0.out.drew kseq (by omega) (by simp)).mono ?_; rintro e w1 ⟨v1, rfl, o1, k1⟩; have bx1 := BX0.out.drew.keep k1.1 (O0.out.drew.ne_ BX0.out.drew (by decide)))
        | (go_at_call_of 92 (Value.int IntKind.u32 hd.time); refine (p32_walk _ hd.time o1 ktime (by omega) (by have s1 := k1.1.size; simp at s1; omega)).mono ?_; rintro e w2 ⟨v2, rfl, o2, k2⟩; have bx2 := bx1.keep k2.1 (o1.ne_ bx1 (by decide)))
        | (go_at_call_of 92 (Value.int IntKind.u32 hd.ssrc); refine (p32_walk _ hd.ssrc o2 kssrc (by omega) (by have s1 := k1.1.size; have s2 := k2.1.size; simp at s1; omega)).mono ?_; rintro e w3 ⟨v3, rfl, o3, k3⟩; have bx3 := bx2.keep k3.1 (o2.ne_ bx2 (by decide))))
    have hk3 := ((k1.trans k2).trans k3).keep O0.out.drew (((Keep.refl wz Nul).alloc _).drew) (Nat.le_refl _)
    have HO3 := hide o3
    clear o1 o2 o3 k1 k2 k3
    go_wp2_with fail
    go_meet
    refine ⟨hk3, ?_⟩
    have := HO3.out
    simpa [B8] using this
  case rest =>
  obtain ⟨KC, OC⟩ := hcut
  have HC := hide (HK.out.trans0 KC)
  have HS := hide (H1.out.keep0 HC.out)
  have BC := hide (BX.out.keep KC id)
  have HKC := hide KC
  have HOC := hide OC
  have b8 := BC.out.cell 8 (v := .slice A1 hd.srcs.length c1) rfl
  have hsrc := hide HO.out.srcs
  generalize hw12 : hb0 hd :: hb1 hd :: (by16 hd.seq ++ by32 hd.time ++ by32 hd.ssrc) = h12 at *
  have H12 := hide hw12
  clear b1 b2 b3 b5 b6 b7 O0 BX0 KC OC hw12
  go_wp2_with fail
  go_loopw [6, 81] (fun u i wr => ∃ k : Nat, k ≤ hd.srcs.length ∧ i = .int .i64 k ∧ Own wr wz.heap.size 5 1 u (12 + 4 * k) (B8 (h12 ++ (hd.srcs.take k).flatMap by32)) ∧ Keep wz wr Nul ∧ Rd wr (· < w.heap.size) 1 (.slice A1 hd.srcs.length c1) hd.srcs.length (U32 hd.srcs)) (fun _ i _ => hd.srcs.length - (intOf i).toNat)
  case atStart => exact ⟨0, Nat.zero_le _, rfl, by simpa using HOC.out, HKC.out, HS.out⟩
  case round =>
    obtain ⟨k, hk, rfl, hO, hK, hR⟩ := hrel
    by_cases hlt : k < hd.srcs.length
    · obtain ⟨b, o, c', hv, q1, q2, q3, q4, q5⟩ := hR.lit (by omega)
      injection hv with e1 _ e3
      subst e1 e3
      have hg : hd.srcs[k]? = some hd.srcs[k] := List.getElem?_eq_getElem _
      have hc := q5 k _ (show (U32 hd.srcs)[k]? = some (.int .u32 hd.srcs[k]) by simp [U32, hg])
      have hx := hsrc.out _ (List.mem_of_getElem? hg)
      have HG := hide hg
      have HR := hide hR
      have HK' := hide hK
      have HO' := hide hO
      have hzz := hK.size
      clear q5 hg hR hK hO
      generalize hd.srcs[k] = x at *
      go_wp2_with fail
      refine (p32_walk _ x HO'.out hx (by omega) (by omega)).mono ?_
      rintro e w1 ⟨v1, rfl, o1, k1⟩
      have HO1 := hide o1
      have HK1 := hide (k1.keep HO'.out HK'.out (Nat.le_refl _))
      have HR1 := hide ((H1.out.keep0 HK.out).keep0 HK1.out)
      clear o1 k1
      go_wp2_with fail
      go_roundw
      case rel =>
        refine ⟨k + 1, by omega, by go_num, ?_, HK1.out, HR1.out⟩
        obtain ⟨hk', e⟩ := List.getElem?_eq_some_iff.1 HG.out
        rw [List.take_succ_eq_append_getElem hk', e, List.flatMap_append, ← List.append_assoc, B8_app]
        rw [show 12 + 4 * (k + 1) = 12 + 4 * k + 4 by omega]
        simpa using HO1.out
      case measure => simp [intOf]; omega
    · obtain rfl : k = hd.srcs.length := by omega
      have e0 : h12 ++ (hd.srcs.take hd.srcs.length).flatMap by32 = headB hd := by
        rw [List.take_length, ← H12.out]; simp [headB]
      rw [e0] at hO
      have HO' := hide hO
      have HK' := hide hK
      clear hO hK hR
      have BC' := hide (BX.out.keep HK'.out id)
      have c0 := BC'.out.cell 0 (v := .int .u8 hd.v) rfl
      have c1' := BC'.out.cell 1 (v := .bool hd.pad) rfl
      have c2' := BC'.out.cell 2 (v := .bool hd.ext) rfl
      have c3' := BC'.out.cell 3 (v := .bool hd.mark) rfl
      have c4' := BC'.out.cell 4 (v := .int .u8 hd.ty) rfl
      have c5' := BC'.out.cell 5 (v := .int .u16 hd.seq) rfl
      have c6' := BC'.out.cell 6 (v := .int .u32 hd.time) rfl
      have c7' := BC'.out.cell 7 (v := .int .u32 hd.ssrc) rfl
      have c8' := BC'.out.cell 8 (v := .slice A1 hd.srcs.length c1) rfl
      have c9' := BC'.out.cell 9 (v := .int .u16 hd.prof) rfl
      have c10' := BC'.out.cell 10 (v := .slice A2 hd.exts.length c2) rfl
      have c11' := BC'.out.cell 11 (v := .int .u8 hd.padn) rfl
      rw [he] at c2'
      clear b8
      have HVV : ∀ v, v = .agg (hcells hd (.slice A1 hd.srcs.length c1) (.slice A2 hd.exts.length c2)) → HV _ (· < w.heap.size) v hd := fun v hv => ⟨_, _, hv, (H1.out.keep0 HK.out).keep0 HK'.out, (H2.out.keep0 HK.out).keep0 HK'.out⟩
      have HVV := hide HVV
      have HKW := hide (HK.out.trans0 HK'.out)
      have hsz := HK'.out.size
      go_wp2_with fail
      refine (ext_walk _ (HVV.out _ (by simp [hcells, he, a1])) HO.out hn).mono ?_
      rintro e w2 ⟨k2, out, rfl, hbs⟩
      have HK2 := hide (HKW.out.trans0 k2)
      have HKz := hide (HK'.out.trans0 k2)
      have HO2 := hide (HO'.out.keep0 k2)
      have BC2 := hide (BC'.out.keep k2 id)
      have hsz2 := k2.size
      clear HVV
      cases hes : extsB hd.prof hd.exts with
      | none =>
        clear hbs k2 c0 c1' c2' c3' c4' c5' c6' c7' c8' c9' c10' c11'
        have HES := hide hes
        clear hes
        go_wp2_with fail
        go_ret2
        exact ⟨HK2.out, .inl ⟨HES.out, rfl⟩⟩
      | some es =>
        have hr := hbs es hes
        obtain ⟨A3, c3, rfl⟩ := hr.shape
        have c9 := BC2.out.cell 9 (v := .int .u16 hd.prof) rfl
        have bl2 := BC2.out.lt
        have HR := hide hr
        have HES := hide hes
        have hprof := HO.out.prof
        clear hbs k2 c0 c1' c2' c3' c4' c5' c6' c7' c8' c9' c10' c11' hr hes
        by_cases hbig : (262140 : Int) < es.length
        · go_wp2_with fail
          go_ret2
          exact ⟨HK2.out, .inr ⟨es, HES.out, .inl ⟨by omega, rfl⟩⟩⟩
        · have hat := hide HO'.out.at_
          have hlt := HK.out.size
          go_wp2_with fail
          refine (p16_walk _ hd.prof HO2.out hprof (by omega) (by omega)).mono ?_
          rintro e w3 ⟨v3, rfl, o3, k3⟩
          have HO3 := hide o3
          have HK3 := hide k3
          have hs3 := k3.1.size
          clear o3 k3
          go_wp2_with fail
          refine (p16_walk _ ((es.length : Int) / 4) HO3.out (by omega) (by omega) (by omega)).mono ?_
          rintro e w4 ⟨v4, rfl, o4, k4⟩
          have HO4 := hide o4
          have HK4 := hide (HK3.out.trans k4)
          have hs4 := k4.1.size
          have HR4 := hide (HR.out.keep HK4.out.1 (fun i hi hp e => by have := hat.out i e; rcases hp with hp | hp <;> omega))
          clear o4 k4
          go_wp2_with (at_builtin; go_loud (refine wpList_app etB rfl _ _ rfl HO4.out rfl (src_of_rd _ Tryd.underlying29 HR4.out (B8_one _)) rfl (by simp only [maxLen]; omega) (by omega) (by omega) ?_); intro v5 w5 o5 k5 b5 z5 _)
          go_ret2
          have g5 := HK4.out.trans (Grew.of k5 b5)
          refine ⟨HK.out.trans0 (g5.keep HO2.out HKz.out (Nat.le_refl _)), .inr ⟨es, HES.out, .inr ⟨by omega, _, rfl, ?_⟩⟩⟩
          have ho := o5.low (B' := w.heap.size) hlt
          have hl : (headB hd).length = 12 + 4 * hd.srcs.length := by have := HO'.out.rd.len; rwa [B8_len] at this
          have hl16 : ∀ x, (by16 x).length = 2 := fun _ => rfl
          simp only [List.length_append, hl, hl16, B8_app]
          exact ho
set_option maxHeartbeats 3200000 in
theorem fmt_plain {p : Nat → Prop} {v : Value} {hd : Hd} (w : World) (hh : HV w p v hd) (hok : hd.Ok) (hb : ¬ badB hd) (he : hd.ext = false) :
    Calls Tryd.prog 51 #[v] w fun e w' => Keep w w' Nul ∧ ∃ out, e = .returned (.tuple #[out, .bool true]) ∧ Own w' w.heap.size 5 1 out (headB hd).length (B8 (headB hd)) := by
  obtain ⟨sv, xv, rfl, h1, h2⟩ := hh.mono (q := (· < w.heap.size)) (fun k hk _ => hk)
  obtain ⟨A1, c1, rfl⟩ := h1.shape
  obtain ⟨A2, c2, rfl⟩ := h2.shape
  obtain ⟨a1, a2, a3, a4, a5⟩ := good_of hb
  have hx0 : hd.exts.length = 0 := by rw [a4 he]; rfl
  have H1 := hide h1
  have H2 := hide h2
  have HO := hide hok
  have HB := hide hb
  clear h1 h2 hb hok
  unfold hcells at *
  go_enter Tryd.func51, Tryd.ntmps51
  go_upto_region 3 with fail
  clear a4 a5
  go_quiet (fail)
  generalize hwa : World.drewN _ nq = wa
  have BX : Hid (Blk wa w.heap.size 27 (hcells hd (.slice A1 hd.srcs.length c1) (.slice A2 hd.exts.length c2))) := hide (by
    subst hwa
    unfold hcells
    rw [a1, he, hx0]
    exact Blk.new w _ _)
  have hK : Keep w wa Nul := by
    subst hwa
    exact ((Keep.refl w Nul).alloc _).drewN _
  have HK := hide hK
  have b1 := BX.out.cell 1 (v := .bool hd.pad) rfl
  have b2 := BX.out.cell 2 (v := .bool hd.ext) rfl
  have b3 := BX.out.cell 3 (v := .bool hd.mark) rfl
  rw [he] at b2
  have HA := hide hwa
  clear hwa hK
  generalize hv0 : Value.agg _ = v0
  clear hv0
  have HT := hide HO.out.ty
  have hl : hd.srcs.length < 16 := by omega
  go_upto_if 55 with fail
  go_cut [4] (fun s4 wx => s4 = .int .u8 (128 + hd.srcs.length + (if hd.pad then 32 else 0)) ∧ wx = wa)
  case first =>
    cases hp : hd.pad
    · go_wp2_with fail
      go_meet
      exact ⟨by simp [hp], rfl⟩
    · have eo := or_pad _ hl
      go_wp2_with fail
      go_meet
      exact ⟨by simp [hp], rfl⟩
  case rest =>
  obtain ⟨rfl, rfl⟩ := hcut
  go_upto_if 59 with fail
  go_cut [4] (fun s4 wx => s4 = .int .u8 (hb0 hd) ∧ wx = wc)
  case first =>
    have e0 : hb0 hd = 128 + (hd.srcs.length : Int) + (if hd.pad then 32 else 0) := by simp [hb0, he]
    cases hp : hd.pad <;> rw [hp] at e0
    · go_wp2_with fail
      go_meet
      exact ⟨by rw [e0]; simp [hp], rfl⟩
    · go_wp2_with fail
      go_meet
      exact ⟨by rw [e0]; simp [hp], rfl⟩
  case rest =>
  obtain ⟨rfl, rfl⟩ := hcut
  go_upto_if 63 with fail
  go_cut [5] (fun s5 wx => s5 = .int .u8 (hb1 hd) ∧ wx = wc)
  case first =>
    cases hp : hd.mark
    · go_wp2_with fail
      go_meet
      exact ⟨by simp [hb1, hp], rfl⟩
    · have eo : bits .or .u8 hd.ty 128 = hd.ty + 128 := or8' 7 _ _ HT.out.1 (by omega) (by decide) (by omega) (by omega) (by decide)
      go_wp2_with fail
      go_meet
      exact ⟨by simp [hb1, hp], rfl⟩
  case rest =>
  obtain ⟨rfl, rfl⟩ := hcut
  go_upto_region 10 with fail
  obtain ⟨wz, hwz⟩ : ∃ wz, wz = wc := ⟨_, rfl⟩
  subst hwz
  have b5 := BX.out.cell 5 (v := .int .u16 hd.seq) rfl
  have b6 := BX.out.cell 6 (v := .int .u32 hd.time) rfl
  have b7 := BX.out.cell 7 (v := .int .u32 hd.ssrc) rfl
  have bl := BX.out.lt
  have BX0 := hide (BX.out.alloc (.cells #[.int .u8 (hb0 hd), .int .u8 (hb1 hd)] 5))
  have O0 := hide (Own.of_lit (e := 5) (sz := 1) wz #[.int .u8 (hb0 hd), .int .u8 (hb1 hd)] 2 (by simp [maxLen]) rfl)
  have kseq := HO.out.seq
  have ktime := HO.out.time
  have kssrc := HO.out.ssrc
  go_cut [6] (fun s6 wx => Keep wz wx Nul ∧ Own wx wz.heap.size 5 1 s6 12 (B8 (hb0 hd :: hb1 hd :: (by16 hd.seq ++ by32 hd.time ++ by32 hd.ssrc))))
  case first =>
    go_region_held3 (fun w' => w'.cell? ⟨w.heap.size, 5, none⟩ = some (.int .u16 hd.seq) ∧ w'.cell? ⟨w.heap.size, 6, none⟩ = some (.int .u32 hd.time) ∧ w'.cell? ⟨w.heap.size, 7, none⟩ = some (.int .u32 hd.ssrc))
      (first | exact ⟨b5, b6, b7⟩ | exact ⟨BX0.out.cell 5 rfl, BX0.out.cell 6 rfl, BX0.out.cell 7 rfl⟩ | exact ⟨bx1.cell 5 rfl, bx1.cell 6 rfl, bx1.cell 7 rfl⟩ | exact ⟨bx2.cell 5 rfl, bx2.cell 6 rfl, bx2.cell 7 rfl⟩ | exact ⟨bx3.cell 5 rfl, bx3.cell 6 rfl, bx3.cell 7 rfl⟩)
      (first
        | (go_at_call 93; refine (p16_walk _ hd.seq O0.out.drew kseq (by omega) (by simp)).mono ?_; rintro e w1 ⟨v1, rfl, o1, k1⟩; have bx1 := BX0.out.drew.keep k1.1 (O0.out.drew.ne_ BX0.out.drew (by decide)))
        | (go_at_call_of 92 (Value.int IntKind.u32 hd.time); refine (p32_walk _ hd.time o1 ktime (by omega) (by have s1 := k1.1.size; simp at s1; omega)).mono ?_; rintro e w2 ⟨v2, rfl, o2, k2⟩; have bx2 := bx1.keep k2.1 (o1.ne_ bx1 (by decide)))
        | (go_at_call_of 92 (Value.int IntKind.u32 hd.ssrc); refine (p32_walk _ hd.ssrc o2 kssrc (by omega) (by have s1 := k1.1.size; have s2 := k2.1.size; simp at s1; omega)).mono ?_; rintro e w3 ⟨v3, rfl, o3, k3⟩; have bx3 := bx2.keep k3.1 (o2.ne_ bx2 (by decide))))
    have hk3 := ((k1.trans k2).trans k3).keep O0.out.drew (((Keep.refl wz Nul).alloc _).drew) (Nat.le_refl _)
    have HO3 := hide o3
    clear o1 o2 o3 k1 k2 k3
    go_wp2_with fail
    go_meet
    refine ⟨hk3, ?_⟩
    have := HO3.out
    simpa [B8] using this
  case rest =>
  obtain ⟨KC, OC⟩ := hcut
  have HC := hide (HK.out.trans0 KC)
  have HS := hide (H1.out.keep0 HC.out)
  have BC := hide (BX.out.keep KC id)
  have HKC := hide KC
  have HOC := hide OC
  have b8 := BC.out.cell 8 (v := .slice A1 hd.srcs.length c1) rfl
  have hsrc := hide HO.out.srcs
  generalize hw12 : hb0 hd :: hb1 hd :: (by16 hd.seq ++ by32 hd.time ++ by32 hd.ssrc) = h12 at *
  have H12 := hide hw12
  clear b1 b2 b3 b5 b6 b7 O0 BX0 KC OC hw12
  go_wp2_with fail
  go_loopw [6, 81] (fun u i wr => ∃ k : Nat, k ≤ hd.srcs.length ∧ i = .int .i64 k ∧ Own wr wz.heap.size 5 1 u (12 + 4 * k) (B8 (h12 ++ (hd.srcs.take k).flatMap by32)) ∧ Keep wz wr Nul ∧ Rd wr (· < w.heap.size) 1 (.slice A1 hd.srcs.length c1) hd.srcs.length (U32 hd.srcs)) (fun _ i _ => hd.srcs.length - (intOf i).toNat)
  case atStart => exact ⟨0, Nat.zero_le _, rfl, by simpa using HOC.out, HKC.out, HS.out⟩
  case round =>
    obtain ⟨k, hk, rfl, hO, hK, hR⟩ := hrel
    by_cases hlt : k < hd.srcs.length
    · obtain ⟨b, o, c', hv, q1, q2, q3, q4, q5⟩ := hR.lit (by omega)
      injection hv with e1 _ e3
      subst e1 e3
      have hg : hd.srcs[k]? = some hd.srcs[k] := List.getElem?_eq_getElem _
      have hc := q5 k _ (show (U32 hd.srcs)[k]? = some (.int .u32 hd.srcs[k]) by simp [U32, hg])
      have hx := hsrc.out _ (List.mem_of_getElem? hg)
      have HG := hide hg
      have HR := hide hR
      have HK' := hide hK
      have HO' := hide hO
      have hzz := hK.size
      clear q5 hg hR hK hO
      generalize hd.srcs[k] = x at *
      go_wp2_with fail
      refine (p32_walk _ x HO'.out hx (by omega) (by omega)).mono ?_
      rintro e w1 ⟨v1, rfl, o1, k1⟩
      have HO1 := hide o1
      have HK1 := hide (k1.keep HO'.out HK'.out (Nat.le_refl _))
      have HR1 := hide ((H1.out.keep0 HK.out).keep0 HK1.out)
      clear o1 k1
      go_wp2_with fail
      go_roundw
      case rel =>
        refine ⟨k + 1, by omega, by go_num, ?_, HK1.out, HR1.out⟩
        obtain ⟨hk', e⟩ := List.getElem?_eq_some_iff.1 HG.out
        rw [List.take_succ_eq_append_getElem hk', e, List.flatMap_append, ← List.append_assoc, B8_app]
        rw [show 12 + 4 * (k + 1) = 12 + 4 * k + 4 by omega]
        simpa using HO1.out
      case measure => simp [intOf]; omega
    · obtain rfl : k = hd.srcs.length := by omega
      have e0 : h12 ++ (hd.srcs.take hd.srcs.length).flatMap by32 = headB hd := by
        rw [List.take_length, ← H12.out]; simp [headB]
      rw [e0] at hO
      have HO' := hide hO
      have HK' := hide hK
      clear hO hK hR
      have BC' := hide (BX.out.keep HK'.out id)
      have c2' := BC'.out.cell 2 (v := .bool hd.ext) rfl
      rw [he] at c2'
      clear b8
      have hlt := HK.out.size
      go_wp2_with fail
      go_ret2
      refine ⟨HK.out.trans0 HK'.out, _, rfl, ?_⟩
      have hl : (headB hd).length = 12 + 4 * hd.srcs.length := by have := HO'.out.rd.len; rwa [B8_len] at this
      rw [hl]
      exact HO'.out.low hlt

/-- The bytes of a header: the reference's FormatHeader. -/
theorem fmt_walk {p : Nat → Prop} {v : Value} {hd : Hd} (w : World) (hh : HV w p v hd) (hok : hd.Ok) (hn : hd.exts.length ≤ 2147483647) :
    Calls Tryd.prog 51 #[v] w fun e w' => Keep w w' Nul ∧ ∃ A n c, e = .returned (.tuple #[.slice A n c, .bool (fmtB hd).isSome]) ∧ ∀ bs, fmtB hd = some bs → Own w' w.heap.size 5 1 (.slice A n c) bs.length (B8 bs) := by
  by_cases hb : badB hd
  · refine (fmt_bad w hh hb).mono fun e w' ⟨hk, he⟩ => ⟨hk, none, 0, 0, ?_, fun bs h => ?_⟩
    · simpa [fmtB, hb] using he
    · simp [fmtB, hb] at h
  cases he : hd.ext
  · refine (fmt_plain w hh hok hb he).mono fun e w' ⟨hk, out, hr, ho⟩ => ⟨hk, ?_⟩
    have e0 : fmtB hd = some (headB hd) := by simp [fmtB, hb, he]
    obtain ⟨A, c, rfl⟩ := ho.rd.shape
    exact ⟨A, _, c, by rw [e0]; exact hr, fun bs h => by rw [e0] at h; cases h; exact ho⟩
  · refine (fmt_ext w hh hok hb he hn).mono fun e w' ⟨hk, h⟩ => ⟨hk, ?_⟩
    rcases h with ⟨h0, hr⟩ | ⟨es, h0, ⟨h1, hr⟩ | ⟨h1, out, hr, ho⟩⟩
    · have e0 : fmtB hd = none := by simp [fmtB, hb, he, h0]
      exact ⟨none, 0, 0, by rw [e0]; exact hr, fun bs h => by rw [e0] at h; cases h⟩
    · have e0 : fmtB hd = none := by simp [fmtB, hb, he, h0, h1]
      exact ⟨none, 0, 0, by rw [e0]; exact hr, fun bs h => by rw [e0] at h; cases h⟩
    · have e0 : fmtB hd = some (headB hd ++ by16 hd.prof ++ by16 (es.length / 4) ++ es) := by
        have : ¬ 262140 < es.length := by omega
        simp [fmtB, hb, he, h0, this]
      obtain ⟨A, c, rfl⟩ := ho.rd.shape
      exact ⟨A, _, c, by rw [e0]; exact hr, fun bs h => by rw [e0] at h; cases h; exact ho⟩
end Go.Proofs.YtdmnflngafbobaaDoor
namespace Go.Proofs.YtdmnflngafbobaaDoor
open Go.RowKit
set_option linter.unusedVariables false
set_option linter.unusedSimpArgs false
set_option maxRecDepth 20000

def legalB (h : Hd) : Option (List Int) := match fmtB h with
  | some bs => if bs.length ≤ 131072 then some bs else none
  | none => none

theorem legal_walk {p : Nat → Prop} {v : Value} {hd : Hd} (w : World) (hh : HV w p v hd) (hok : hd.Ok) (hn : hd.exts.length ≤ 2147483647) :
    Calls Tryd.prog 18 #[v] w fun e w' => Keep w w' Nul ∧ ∃ A n c, e = .returned (.tuple #[.slice A n c, .bool (legalB hd).isSome]) ∧ ∀ bs, legalB hd = some bs → Own w' w.heap.size 5 1 (.slice A n c) bs.length (B8 bs) := by
  have kx := (Keep.refl w Nul).alloc (.cells v.cells 27)
  have hF := hide (fmt_walk _ (hh.keep0 kx) hok hn)
  have HK := hide kx
  obtain ⟨sv, xv, rfl, h1, h2⟩ := hh
  clear h1 h2 kx
  unfold hcells at *
  go_enter Tryd.func18, Tryd.ntmps18
  go_wp2_with fail
  refine (hF.out).mono ?_
  rintro e w1 ⟨k1, A, n, c, rfl, hbs⟩
  have HK1 := hide (HK.out.trans0 k1)
  have hl : ∀ bs, fmtB hd = some bs → n = bs.length := fun bs hb => by
    obtain ⟨_, _, _, e, _⟩ := (hbs bs hb).rd
    injection e
  cases hf : fmtB hd with
  | none =>
    have e0 : legalB hd = none := by simp [legalB, hf]
    have HE := hide e0
    clear hbs hl k1 hf e0
    go_wp2_with fail
    go_ret2
    exact ⟨HK1.out, A, n, c, by rw [HE.out]; rfl, fun bs hb => by rw [HE.out] at hb; cases hb⟩
  | some bs =>
    obtain rfl := hl bs hf
    have ho := hbs bs hf
    by_cases hz : bs.length ≤ 131072
    · have e0 : legalB hd = some bs := by simp [legalB, hf, hz]
      have HE := hide e0
      have HO := hide (ho.low (B' := w.heap.size) HK.out.size)
      have hz' : (bs.length : Int) ≤ 131072 := by omega
      clear hbs hl k1 hf e0 ho
      go_wp2_with fail
      go_ret2
      exact ⟨HK1.out, A, bs.length, c, by rw [HE.out]; simp [hz, hz'], fun bs' hb => by rw [HE.out] at hb; cases hb; exact HO.out⟩
    · have e0 : legalB hd = none := by simp [legalB, hf, hz]
      have HE := hide e0
      have hz' : ¬ (bs.length : Int) ≤ 131072 := by omega
      clear hbs hl k1 hf e0 ho
      go_wp2_with fail
      go_ret2
      exact ⟨HK1.out, A, bs.length, c, by rw [HE.out]; simp [hz, hz'], fun bs' hb => by rw [HE.out] at hb; cases hb⟩
end Go.Proofs.YtdmnflngafbobaaDoor
