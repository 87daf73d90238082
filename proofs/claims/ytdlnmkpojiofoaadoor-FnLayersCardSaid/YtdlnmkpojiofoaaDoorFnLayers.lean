/-
  The law FnLayers returns true. Conditions: none beyond its row's.
-/
import Derived.Test.YtdlnmkpojiofoaaDoorVl33
namespace Go.Proofs.YtdlnmkpojiofoaaDoor
open Go.RowKit
set_option linter.unusedVariables false
set_option linter.unusedSimpArgs false
set_option maxRecDepth 100000

set_option maxHeartbeats 6400000 in
theorem fl_main {P : Pv} {Av : Option Addr} {cv n : Nat} {zs : List Int} {sz : Bool} (w : World) (hP : P.Ok) (hst : P.st = P.K % P.S) (hrs : P.rs = ratesOf 0 zs) (hsz : P.sized = sz) (hz : ∀ z ∈ zs, 0 ≤ z ∧ z < 4294967296) (h : Rd w (fun q => q < w.heap.size) 1 (.slice Av n cv) n (U32 zs)) (hn : 1 ≤ n ∧ n ≤ 4) :
    Calls Tryd.prog 6 #[.int .i64 (P.S : Nat), .int .i64 (P.K : Nat), .slice Av n cv, .bool sz, .int .i64 (P.size : Nat)] w fun e w' => e = .returned (.bool true) ∧ Below w.heap.size w w' := by
  have HP := hide hP
  have HRS := hide hrs
  have HSZ := hide hsz
  have HZ := hide hz
  have HV := hide h
  have hL16 := hP.L16
  have hS1 := hP.s1
  have hS4 := hP.s4
  have hK1 := hP.k1
  have hK4 := hP.k4
  have hz1 := hP.z1
  have hz2 := hP.z2
  have hstz : (P.st : Int) = (P.K : Int) % (P.S : Int) := by rw [hst]; exact Int.natCast_emod _ _
  have hlb := hP.lenB
  have ht4 := hP.t4
  have ht1 := hP.t1
  have hm0 : IntKind.i64.wrap ((P.K : Int) % (P.S : Int)) = (P.K : Int) % (P.S : Int) := by rw [← hstz, IntKind.wrap_i64]; have := hP.st; omega
  have hS0 : ¬ (P.S : Int) = 0 := by omega
  have HSTZ := hide hstz
  clear hP hst hrs hsz hz h hstz
  have i1 : ¬ (2147483647 : Int) < (n : Int) := by omega
  have i2 : ¬ (P.S : Int) < 1 := by omega
  have i3 : ¬ (4 : Int) < (P.S : Int) := by omega
  have i4 : ¬ (P.K : Int) < 1 := by omega
  have i5 : ¬ (4 : Int) < (P.K : Int) := by omega
  have i6 : ((n : Int) == 0) = false := by simp; omega
  have i7 : ¬ (4 : Int) < (n : Int) := by omega
  have i8 : ¬ (P.size : Int) < 1 := by omega
  have i9 : ¬ (4000 : Int) < (P.size : Int) := by omega
  go_enter Tryd.func6, Tryd.ntmps6
  go_upto_region 6 with fail
  generalize hwa : World.alloc w _ = wa
  obtain ⟨gl, hgl⟩ : ∃ gl, gl = w.heap.size := ⟨_, rfl⟩
  rw [← hgl]
  have hb0 : Blk wa gl 44 #[.int .i64 (P.st : Nat), .int .i64 (P.S : Nat), .slice none 0 0, .bool sz] := by rw [HSTZ.out]; subst hwa hgl; exact Blk.new w _ _
  have ka : Keep w wa Nul := by subst hwa; exact (Keep.refl w Nul).alloc _
  have hza : wa.heap.size = w.heap.size + 1 := by subst hwa; exact World.size_alloc _ _
  obtain ⟨B, hBe⟩ : ∃ B, B = wa.heap.size := ⟨_, rfl⟩
  have mgl : w.heap.size ≤ gl := by omega
  have mglB : gl < B := by omega
  have mBw : B ≤ wa.heap.size := by omega
  have HKA := hide ka
  have HB0 := hide hb0
  have HVA := hide (HV.out.keep ka (fun _ _ _ e => e))
  have hpgl : ∀ q, q < w.heap.size → q < gl := fun q hq => by omega
  have HPGL := hide hpgl
  clear hwa hgl hb0 ka hBe hza hpgl i1 i2 i3 i4 i5 i6 i7 i8 i9 hm0 hS0
  refine part_use (fl_p6 wa _ _ _ _ _ _ _ _ _ _ _ _ _ _ _ _ _ _ _ _ _ _ _ _ _ _ _ _ _ _ _ _ _ _ _ _ _ _ _ _ _ _ _ _ _ _ _ _ _ _ _ _ _ _ _ _ _ _ _ _ _ _ _ _ _ _ _ _ _ _ _ _ _ _ _ _ _ _ _ _ _ _ _ _ _ _ _ _ _ _ _ _ _ _ _ _ _ _ _ _ _ _ _ _ _ _ _ _ _ _ _ _ _ _ _ _ _ _ _ _ _ _ _ _ _ _ _ _ _ _ _ _ _ _ _ _ _ _ _ _ _ _ _ _ _ _ _ _ _ _ _ _ _ _ _ _ _ _ _ _ _ _ _ _ _ _ _ _ _ _ _ _ _ _ _ _ _ _ _ _ _ _ _ _ _ _ _ _ _ _ _ _ _ _ _ _ _ _ _ _ _ _ _ _ _ _ _ _ _ _ _ _ _ _ _ _ _ _ _ _ _ _ _ _ _ _ _ _ _ _ _ _ _ _ _ _ _ HP.out HSZ.out HRS.out HZ.out HVA.out HPGL.out HB0.out mglB mBw ?_) rfl rfl (by assumption)
  intro w1
  intros
  rename_i A2 c2 ds1 hb1 hlo1 hk1
  obtain ⟨b1, c1, hve, hc1, hlr1⟩ := hlo1.lr (P := P) hL16.1
  injection hve with e1 _ e3
  subst e1 e3
  have hK1' : Keep w w1 Nul := HKA.out.trans hk1 (fun q hq e => by rcases e with e | e <;> omega)
  have HB1 := hide hb1
  have HLR1 := hide (hlr1.mono (q := fun q => q < w1.heap.size) (fun q hq _ => hq))
  have HK1 := hide hK1'
  have x0 := hb1.cell 0 (v := .int .i64 (P.st : Nat)) rfl
  have x1 := hb1.cell 1 (v := .int .i64 (P.S : Nat)) rfl
  have x2 := hb1.cell 2 (v := .slice (some ⟨b1, 0, none⟩) P.L c2) rfl
  have x3 := hb1.cell 3 (v := .bool sz) rfl
  have hll := hb1.lt
  have hF := hide (vfmt_walk w1 HP.out HLR1.out hc1 (fun i hi => hi))
  have hvl : P.vla b1 0 c2 = #[.int .i64 (P.st : Nat), .int .i64 (P.S : Nat), .slice (some ⟨b1, 0, none⟩) P.L c2, .bool sz] := by unfold Pv.vla; rw [HSZ.out]
  rw [hvl] at hF
  clear hb1 hlo1 hk1 hK1' hlr1 hvl
  refine (show ∀ a w, _ → _ by assumption) _ _ ?_
  go_wp2_with fail
  refine Calls.mono (show Calls _ _ #[.agg #[.int .i64 (P.st : Nat), .int .i64 (P.S : Nat), .slice (some ⟨b1, 0, none⟩) P.L c2, .bool sz]] _ _ from hF.out) ?_
  rintro e w2 ⟨out, rfl, hk2, hr2⟩
  obtain ⟨Ao, co, rfl⟩ := hr2.shape
  have hPa := hide (vpar_walk w2 HP.out hr2)
  have HK2 := hide (HK1.out.trans0 hk2)
  have HK12 := hide hk2
  clear hk2 hr2 hF x0 x1 x2 x3
  go_wp2_with fail
  refine Calls.mono (show Calls _ _ #[.slice Ao P.len co] _ _ from hPa.out) ?_
  rintro e w3 ⟨A3, c3, ds3, rfl, hlo3, hk3⟩
  obtain ⟨b3, c3', hve, hc3, hlr3⟩ := hlo3.lr (P := P) hL16.1
  injection hve with e1 _ e3
  subst e1 e3
  rw [HSZ.out]
  have HK3 := hide (HK2.out.trans0 hk3)
  have k13 := HK12.out.trans0 hk3
  have HB3 := hide (HB1.out.keep k13 (fun e => e))
  have HLR3 := hide (HLR1.out.keep k13 (fun _ _ _ e => e))
  have hz13 := k13.size
  have HLY := hide (hlr3.mono (q := fun q => q < w3.heap.size) (fun q hq _ => hq))
  clear hPa hlo3 hk3 hlr3 k13
  go_upto_region 25 with fail
  generalize hw4 : World.alloc w3 _ = w4
  obtain ⟨gy, hgy⟩ : ∃ gy, gy = w3.heap.size := ⟨_, rfl⟩
  rw [← hgy]
  have hby : Blk w4 gy 44 #[.int .i64 (P.st : Nat), .int .i64 (P.S : Nat), .slice (some ⟨b3, 0, none⟩) P.L c3, .bool sz] := by subst hw4 hgy; exact Blk.new w3 _ _
  have k4 : Keep w3 w4 Nul := by subst hw4; exact (Keep.refl w3 Nul).alloc _
  have hz4 := k4.size
  have hb4 := HB3.out.keep k4 (fun e => e)
  have HB4 := hide hb4
  have HBY := hide hby
  have HK4 := hide (HK3.out.trans0 k4)
  have HLR4 := hide ((HLR3.out.keep k4 (fun _ _ _ e => e)).mono (q := fun q => q < w4.heap.size) (fun q hq _ => hq))
  have HLY4 := hide ((HLY.out.keep k4 (fun _ _ _ e => e)).mono (q := fun q => q < w4.heap.size) (fun q hq _ => hq))
  have x0 := hb4.cell 0 (v := .int .i64 (P.st : Nat)) rfl
  have x1 := hb4.cell 1 (v := .int .i64 (P.S : Nat)) rfl
  have x2 := hb4.cell 2 (v := .slice (some ⟨b1, 0, none⟩) P.L c2) rfl
  have x3 := hb4.cell 3 (v := .bool sz) rfl
  have y0 := hby.cell 0 (v := .int .i64 (P.st : Nat)) rfl
  have y1 := hby.cell 1 (v := .int .i64 (P.S : Nat)) rfl
  have y2 := hby.cell 2 (v := .slice (some ⟨b3, 0, none⟩) P.L c3) rfl
  have y3 := hby.cell 3 (v := .bool sz) rfl
  have lx := hb4.lt
  have ly := hby.lt
  clear hw4 hgy hby k4 hb4
  go_upto_region 27 with fail
  refine part_use (fl_p27 w4 _ _ _ _ _ _ _ _ _ _ _ _ _ _ _ _ _ _ _ _ _ _ _ _ _ _ _ _ _ _ _ _ _ _ _ _ _ _ _ _ _ _ _ _ _ _ _ _ _ _ _ _ _ _ _ _ _ _ _ _ _ _ _ _ _ _ _ _ _ _ _ _ _ _ _ _ _ _ _ _ _ _ _ _ _ _ _ _ _ _ _ _ _ _ _ _ _ _ _ _ _ _ _ _ _ _ _ _ _ _ _ _ _ _ _ _ _ _ _ _ _ _ _ _ _ _ _ _ _ _ _ _ _ _ _ _ _ _ _ _ _ _ _ _ _ _ _ _ _ _ _ _ _ _ _ _ _ _ _ _ _ _ _ _ _ _ _ _ _ _ _ _ _ _ _ _ _ _ _ _ _ _ _ _ _ _ _ _ _ _ _ _ _ _ _ _ _ _ _ _ _ _ _ _ _ _ _ _ _ _ _ _ _ _ _ _ _ _ _ _ _ _ _ _ _ _ _ _ _ _ _ _ _ _ _ _ _ _ _ _ HP.out HB4.out HBY.out HLR4.out HLY4.out hc1 hc3 ?_) rfl rfl (by assumption)
  intro w5
  intros
  rename_i hk5
  have HK5 := hide (HK4.out.trans0 hk5)
  clear hk5
  refine (show ∀ a w, _ → _ by assumption) _ _ ?_
  go_wp2_with fail
  go_ret
  exact ⟨rfl, HK5.out.below0⟩

set_option maxHeartbeats 6400000 in
theorem fl_law {p : Nat → Prop} {v : Value} {n : Nat} {zs : List Int} (w : World) (s k : Int) (sz : Bool) (size : Int) (h : Rd w p 1 v n (U32 zs)) (hz : ∀ z ∈ zs, 0 ≤ z ∧ z < 4294967296) :
    Calls Tryd.prog 6 #[.int .i64 s, .int .i64 k, v, .bool sz, .int .i64 size] w fun e w' => e = .returned (.bool true) ∧ Below w.heap.size w w' := by
  have hzl : zs.length = n := by have := h.len; rwa [U32, List.length_map] at this
  have hvs := h.shape
  obtain ⟨Av, cv, rfl⟩ := hvs
  have HV := hide (h.mono (q := fun q => q < w.heap.size) (fun q hq _ => hq))
  have HZ := hide hz
  clear h hz
  by_cases c1 : (2147483647 : Int) < (n : Int)
  · go_enter Tryd.func6, Tryd.ntmps6
    go_wp2_with fail
    go_ret
    exact ⟨rfl, (Keep.refl w Nul).below0⟩
  by_cases c2 : s < 1
  · go_enter Tryd.func6, Tryd.ntmps6
    go_wp2_with fail
    go_ret
    exact ⟨rfl, (Keep.refl w Nul).below0⟩
  by_cases c3 : (4 : Int) < s
  · go_enter Tryd.func6, Tryd.ntmps6
    go_wp2_with fail
    go_ret
    exact ⟨rfl, (Keep.refl w Nul).below0⟩
  by_cases c4 : k < 1
  · go_enter Tryd.func6, Tryd.ntmps6
    go_wp2_with fail
    go_ret
    exact ⟨rfl, (Keep.refl w Nul).below0⟩
  by_cases c5 : (4 : Int) < k
  · go_enter Tryd.func6, Tryd.ntmps6
    go_wp2_with fail
    go_ret
    exact ⟨rfl, (Keep.refl w Nul).below0⟩
  by_cases c6 : n = 0
  · subst c6
    go_enter Tryd.func6, Tryd.ntmps6
    go_wp2_with fail
    go_ret
    exact ⟨rfl, (Keep.refl w Nul).below0⟩
  by_cases c7 : (4 : Int) < (n : Int)
  · go_enter Tryd.func6, Tryd.ntmps6
    go_wp2_with fail
    go_ret
    exact ⟨rfl, (Keep.refl w Nul).below0⟩
  by_cases c8 : size < 1
  · go_enter Tryd.func6, Tryd.ntmps6
    go_wp2_with fail
    go_ret
    exact ⟨rfl, (Keep.refl w Nul).below0⟩
  by_cases c9 : (4000 : Int) < size
  · go_enter Tryd.func6, Tryd.ntmps6
    go_wp2_with fail
    go_ret
    exact ⟨rfl, (Keep.refl w Nul).below0⟩
  obtain ⟨P, hS, hK, hst, hrs, hsz, hsi⟩ : ∃ P : Pv, (P.S : Int) = s ∧ (P.K : Int) = k ∧ P.st = P.K % P.S ∧ P.rs = ratesOf 0 zs ∧ P.sized = sz ∧ (P.size : Int) = size := ⟨⟨s.toNat, k.toNat, k.toNat % s.toNat, ratesOf 0 zs, sz, size.toNat⟩, by simp only []; omega, by simp only []; omega, rfl, rfl, rfl, by simp only []; omega⟩
  subst hS hK hsi
  have hP : P.Ok := ⟨by omega, by omega, by omega, by omega, by rw [hst]; exact Nat.mod_lt _ (by omega), by rw [hrs, ratesOf_len]; omega, by rw [hrs, ratesOf_len]; omega, by rw [hrs]; exact ratesOf_lt HZ.out (by omega), by omega, by omega⟩
  exact fl_main w hP hst hrs hsz HZ.out HV.out (by omega)
end Go.Proofs.YtdlnmkpojiofoaaDoor
