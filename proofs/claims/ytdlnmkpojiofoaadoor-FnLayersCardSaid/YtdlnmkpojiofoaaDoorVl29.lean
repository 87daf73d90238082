/-
  The closure of impl.ParseVLA. Conditions: those that stand in each theorem.
-/
import Derived.Test.YtdlnmkpojiofoaaDoorVl28
namespace Go.Proofs.YtdlnmkpojiofoaaDoor
open Go.RowKit
set_option linter.unusedVariables false
set_option linter.unusedSimpArgs false
set_option maxRecDepth 100000

/-- Layers that were read can be read. -/
theorem LQ.lr {w : World} {B : Nat} {P : Pv} {v : Value} {gs : List Nat} (h : LQ w B P.lc P.rs.length v P.L gs (fun _ => P.rs)) (hL : 1 ≤ P.L) (h4 : P.rs.length ≤ 4) : ∃ b c, v = .slice (some ⟨b, 0, none⟩) P.L c ∧ P.L ≤ c ∧ LR w (B ≤ ·) P b 0 (gs.map (slI P.rs.length)) := by
  obtain ⟨b, o, c, hv, h1, h2, h3, h4', h5⟩ := h.own.rd.lit (by omega)
  rcases h.own.2 with ⟨h0, _⟩ | ⟨g', _, _, _, hv', hB, _⟩
  · rw [h0] at hv; cases hv
  · rw [hv'] at hv
    injection hv with e1 e2 e3
    injection e1 with e1
    injection e1 with e1 e4
    subst e1 e3 e4
    refine ⟨g', _, hv', h1, ⟨by rw [List.length_map, h.gl], h4', hB, fun l d hd j u hu => ?_, fun l d hd => ?_⟩⟩
    · rw [Nat.add_assoc]
      exact h5 _ _ (lcsF_at P.lc (lc_len P) _ 0 l d hd j u (by rw [Nat.zero_add]; exact hu))
    · rw [List.getElem?_map] at hd
      cases hg : gs[l]? with
      | none => rw [hg] at hd; cases hd
      | some g =>
        rw [hg] at hd
        simp at hd
        subst hd
        have hb := h.blk l g hg
        have hr := (Own.of_blk (B := B) (sz := 1) (n := P.rs.length) (cap := P.rs.length) hb (h.ge g (List.mem_of_getElem? hg)) (Nat.le_refl _) (by simp only [maxLen]; omega) (by simp [I64])).rdB
        have e : (I64 P.rs).toArray.toList.take (P.rs.length * 1) = I64 P.rs := by
          rw [List.take_of_length_le (by simp [I64])]
        rw [e] at hr
        exact hr

theorem etL : ET Tryd.prog 42 47 (.agg #[.int .i64 0, .int .i64 0, .slice none 0 0, .int .i64 0, .int .i64 0, .int .i64 0]) 6 64 := ⟨Tryd.underlying42, by kernel_rfl, rfl, by decide⟩

theorem LO.low {w : World} {B B' : Nat} {e : TypeId} {f : Nat → Value → List Value} {rs : List Nat} {v : Value} {l : Nat} {ds : List Value} (h : LO w B e f rs v l ds) (hB : B' ≤ B) : LO w B' e f rs v l ds :=
  ⟨h.own.low hB, h.dl, fun i d hd => (h.rate i d hd).mono (fun q _ hq => ⟨Nat.le_trans hB hq.1, hq.2⟩)⟩

set_option maxHeartbeats 6400000 in
theorem vcl_walk {p : Nat → Prop} {P : Pv} {v : Value} {g1 gl gn : Nat} (w : World) (hP : P.Ok) (h : Rd w p 1 v P.len (B8 P.out)) (h1 : Blk w g1 23 #[v]) (h2 : Blk w gl 44 #[.int .i64 0, .int .i64 0, .slice none 0 0, .bool false]) (h3 : Blk w gn 3 #[.int .i64 0]) :
    Calls Tryd.prog 25 #[.pointer (some ⟨g1, 0, none⟩), .pointer (some ⟨gl, 0, none⟩), .pointer (some ⟨gn, 0, none⟩)] w fun e w' => e = .returned (.bool true) ∧ (∃ (A : Option Addr) (c : Nat) (ds : List Value), Blk w' gl 44 #[.int .i64 (P.st : Nat), .int .i64 (P.S : Nat), .slice A P.L c, .bool P.sized] ∧ LO w' w.heap.size 47 P.lc P.rs (.slice A P.L c) P.L ds) ∧ Blk w' gn 3 #[.int .i64 (P.len : Nat)] ∧ Keep w w' (fun k => k = gl ∨ k = gn) := by
  have HP := hide hP
  have hL16 := hP.L16
  have ht4 := hP.t4
  have hlb := hP.lenB
  have hLpos : 0 < P.len := by unfold Pv.len; omega
  have HRD := hide h
  have H1 := hide h1
  have H2 := hide h2
  have H3 := hide h3
  have hne : gl ≠ gn := h2.ne_ h3 (by decide)
  have c1 := h1.cell 0 (v := v) rfl
  have hl1 := h1.lt
  have hl2 := h2.lt
  have hl3 := h3.lt
  have hv := h.shape
  obtain ⟨A0, cap0, rfl⟩ := hv
  clear hP h h1 h2 h3
  go_enter Tryd.func25, Tryd.ntmps25
  go_upto_region 2 with fail
  generalize hwa : World.alloc w _ = wa
  obtain ⟨gx, hgx⟩ : ∃ gx, gx = w.heap.size := ⟨_, rfl⟩
  rw [← hgx]
  have BX := hide (show Blk wa gx 69 #[.int .i64 0, .int .i64 0, .slice none 0 0, .bool false] by subst hwa hgx; exact Blk.new w _ _)
  have KA := hide (show Keep w wa Nul by subst hwa; exact (Keep.refl w Nul).alloc _)
  have hza : wa.heap.size = w.heap.size + 1 := by subst hwa; exact World.size_alloc _ _
  have m0 : w.heap.size ≤ gx := by omega
  have hC := hide (clone_b wa (HRD.out.keep0 KA.out) (B8_one _) (by omega))
  clear hwa hgx
  have c1 := KA.out.cell (fun e => e) c1
  have hl1a : g1 < wa.heap.size := by omega
  go_wp2_with fail
  refine (hC.out).mono ?_
  rintro e w1 ⟨v1, rfl, ho, k1, -⟩
  have HK1 := hide (KA.out.trans0 k1)
  have BX1 := BX.out.keep k1 (fun e => e)
  obtain ⟨b, o, c, rfl, hnc, hcm, hpb, hbl, hcell⟩ := ho.rd.lit (by omega)
  have hbx : b ≠ gx := fun e => ho.ne_ BX1 (by decide) (e ▸ hpb)
  have hz1 := k1.size
  have hbB : wa.heap.size ≤ b := (ho.at_ b hpb).1
  have hUn := hide (vun_walk (n := P.len) w1 HP.out (fun i z hz => hcell i _ (B8_get hz)) rfl hnc hcm hbl hbx BX1)
  clear hC ho k1 BX1 hcell hpb
  go_wp2_with fail
  refine Calls.mono (show Calls _ _ #[.pointer (some ⟨gx, 0, none⟩), .slice (some ⟨b, o, none⟩) P.len c] _ _ from hUn.out) ?_
  rintro e w2 ⟨rfl, ⟨A2, cq2, gs, hv2, hlq⟩, hk2⟩
  obtain ⟨bq, cq, hve, hcc, hlr⟩ := hlq.lr hL16.1 ht4
  injection hve with e1 _ e3
  subst e1 e3
  have hz2 := hk2.size
  have HK2 := hide (HK1.out.trans hk2 (fun i hi e => by have e' : i = gx := e; omega))
  have BX2 := hide hv2
  have H22 := hide (H2.out.keep HK2.out (fun e => e))
  have H32 := hide (H3.out.keep HK2.out (fun e => e))
  have x0 := hv2.cell 0 (v := .int .i64 (P.st : Nat)) rfl
  have x1 := hv2.cell 1 (v := .int .i64 (P.S : Nat)) rfl
  have x2 := hv2.cell 2 (v := .slice (some ⟨bq, 0, none⟩) P.L cq2) rfl
  have x3 := hv2.cell 3 (v := .bool P.sized) rfl
  have hlx := hv2.lt
  have HLR := hide (hlr.mono (q := fun q => w.heap.size ≤ q ∧ q < w2.heap.size) (fun q hq h => ⟨by have h' : w1.heap.size + 1 ≤ q := h; omega, hq⟩))
  have fl := H22.out.free
  have fl0 := fl 0
  have fl1 := fl 1
  have fl2 := fl 2
  have fl3 := fl 3
  have fn0 := H32.out.free 0
  have y0 := H22.out.cell 0 (v := .int .i64 0) rfl
  have y1 := H22.out.cell 1 (v := .int .i64 0) rfl
  have y2 := H22.out.cell 2 (v := .slice none 0 0) rfl
  have y3 := H22.out.cell 3 (v := .bool false) rfl
  have z0 := H32.out.cell 0 (v := .int .i64 0) rfl
  have hl22 := H22.out.lt
  have hl32 := H32.out.lt
  clear hUn hv2 hlq hk2 hlr c1 fl
  go_upto_region 4 with fail
  generalize hw3 : World.setCell _ _ _ = w3
  have hbl3 : Blk w3 gl 44 #[.int .i64 (P.st : Nat), .int .i64 (P.S : Nat), .slice none 0 0, .bool P.sized] := by
    subst hw3; exact ((((H22.out.set_ 0 _).set_ 1 _).set_ 2 _).set_ 3 _).far (p := ⟨gn, 0, none⟩) hne _
  have hbn3 : Blk w3 gn 3 #[.int .i64 (P.len : Nat)] := by
    subst hw3
    exact ((((H32.out.far (p := ⟨gl, 0, none⟩) hne.symm _).far (p := ⟨gl, 1, none⟩) hne.symm _).far (p := ⟨gl, 2, none⟩) hne.symm _).far (p := ⟨gl, 3, none⟩) hne.symm _).set_ 0 _
  have hk3 : Keep w2 w3 (fun q => q = gl ∨ q = gn) := by
    subst hw3; exact (((((Keep.refl w2 _).setg 0 (fun _ => .inl rfl) _).setg 1 (fun _ => .inl rfl) _).setg 2 (fun _ => .inl rfl) _).setg 3 (fun _ => .inl rfl) _).setg 0 (fun _ => .inr rfl) _
  have hz3 := hk3.size
  have hzk := HK2.out.size
  have BX3 := BX2.out.keep hk3 (fun e => by rcases e with e | e <;> omega)
  have LRA := hide (HLR.out.keep hk3 (fun q hq hp e => by have := hp.1; rcases e with e | e <;> omega))
  have HK3 := hide ((HK2.out.nul (fun q => q = gl ∨ q = gn)).trans hk3 (fun _ _ e => e))
  have B4 := hide hbl3
  have BN := hide hbn3
  have x2 := BX3.cell 2 (v := .slice (some ⟨bq, 0, none⟩) P.L cq2) rfl
  have hlx := BX3.lt
  obtain ⟨B, hBe⟩ : ∃ B, B = w3.heap.size := ⟨_, rfl⟩
  have hBw : B ≤ w3.heap.size := by omega
  have mgl : gl < B := by omega
  have mgn : gn < B := by omega
  have mw : w.heap.size ≤ B := by omega
  have mw2 : w2.heap.size ≤ B := by omega
  clear hw3 hbl3 hbn3 hk3 BX3 hBe x0 x1 x3 fl0 fl1 fl2 fl3 fn0 y0 y1 y2 y3 z0
  go_wp2_with fail
  go_loopw [26] (fun s26 wr => ∃ (l : Nat) (A' : Option Addr) (c' : Nat) (dv : List Value), l ≤ P.L ∧ s26 = .int .i64 (l : Int) ∧ LO wr B 47 P.lc P.rs (.slice A' l c') l dv ∧ Blk wr gl 44 #[.int .i64 (P.st : Nat), .int .i64 (P.S : Nat), .slice A' l c', .bool P.sized] ∧ Keep w3 wr (fun q => q = gl ∨ B ≤ q)) (fun s26 _ => P.L - (intOf s26).toNat)
  case atStart => exact ⟨0, none, 0, [], by omega, rfl, LO.nil_ _ _ _ _ _, B4.out, Keep.refl _ _⟩
  case round =>
    obtain ⟨l, A', c', dv, hl, rfl, hlo, hb, hk⟩ := hrel
    have HLO := hide hlo
    have HB := hide hb
    have HK := hide hk
    have HL2 := hide (LRA.out.keep hk (fun i _ hi e => by have := hi.1; have := hi.2; rcases e with e | e <;> omega))
    have hBr : B ≤ _ := Nat.le_trans hBw hk.size
    clear hlo hb hk x2
    by_cases hlt : l < P.L
    · have kl : (l : Int) < (P.L : Int) := by omega
      obtain ⟨ds, hdse⟩ : ∃ ds, ds = gs.map (slI P.rs.length) := ⟨_, rfl⟩
      rw [← hdse] at HL2 LRA
      have hds : ds[l]? = some (ds[l]'(by rw [LRA.out.dl]; exact hlt)) := List.getElem?_eq_getElem _
      have c0 := HL2.out.cell l _ hds 0 _ rfl
      have c1 := HL2.out.cell l _ hds 1 _ rfl
      have c2 := HL2.out.cell l _ hds 2 _ rfl
      have c3 := HL2.out.cell l _ hds 3 _ rfl
      have c4 := HL2.out.cell l _ hds 4 _ rfl
      have c5 := HL2.out.cell l _ hds 5 _ rfl
      have hrt := HL2.out.rate l _ hds
      obtain ⟨Ad, cd, hd⟩ := hrt.shape
      rw [hd] at c2 hrt
      have hlc : ∀ d, P.lc l d = [.int .i64 (l / P.K : Nat), .int .i64 (l % P.K : Nat), d, .int .i64 (P.W l : Nat), .int .i64 (P.H l : Nat), .int .i64 (P.F : Nat)] := fun _ => rfl
      have HLC := hide hlc
      rw [Nat.add_zero] at c0
      rw [Nat.zero_add] at c0 c1 c2 c3 c4 c5
      have hbb := HL2.out.blt
      generalize P.W l = W at *
      generalize P.H l = H at *
      generalize P.F = F at *
      generalize l / P.K = sI at *
      generalize l % P.K = kI at *
      have HRT := hide hrt
      clear hds hd hlc hrt
      go_upto_region 7 with fail
      generalize hw2 : World.alloc wr _ = w2
      obtain ⟨g6, hg6⟩ : ∃ g6, g6 = wr.heap.size := ⟨_, rfl⟩
      rw [← hg6]
      have B6 := hide (show Blk w2 g6 72 #[.int .i64 (sI : Int), .int .i64 (kI : Int), .slice Ad P.rs.length cd, .int .i64 (W : Int), .int .i64 (H : Int), .int .i64 (F : Int)] by subst hw2 hg6; exact Blk.new wr _ _)
      have k2 : Keep wr w2 Nul := by subst hw2; exact (Keep.refl wr Nul).alloc _
      have K2 := hide k2
      have HB2 := hide (HB.out.keep k2 (fun e => e))
      have hz2 : w2.heap.size = wr.heap.size + 1 := by subst hw2; exact World.size_alloc _ _
      have hl4 := HB.out.lt
      have n64 : g6 ≠ gl := by omega
      have hg6w : wr.heap.size ≤ g6 := by omega
      have SO := hide (show ∀ w', Blk w' g6 72 #[.int .i64 (sI : Int), .int .i64 (kI : Int), .slice Ad P.rs.length cd, .int .i64 (W : Int), .int .i64 (H : Int), .int .i64 (F : Int)] → Blk w' gl 44 #[.int .i64 (P.st : Nat), .int .i64 (P.S : Nat), .slice A' l c', .bool P.sized] → (w'.cell? ⟨g6, 0, none⟩ = some (.int .i64 (sI : Int)) ∧ w'.cell? ⟨g6, 1, none⟩ = some (.int .i64 (kI : Int)) ∧ w'.cell? ⟨g6, 2, none⟩ = some (.slice Ad P.rs.length cd) ∧ w'.cell? ⟨g6, 3, none⟩ = some (.int .i64 (W : Int)) ∧ w'.cell? ⟨g6, 4, none⟩ = some (.int .i64 (H : Int)) ∧ w'.cell? ⟨g6, 5, none⟩ = some (.int .i64 (F : Int)) ∧ w'.cell? ⟨gl, 2, none⟩ = some (.slice A' l c')) from fun w' h6 h4 => ⟨h6.cell 0 rfl, h6.cell 1 rfl, h6.cell 2 rfl, h6.cell 3 rfl, h6.cell 4 rfl, h6.cell 5 rfl, h4.cell 2 rfl⟩)
      have hC := hide (clone_i w2.drew ((HRT.out.keep0 k2).drew) (fun u hu => by simp only [I64, List.mem_map] at hu; obtain ⟨r, _, rfl⟩ := hu; rfl) (by omega))
      have HNE := hide (show ¬ (Value.slice A' l c').ownBlock = some gl from HLO.out.own.ne_ HB.out (by decide))
      have hg6l := B6.out.lt
      clear hw2 hg6 k2 c0 c1 c2 c3 c4 c5
      refine wp_region_noPanic ?_
      refine region_last2' (S := fun w' => w'.cell? ⟨g6, 0, none⟩ = some (.int .i64 (sI : Int)) ∧ w'.cell? ⟨g6, 1, none⟩ = some (.int .i64 (kI : Int)) ∧ w'.cell? ⟨g6, 2, none⟩ = some (.slice Ad P.rs.length cd) ∧ w'.cell? ⟨g6, 3, none⟩ = some (.int .i64 (W : Int)) ∧ w'.cell? ⟨g6, 4, none⟩ = some (.int .i64 (H : Int)) ∧ w'.cell? ⟨g6, 5, none⟩ = some (.int .i64 (F : Int)) ∧ w'.cell? ⟨gl, 2, none⟩ = some (.slice A' l c')) (by kernel_rfl) (by kernel_rfl) (by simp only [List.dropLast_cons_cons, List.dropLast_singleton]; rfl) (by simp only [List.getLast?_cons_cons, List.getLast?_singleton]; rfl) (SO.out _ B6.out.drew HB2.out.drew) (fun hHeld => ?_)
      simp only [List.length_cons, List.length_nil, Nat.reduceAdd, Nat.zero_add]
      refine wpAnyH_take (i := 0) (v := ?_) (by simp only [List.getElem?_toArray, List.getElem?_cons_succ, List.getElem?_cons_zero]; rfl) (by kernel_rfl) (by kernel_rfl) (by kernel_rfl) (fun _ _ _ h => h) (Or.inl ⟨by rfl, ?_⟩) (by assumption) ?_
      rotate_left 1
      · (intro w hSw; (try dsimp only at hSw); go_simp; (try with_reducible rfl))
      try simp only [Act.put, List.setIfInBounds_toArray, List.set_cons_zero, List.set_cons_succ]
      refine wpAnyH_take (i := 1) (v := ?_) (by simp only [List.getElem?_toArray, List.getElem?_cons_succ, List.getElem?_cons_zero]; rfl) (by kernel_rfl) (by kernel_rfl) (by kernel_rfl) (fun _ _ _ h => h) (Or.inl ⟨by rfl, ?_⟩) (by assumption) ?_
      rotate_left 1
      · (intro w hSw; (try dsimp only at hSw); go_simp; (try with_reducible rfl))
      try simp only [Act.put, List.setIfInBounds_toArray, List.set_cons_zero, List.set_cons_succ]
      refine wpAnyH_take (i := 2) (v := ?_) (by simp only [List.getElem?_toArray, List.getElem?_cons_succ, List.getElem?_cons_zero]; rfl) (by kernel_rfl) (by kernel_rfl) (by kernel_rfl) (fun _ _ _ h => h) (Or.inl ⟨by rfl, ?_⟩) (by assumption) ?_
      rotate_left 1
      · (intro w hSw; (try dsimp only at hSw); go_simp; (try with_reducible rfl))
      try simp only [Act.put, List.setIfInBounds_toArray, List.set_cons_zero, List.set_cons_succ]
      refine wpAnyH_take (i := 3) (v := ?_) (by simp only [List.getElem?_toArray, List.getElem?_cons_succ, List.getElem?_cons_zero]; rfl) (by kernel_rfl) (by kernel_rfl) (by kernel_rfl) (fun _ _ _ h => h) (Or.inl ⟨by rfl, ?_⟩) (by assumption) ?_
      rotate_left 1
      · (intro w hSw; (try dsimp only at hSw); go_simp; (try with_reducible rfl))
      try simp only [Act.put, List.setIfInBounds_toArray, List.set_cons_zero, List.set_cons_succ]
      refine wpAnyH_take (i := 4) (v := ?_) (by simp only [List.getElem?_toArray, List.getElem?_cons_succ, List.getElem?_cons_zero]; rfl) (by kernel_rfl) (by kernel_rfl) (by kernel_rfl) (fun _ _ _ h => h) (Or.inl ⟨by rfl, ?_⟩) (by assumption) ?_
      rotate_left 1
      · (intro w hSw; (try dsimp only at hSw); go_simp; (try with_reducible rfl))
      try simp only [Act.put, List.setIfInBounds_toArray, List.set_cons_zero, List.set_cons_succ]
      refine wpAnyH_take (i := 5) (v := ?_) (by simp only [List.getElem?_toArray, List.getElem?_cons_succ, List.getElem?_cons_zero]; rfl) (by kernel_rfl) (by kernel_rfl) (by kernel_rfl) (fun _ _ _ h => h) (Or.inl ⟨by rfl, ?_⟩) (by assumption) ?_
      rotate_left 1
      · (intro w hSw; (try dsimp only at hSw); go_simp; (try with_reducible rfl))
      try simp only [Act.put, List.setIfInBounds_toArray, List.set_cons_zero, List.set_cons_succ]
      refine wpAnyH_take (i := 6) (v := ?_) (by simp only [List.getElem?_toArray, List.getElem?_cons_succ, List.getElem?_cons_zero]; rfl) (by kernel_rfl) (by kernel_rfl) (by kernel_rfl) (fun _ _ _ h => h) (Or.inl ⟨by rfl, ?_⟩) (by assumption) ?_
      rotate_left 1
      · (intro w hSw; (try dsimp only at hSw); go_simp; (try with_reducible rfl))
      try simp only [Act.put, List.setIfInBounds_toArray, List.set_cons_zero, List.set_cons_succ]
      refine wpAnyH_take (i := 7) (v := ?_) (by simp only [List.getElem?_toArray, List.getElem?_cons_succ, List.getElem?_cons_zero]; rfl) (by kernel_rfl) (by kernel_rfl) (by kernel_rfl) (fun _ _ _ h => h) (Or.inl ⟨by rfl, ?_⟩) (by assumption) ?_
      rotate_left 1
      · (intro w hSw; (try dsimp only at hSw); go_simp; (try with_reducible rfl))
      try simp only [Act.put, List.setIfInBounds_toArray, List.set_cons_zero, List.set_cons_succ]
      refine wpAnyH_take (i := 9) (v := ?_) (by simp only [List.getElem?_toArray, List.getElem?_cons_succ, List.getElem?_cons_zero]; rfl) (by kernel_rfl) (by kernel_rfl) (by kernel_rfl) (fun _ _ _ h => h) (Or.inl ⟨by rfl, ?_⟩) (by assumption) ?_
      rotate_left 1
      · (intro w hSw; (try dsimp only at hSw); go_simp; (try with_reducible rfl))
      try simp only [Act.put, List.setIfInBounds_toArray, List.set_cons_zero, List.set_cons_succ]
      refine wpAnyH_take (i := 10) (v := ?_) (by simp only [List.getElem?_toArray, List.getElem?_cons_succ, List.getElem?_cons_zero]; rfl) (by kernel_rfl) (by kernel_rfl) (by kernel_rfl) (fun _ _ _ h => h) (Or.inl ⟨by rfl, ?_⟩) (by assumption) ?_
      rotate_left 1
      · (intro w hSw; (try dsimp only at hSw); go_simp; (try with_reducible rfl))
      try simp only [Act.put, List.setIfInBounds_toArray, List.set_cons_zero, List.set_cons_succ]
      refine wpAnyH_take (i := 11) (v := ?_) (by simp only [List.getElem?_toArray, List.getElem?_cons_succ, List.getElem?_cons_zero]; rfl) (by kernel_rfl) (by kernel_rfl) (by kernel_rfl) (fun _ _ _ h => h) (Or.inl ⟨by rfl, ?_⟩) (by assumption) ?_
      rotate_left 1
      · (intro w hSw; (try dsimp only at hSw); go_simp; (try with_reducible rfl))
      try simp only [Act.put, List.setIfInBounds_toArray, List.set_cons_zero, List.set_cons_succ]
      refine wpAnyH_take (i := 12) (v := ?_) (by simp only [List.getElem?_toArray, List.getElem?_cons_succ, List.getElem?_cons_zero]; rfl) (by kernel_rfl) (by kernel_rfl) (by kernel_rfl) (fun _ _ _ h => h) (Or.inl ⟨by rfl, ?_⟩) (by assumption) ?_
      rotate_left 1
      · (intro w hSw; (try dsimp only at hSw); go_simp; (try with_reducible rfl))
      try simp only [Act.put, List.setIfInBounds_toArray, List.set_cons_zero, List.set_cons_succ]
      refine wpAnyH_take (i := 13) (v := ?_) (by simp only [List.getElem?_toArray, List.getElem?_cons_succ, List.getElem?_cons_zero]; rfl) (by kernel_rfl) (by kernel_rfl) (by kernel_rfl) (fun _ _ _ h => h) (Or.inl ⟨by rfl, ?_⟩) (by assumption) ?_
      rotate_left 1
      · (intro w hSw; (try dsimp only at hSw); go_simp; (try with_reducible rfl))
      try simp only [Act.put, List.setIfInBounds_toArray, List.set_cons_zero, List.set_cons_succ]
      refine wpAnyH_take (i := 14) (v := ?_) (by simp only [List.getElem?_toArray, List.getElem?_cons_succ, List.getElem?_cons_zero]; rfl) (by kernel_rfl) (by kernel_rfl) (by kernel_rfl) (fun _ _ _ h => h) (Or.inl ⟨by rfl, ?_⟩) (by assumption) ?_
      rotate_left 1
      · (intro w hSw; (try dsimp only at hSw); go_simp; (try with_reducible rfl))
      try simp only [Act.put, List.setIfInBounds_toArray, List.set_cons_zero, List.set_cons_succ]
      refine wpAnyH_ready (rs := [8]) (by kernel_rfl) (by simp) ?_
      refine AllReadyH.cons (by simp only [List.getElem?_toArray, List.getElem?_cons_succ, List.getElem?_cons_zero]; rfl) (fun K hK => ?_) AllReadyH.nil
      go_simp
      go_at_call 24
      refine (hC.out).mono ?_
      rintro e w3 ⟨v3, rfl, o3, k3, -⟩
      have K3 := hide ((K2.out.drew).trans0 k3)
      have B63 := B6.out.drew.keep k3 (fun e => e)
      have B43 := HB2.out.drew.keep k3 (fun e => e)
      have O3 := hide o3
      obtain ⟨A3, c3, rfl⟩ := o3.rd.shape
      have hz3 := k3.size
      clear k3 o3
      simp only []
      refine hK.out _ _ (SO.out _ B63 B43) (fun hHeld => ?_)
      clear hK K
      try simp only [Act.put, List.setIfInBounds_toArray, List.set_cons_zero, List.set_cons_succ]
      refine wpAnyH_take (i := 15) (v := ?_) (by simp only [List.getElem?_toArray, List.getElem?_cons_succ, List.getElem?_cons_zero]; rfl) (by kernel_rfl) (by kernel_rfl) (by kernel_rfl) (fun _ _ _ h => h) (Or.inl ⟨by rfl, ?_⟩) (by assumption) ?_
      rotate_left 1
      · (intro w hSw; (try dsimp only at hSw); go_simp; (try with_reducible rfl))
      try simp only [Act.put, List.setIfInBounds_toArray, List.set_cons_zero, List.set_cons_succ]
      refine wpAnyH_ready (rs := [16]) (by kernel_rfl) (by simp) ?_
      refine AllReadyH.cons (by simp only [List.getElem?_toArray, List.getElem?_cons_succ, List.getElem?_cons_zero]; rfl) (fun K hK => ?_) AllReadyH.nil
      go_simp
      refine hK.out _ _ (SO.out _ (B63.alloc _) (B43.alloc _)) (fun hHeld => ?_)
      clear hK K
      try simp only [Act.put, List.setIfInBounds_toArray, List.set_cons_zero, List.set_cons_succ]
      refine wpAnyH_ready (rs := [17]) (by kernel_rfl) (by simp) ?_
      refine AllReadyH.cons (by simp only [List.getElem?_toArray, List.getElem?_cons_succ, List.getElem?_cons_zero]; rfl) (fun K hK => ?_) AllReadyH.nil
      refine step_app etL (by rfl) _ _ (by rfl) ((HLO.out.keep0 K3.out).own.alloc (.cells #[.int .i64 (sI : Int), .int .i64 (kI : Int), .slice A3 P.rs.length c3, .int .i64 (W : Int), .int .i64 (H : Int), .int .i64 (F : Int)] 47)) (by rfl) (src_one (w := w3) (cs := #[.int .i64 (sI : Int), .int .i64 (kI : Int), .slice A3 P.rs.length c3, .int .i64 (W : Int), .int .i64 (H : Int), .int .i64 (F : Int)]) Tryd.underlying42 (by first | rfl | simp only [World.size_alloc]) rfl (by simp [Value.oneCell'])) (by rfl) (by simp only [maxLen]; omega) (by omega) (by simp only [World.size_alloc]; have h2 : w2.drew.heap.size = w2.heap.size := rfl; omega) ?_
      intro v5 w5 o5 k5 b5 z5 _
      have B45 := (B43.alloc (.cells #[.int .i64 (sI : Int), .int .i64 (kI : Int), .slice A3 P.rs.length c3, .int .i64 (W : Int), .int .i64 (H : Int), .int .i64 (F : Int)] 47)).keep k5 HNE.out
      have B65 := (B63.alloc (.cells #[.int .i64 (sI : Int), .int .i64 (kI : Int), .slice A3 P.rs.length c3, .int .i64 (W : Int), .int .i64 (H : Int), .int .i64 (F : Int)] 47)).keep k5 (fun e => by have := (HLO.out.own.at_ _ e).2.1; omega)
      have f10 := B45.free 2
      have g10 := B45.cell 2 (v := .slice A' l c') rfl
      have l5 := B45.lt
      obtain ⟨A5, c5, rfl⟩ := o5.rd.shape
      refine hK.out _ _ (SO.out _ B65 B45) (fun hHeld => ?_)
      clear hK K
      try simp only [Act.put, List.setIfInBounds_toArray, List.set_cons_zero, List.set_cons_succ]
      refine wpAnyH_take (i := 18) (v := ?_) (by simp only [List.getElem?_toArray, List.getElem?_cons_succ, List.getElem?_cons_zero]; rfl) (by kernel_rfl) (by kernel_rfl) (by kernel_rfl) (fun _ _ _ h => h) (Or.inl ⟨by rfl, ?_⟩) (by assumption) ?_
      rotate_left 1
      · (intro w hSw; (try dsimp only at hSw); go_simp; (try with_reducible rfl))
      try simp only [Act.put, List.setIfInBounds_toArray, List.set_cons_zero, List.set_cons_succ]
      refine wpAnyH_done (by kernel_rfl) ?_ _
      intro K hK
      go_simp
      refine hK _ _ (NoPanic.normal ?_)
      clear hK K
      have hwa := World.size_alloc w3 (.cells #[.int .i64 (sI : Int), .int .i64 (kI : Int), .slice A3 P.rs.length c3, .int .i64 (W : Int), .int .i64 (H : Int), .int .i64 (F : Int)] 47)
      have h22 : w2.drew.heap.size = w2.heap.size := rfl
      have hLO := HLO.out.more (d := .slice A3 P.rs.length c3) (wa := w3.alloc (.cells #[.int .i64 (sI : Int), .int .i64 (kI : Int), .slice A3 P.rs.length c3, .int .i64 (W : Int), .int .i64 (H : Int), .int .i64 (F : Int)] 47)) (K3.out.alloc _) k5 (by rw [HLC.out]; exact o5) (fun q hq => by
        rcases b5 with h | h
        · exact .inl (h ▸ hq)
        · rw [h] at hq
          injection hq with hq
          exact .inr (by omega))
        (((O3.out.alloc _).rdB).mono (fun q hq (h : w2.drew.heap.size ≤ q) => ⟨by omega, hq⟩)) hBr
      have kst : Keep w5 (w5.setCell ⟨gl, 2, none⟩ (.slice A5 (l + 1) c5)) (· = gl) := Keep.set1 _ _ _ _
      have HLO5 := hide (hLO.keep kst (fun q _ e => by have : q = gl := e; omega))
      have HB5 := hide (B45.set_ 2 (.slice A5 (l + 1) c5))
      have HK5 := hide (((HK.out.trans0 (K3.out.alloc (.cells #[.int .i64 (sI : Int), .int .i64 (kI : Int), .slice A3 P.rs.length c3, .int .i64 (W : Int), .int .i64 (H : Int), .int .i64 (F : Int)] 47))).trans k5 (fun q _ e => .inr (HLO.out.own.at_ q e).1)).trans kst (fun _ _ e => .inl e))
      generalize hw6 : World.setCell w5 _ _ = w6 at *
      clear hw6 hLO kst o5 k5 b5 z5 B45 B65 f10 g10 hHeld hC
      refine (show ∀ a w, _ → _ by assumption) _ _ ?_
      go_wp2_with fail
      go_roundw
      case rel => exact ⟨l + 1, A5, c5, _, by omega, by go_num, HLO5.out, HB5.out, HK5.out⟩
      case measure => simp [intOf]; omega
    · obtain rfl : l = P.L := by omega
      have hKw := HK3.out.trans HK.out (fun i hi e => by rcases e with e | e; exact .inl e; omega)
      have HKW := hide hKw
      have BN2 := hide (BN.out.keep HK.out (fun e => by rcases e with e | e; exact hne e.symm; omega))
      clear hKw
      go_wp2_with fail
      go_ret
      exact ⟨rfl, ⟨A', c', dv, HB.out, HLO.out.low mw⟩, BN2.out, HKW.out⟩
end Go.Proofs.YtdlnmkpojiofoaaDoor
