/-
  slices.Clone of numbers; the thin package's header, as one of the package. Conditions: those that stand in each theorem.
-/
import Derived.Test.YtdmnflngafbobaaDoorGiven
import Derived.Test.YtdmnflngafbobaaDoorLast
import Derived.Deep.RegionHeld3
import Derived.Deep.RegionWith
import Derived.Deep.DeepCutAuto
namespace Go.Proofs.YtdmnflngafbobaaDoor
open Go.RowKit
set_option linter.unusedVariables false
set_option linter.unusedSimpArgs false
set_option maxRecDepth 20000

theorem etU : ET Tryd.prog 24 23 (.int .u32 0) 1 4 := ⟨Tryd.underlying24, by kernel_rfl, rfl, by decide⟩

/-- slices.Clone of numbers of 32 bits. -/
theorem clone_u {p : Nat → Prop} {v : Value} {n : Nat} {xs : List Value} (w : World) (h : Rd w p 1 v n xs) (h1 : ∀ u ∈ xs, u.oneCell' = true) (hn : n ≤ 35184372088832) :
    Calls Tryd.prog 96 #[v] w fun e w' => ∃ v', e = .returned v' ∧ Own w' w.heap.size 23 1 v' n xs ∧ Keep w w' Nul ∧ (v' = .slice none 0 0 ↔ v.ownBlock = none) := by
  have hS := src_of_rd (P := Tryd.prog) w Tryd.underlying24 h h1
  have hSA := fun o => src_of_rd (P := Tryd.prog) (w.alloc o) Tryd.underlying24 (h.alloc o) h1
  obtain ⟨hl, A, c, rfl, h2, h3, h4, h5⟩ := h
  have kn := fun w => Lib.run_eql_slice_nil (P := Tryd.prog) w 24 23 A n c 0 0 Tryd.underlying24
  cases A with
  | none =>
    have hn0 : n = 0 := by have := h4 rfl; omega
    subst hn0
    have hx : xs = [] := List.eq_nil_of_length_eq_zero (by simpa using hl)
    subst hx
    clear hS hSA h5 h4 hl
    go_enter Tryd.func96, Tryd.ntmps96
    go_wp2
    go_ret
    exact ⟨_, rfl, Own.nil_ _ _ _ _, Keep.refl _ _, by simp [Value.ownBlock]⟩
  | some ad =>
    clear hS h5 h4 hl
    have h0 := Own.of_lit (e := 23) (sz := 1) w #[] 0 (by simp [maxLen]) rfl
    go_enter Tryd.func96, Tryd.ntmps96
    go_wp2_with (at_builtin; refine wpList_app etU rfl _ _ rfl h0 rfl (hSA _) rfl (by omega) (by omega) (by simp) ?_; intro v' w' ho hk hb hz _)
    go_ret
    refine ⟨_, rfl, ?_, ?_, ?_⟩
    · simpa using ho
    · exact ((Keep.refl w Nul).alloc _).trans hk (fun i hi e => by simp [Value.ownBlock] at e; omega)
    · constructor
      · rintro rfl
        rcases hb with hb | hb <;> simp [Value.ownBlock] at hb
      · intro hc
        simp [Value.ownBlock] at hc

/-- append inside a region that draws its order. -/
theorem step_app {P : Program} {w : World} {ops : Array Oper} {o : Oper} {a : Act} {K : Act → World → Prop} {Q : Exit → Act → World → Prop} {E : Prop} {t tx e : TypeId} {z : Value} {sz bytes : Nat} (T : ET P t e z sz bytes) (hgd : o.guard = none) (s x : Operand)
    (ho : o.op = .call { callee := .builtin .append, args := #[s, x], argTypes := #[t, tx] })
    {B : Nat} {v : Value} {n : Nat} {xs : List Value} (hown : Own w B e sz v n xs) (hv : a.eval s = v) {y : Value} {m : Nat} {ys : List Value} (hs : Src P sz tx y m ys w) (hy : a.eval x = y)
    (h63 : n + m ≤ maxLen) (hbytes : (n + m) * bytes ≤ 140737488355328) (hB : B ≤ w.heap.size)
    (h : ∀ v' w', Own w' B e sz v' (n + m) (xs ++ ys) → Keep w w' (fun k => v.ownBlock = some k) → (v'.ownBlock = v.ownBlock ∨ v'.ownBlock = some w.heap.size) → w'.heap.size ≤ w.heap.size + 1 → Own w' B e sz v n xs → K (a.put o.dst v') w') :
    if Region.wanted o (yielded ops a.tmps) = true then Oper.wp P o a w K Q else E := by
  have hw : Region.wanted o (yielded ops a.tmps) = true := by simp [Region.wanted, hgd]
  rw [if_pos hw]
  obtain ⟨v', w', hr, h1, h2, h3, h4, h5⟩ := run_app' (P := P) T o.type hown hs h63 hbytes hB
  unfold Oper.wp execOp
  simp only [ho, resolve, invoke, builtin, Sem.run_bind, Sem.run_pure, Result.andThen_ok, List.map_toArray, List.map_cons, List.map_nil, hv, hy, hr]
  exact h v' w' h1 h2 h3 h4 h5

theorem etX : ET Tryd.prog 106 139 (.agg #[.int .u8 0, .slice none 0 0]) 2 32 := ⟨Tryd.underlying106, by kernel_rfl, rfl, by decide⟩

/-- The cells of a header of the package. -/
def rcells (h : Hd) (sv xv : Value) (off : Int) : Array Value :=
  #[.int .u8 h.v, .bool h.pad, .bool h.ext, .bool h.mark, .int .u8 h.ty, .int .u16 h.seq, .int .u32 h.time, .int .u32 h.ssrc, sv, .int .u16 h.prof, xv, .int .u8 h.padn, .int .i64 off]
/-- A header of the package, by its cells: in blocks of which p holds. -/
def RH (w : World) (p : Nat → Prop) (cs : Array Value) (h : Hd) : Prop :=
  ∃ sv xv off, cs = rcells h sv xv off ∧ Rd w p 1 sv h.srcs.length (U32 h.srcs) ∧ XR w p xv h.exts

theorem newext_walk (w : World) (id : Int) (A : Option Addr) (n c : Nat) :
    Calls Tryd.prog 97 #[.int .u8 id, .slice A n c] w fun e w' => e = .returned (.agg #[.int .u8 id, .slice A n c]) ∧ Keep w w' Nul := by
  go_enter Tryd.func97, Tryd.ntmps97
  go_wp2_with fail
  exact bodyPost_ret (v := .agg #[.int .u8 id, .slice A n c]) (by simp [results, Tryd.results97, go_sem]) rfl ⟨rfl, by (repeat (first | exact Keep.refl _ _ | refine Keep.alloc ?_ _))⟩

theorem id_walk (w : World) (id : Int) (d : Value) :
    Calls Tryd.prog 100 #[.agg #[.int .u8 id, d]] w fun e w' => e = .returned (.int .u8 id) ∧ Keep w w' Nul := by
  go_enter Tryd.func100, Tryd.ntmps100
  go_wp2_with fail
  go_ret
  exact ⟨rfl, (Keep.refl _ _).alloc _⟩
theorem payload_walk (w : World) (id : Int) (d : Value) :
    Calls Tryd.prog 101 #[.agg #[.int .u8 id, d]] w fun e w' => e = .returned d ∧ Keep w w' Nul := by
  go_enter Tryd.func101, Tryd.ntmps101
  go_wp2_with fail
  go_ret
  exact ⟨rfl, (Keep.refl _ _).alloc _⟩

/-- A block of bytes that lies at B or above. -/
def Byt (w : World) (B : Nat) (k : Nat) : Prop := B ≤ k ∧ ∃ cur fr, w.heap[k]? = some (.cells cur 5 fr)
theorem Own.byt {w : World} {B n : Nat} {v : Value} {xs : List Value} (h : Own w B 5 1 v n xs) : Rd w (Byt w B) 1 v n xs :=
  h.rd.mono fun k _ hk => ⟨(h.at_ k hk).1, (h.at_ k hk).2.2⟩

theorem Byt.keep {w w' : World} {S : Nat → Prop} {B i : Nat} (h : Byt w B i) (k : Keep w w' S) (hS : ¬ S i) : Byt w' B i := by
  obtain ⟨h1, cur, fr, h2⟩ := h
  exact ⟨h1, cur, fr, (k.block i (Array.getElem?_eq_some_iff.1 h2).1 hS).trans h2⟩
theorem Byt.low {w : World} {B B' i : Nat} (h : Byt w B i) (hB : B' ≤ B) : Byt w B' i := ⟨Nat.le_trans hB h.1, h.2⟩
theorem Byt.ne_own {w : World} {B B' i : Nat} {e : TypeId} {sz n : Nat} {v : Value} {xs : List Value} (h : Byt w B i) (o : Own w B' e sz v n xs) (hne : e ≠ 5) : ¬ v.ownBlock = some i := fun e1 => by
  obtain ⟨_, cur, fr, h2⟩ := h
  obtain ⟨_, _, cur', fr', h3⟩ := o.at_ i e1
  rw [h2] at h3
  injection h3 with h3
  injection h3 with _ h3 _
  exact hne h3.symm
theorem Byt.ne_blk {w : World} {B i g : Nat} {t : TypeId} {cs : Array Value} (h : Byt w B i) (b : Blk w g t cs) (hne : t ≠ 5) : ¬ i = g := fun e1 => by
  obtain ⟨_, cur, fr, h2⟩ := h
  subst e1
  have b' : w.heap[i]? = some (.cells cs t (0, 0)) := b
  rw [h2] at b'
  injection b' with h3
  injection h3 with _ h3 _
  exact hne h3.symm
theorem Ds.byt {w w' : World} {S : Nat → Prop} {B : Nat} {xs : List Ex} {ds : List Value} (h : Ds w (Byt w B) xs ds) (k : Keep w w' S) (hS : ∀ i, Byt w B i → ¬ S i) : Ds w' (Byt w' B) xs ds :=
  ⟨h.1, fun j x d h1 h2 => by
    have := (h.2 j x d h1 h2).keep k (fun i _ hp => hS i hp)
    obtain ⟨hl, A, c, rfl, q1, q2, q3, q4⟩ := h.2 j x d h1 h2
    refine ⟨hl, A, c, rfl, q1, q2, q3, fun i u hu => ?_⟩
    obtain ⟨ad, e, hb, hc⟩ := q4 i u hu
    exact ⟨ad, e, hb.keep k (hS _ hb), k.cell (by rw [blk_add]; exact hS _ hb) hc⟩⟩
theorem Rd.byt {w w' : World} {S : Nat → Prop} {B sz n : Nat} {v : Value} {xs : List Value} (h : Rd w (Byt w B) sz v n xs) (k : Keep w w' S) (hS : ∀ i, Byt w B i → ¬ S i) : Rd w' (Byt w' B) sz v n xs := by
  obtain ⟨hl, A, c, rfl, q1, q2, q3, q4⟩ := h
  refine ⟨hl, A, c, rfl, q1, q2, q3, fun i u hu => ?_⟩
  obtain ⟨ad, e, hb, hc⟩ := q4 i u hu
  exact ⟨ad, e, hb.keep k (hS _ hb), k.cell (by rw [blk_add]; exact hS _ hb) hc⟩

/-- A header of the package at g, all that it holds made at B or above. -/
def RP (w : World) (B g : Nat) (hd : Hd) : Prop :=
  B ≤ g ∧ ∃ (sv xv : Value) (ds : List Value) (off : Int), Blk w g 108 (rcells hd sv xv off) ∧ Own w B 23 1 sv hd.srcs.length (U32 hd.srcs) ∧ Own w B 139 2 xv hd.exts.length (xcells hd.exts ds) ∧ Ds w (Byt w B) hd.exts ds

set_option maxHeartbeats 3200000 in
theorem header_walk {p : Nat → Prop} {v : Value} {hd : Hd} (w : World) (hh : HV w p v hd) (hn : hd.exts.length ≤ 2147483647) (hs : hd.srcs.length ≤ 2147483647) (hdn : ∀ x ∈ hd.exts, x.data.length ≤ 2147483647) :
    Calls Tryd.prog 54 #[v] w fun e w' => Keep w w' Nul ∧ ∃ g, e = .returned (.pointer (some ⟨g, 0, none⟩)) ∧ RP w' w.heap.size g hd := by
  obtain ⟨sv, xv, rfl, h1, h2⟩ := hh.mono (q := (· < w.heap.size)) (fun k hk _ => hk)
  obtain ⟨A1, c1, rfl⟩ := h1.shape
  obtain ⟨A2, c2, rfl⟩ := h2.shape
  have H1 := hide h1
  have H2 := hide h2
  have HD := hide hdn
  clear h1 h2 hdn
  unfold hcells at *
  go_enter Tryd.func54, Tryd.ntmps54
  go_upto_region 1 with fail
  generalize hwa : World.alloc w _ = wa
  have BX := hide (show Blk wa w.heap.size 35 (hcells hd (.slice A1 hd.srcs.length c1) (.slice A2 hd.exts.length c2)) by subst hwa; exact Blk.new w _ _)
  have HK := hide (show Keep w wa Nul by subst hwa; exact (Keep.refl w Nul).alloc _)
  have hsz : wa.heap.size = w.heap.size + 1 := by subst hwa; simp [World.size_alloc]
  generalize hv0 : Value.agg _ = v0
  clear hv0 hwa
  have b0 := BX.out.cell 0 (v := .int .u8 hd.v) rfl
  have b1 := BX.out.cell 1 (v := .bool hd.pad) rfl
  have b2 := BX.out.cell 2 (v := .bool hd.ext) rfl
  have b3 := BX.out.cell 3 (v := .bool hd.mark) rfl
  have b4 := BX.out.cell 4 (v := .int .u8 hd.ty) rfl
  have b5 := BX.out.cell 5 (v := .int .u16 hd.seq) rfl
  have b6 := BX.out.cell 6 (v := .int .u32 hd.time) rfl
  have b7 := BX.out.cell 7 (v := .int .u32 hd.ssrc) rfl
  have b8 := BX.out.cell 8 (v := .slice A1 hd.srcs.length c1) rfl
  have b9 := BX.out.cell 9 (v := .int .u16 hd.prof) rfl
  have b11 := BX.out.cell 11 (v := .int .u8 hd.padn) rfl
  have hC := hide (clone_u wa.drew ((H1.out.keep0 HK.out).drew) (U32_one _) (by omega))
  go_cut [3] (fun s3 wx => Keep wa wx Nul ∧ ∃ (g : Nat) (sv : Value), s3 = .pointer (some ⟨g, 0, none⟩) ∧ wa.heap.size ≤ g ∧ Blk wx g 108 (rcells hd sv (.slice none 0 0) 0) ∧ Own wx wa.heap.size 23 1 sv hd.srcs.length (U32 hd.srcs))
  case first =>
    go_region_held3 (fun w' => w'.cell? ⟨w.heap.size, 0, none⟩ = some (.int .u8 hd.v) ∧ w'.cell? ⟨w.heap.size, 1, none⟩ = some (.bool hd.pad) ∧ w'.cell? ⟨w.heap.size, 2, none⟩ = some (.bool hd.ext) ∧ w'.cell? ⟨w.heap.size, 3, none⟩ = some (.bool hd.mark) ∧ w'.cell? ⟨w.heap.size, 4, none⟩ = some (.int .u8 hd.ty) ∧ w'.cell? ⟨w.heap.size, 5, none⟩ = some (.int .u16 hd.seq) ∧ w'.cell? ⟨w.heap.size, 6, none⟩ = some (.int .u32 hd.time) ∧ w'.cell? ⟨w.heap.size, 7, none⟩ = some (.int .u32 hd.ssrc) ∧ w'.cell? ⟨w.heap.size, 8, none⟩ = some (.slice A1 hd.srcs.length c1) ∧ w'.cell? ⟨w.heap.size, 9, none⟩ = some (.int .u16 hd.prof) ∧ w'.cell? ⟨w.heap.size, 11, none⟩ = some (.int .u8 hd.padn))
      (first | exact ⟨b0, b1, b2, b3, b4, b5, b6, b7, b8, b9, b11⟩ | exact ⟨bx1.cell 0 rfl, bx1.cell 1 rfl, bx1.cell 2 rfl, bx1.cell 3 rfl, bx1.cell 4 rfl, bx1.cell 5 rfl, bx1.cell 6 rfl, bx1.cell 7 rfl, bx1.cell 8 rfl, bx1.cell 9 rfl, bx1.cell 11 rfl⟩ | exact ⟨(bx1.alloc _).cell 0 rfl, (bx1.alloc _).cell 1 rfl, (bx1.alloc _).cell 2 rfl, (bx1.alloc _).cell 3 rfl, (bx1.alloc _).cell 4 rfl, (bx1.alloc _).cell 5 rfl, (bx1.alloc _).cell 6 rfl, (bx1.alloc _).cell 7 rfl, (bx1.alloc _).cell 8 rfl, (bx1.alloc _).cell 9 rfl, (bx1.alloc _).cell 11 rfl⟩)
      (first
        | (go_at_call 96; refine hC.out.mono ?_; rintro e w1 ⟨v1, rfl, o1, k1, -⟩; have bx1 := BX.out.drew.keep k1 id; obtain ⟨Ac, cc, rfl⟩ := o1.rd.shape))
    have o2 := o1.alloc (.cells (rcells hd (.slice Ac hd.srcs.length cc) (.slice none 0 0) 0) 108)
    have O2 := hide o2
    have bn := hide (Blk.new w1 108 (rcells hd (.slice Ac hd.srcs.length cc) (.slice none 0 0) 0))
    have kn := hide ((((Keep.refl wa Nul).drew).trans0 k1).alloc (.cells (rcells hd (.slice Ac hd.srcs.length cc) (.slice none 0 0) 0) 108))
    have hz := k1.size
    clear o1 k1 bx1 o2
    go_wp2_with fail
    go_meet
    exact ⟨kn.out, _, _, rfl, hz, bn.out, O2.out⟩
  case rest =>
  obtain ⟨kc, g, sv, rfl, hg, hB, hS⟩ := hcut
  have HKC := hide kc
  have HB := hide hB
  have HS := hide hS
  have t10 := (BX.out.keep kc id).cell 10 (v := .slice A2 hd.exts.length c2) rfl
  have hzc := kc.size
  clear kc hB hS b0 b1 b2 b3 b4 b5 b6 b7 b8 b9 b11 hC
  go_wp2_with fail
  go_loopw [34] (fun i wr => ∃ (k : Nat) (u : Value) (ds : List Value), k ≤ hd.exts.length ∧ i = .int .i64 k ∧ Blk wr g 108 (rcells hd sv u 0) ∧ Own wr wc.heap.size 139 2 u k (xcells (hd.exts.take k) ds) ∧ Ds wr (Byt wr wc.heap.size) (hd.exts.take k) ds ∧ Keep wc wr (· = g)) (fun i _ => hd.exts.length - (intOf i).toNat)
  case atStart => exact ⟨0, .slice none 0 0, [], Nat.zero_le _, rfl, HB.out, Own.nil_ _ _ _ _, ⟨rfl, by simp⟩, Keep.refl _ _⟩
  case round =>
    obtain ⟨k, u, ds, hk, rfl, hB, hO, hD, hK⟩ := hrel
    by_cases hlt : k < hd.exts.length
    · have hg' : hd.exts[k]? = some hd.exts[k] := List.getElem?_eq_getElem _
      obtain ⟨b, o, c', d, hv, q1, q2, q3, q4, p5, p6, q7⟩ := H2.out.at_ hg'
      injection hv with e1 _ e3
      subst e1 e3
      have HG := hide hg'
      have hxl := HD.out _ (List.mem_of_getElem? hg')
      clear hg'
      generalize hd.exts[k] = x at *
      have hKw : Keep w wr Nul := (HK.out.trans0 HKC.out).trans hK (fun i hi e => by omega)
      have q5 := hKw.cell id p5
      have q6 := hKw.cell id p6
      obtain ⟨A', c2', rfl⟩ := q7.shape
      have Q7 := hide (q7.keep0 hKw)
      have hsz2 := hK.size
      have hgl := hB.lt
      obtain ⟨Au, cu, rfl⟩ := hO.rd.shape
      have HNE := hide (hO.ne_ hB (by decide))
      have HB' := hide hB
      have HO := hide hO
      have HDD := hide hD
      have HKr := hide hK
      have HKw := hide hKw
      clear q7 p5 p6 hB hO hD hK hKw
      go_upto_region 5 with fail
      generalize hwb : World.alloc wr _ = wb
      have XB := hide (show Blk wb wr.heap.size 102 #[.int .u8 x.id, .slice A' x.data.length c2'] by subst hwb; exact Blk.new wr _ _)
      have KB := hide (show Keep wr wb Nul by subst hwb; exact (Keep.refl wr Nul).alloc _)
      have HBB := hide (HB'.out.keep KB.out id)
      have hwbs : wb.heap.size = wr.heap.size + 1 := by subst hwb; simp [World.size_alloc]
      clear hwb
      have e0 := XB.out.cell 0 (v := .int .u8 x.id) rfl
      have e1 := XB.out.cell 1 (v := .slice A' x.data.length c2') rfl
      have t10' := HBB.out.cell 10 (v := .slice Au k cu) rfl
      have hgb := HBB.out.lt
      have hxb := XB.out.lt
      have hC := hide (clone_b wb.drew ((Q7.out.keep0 KB.out).drew) (B8_one _) (by omega))
      have HOB := hide ((HO.out.keep0 KB.out).keep0 ((Keep.refl wb Nul).drew))
      refine wp_region_noPanic ?_
      refine region_last' (S := fun w' => w'.cell? ⟨wr.heap.size, 0, none⟩ = some (.int .u8 x.id) ∧ w'.cell? ⟨wr.heap.size, 1, none⟩ = some (.slice A' x.data.length c2') ∧ w'.cell? ⟨g, 10, none⟩ = some (.slice Au k cu)) (by kernel_rfl) (by kernel_rfl) (by simp only [List.dropLast_cons_cons, List.dropLast_singleton]; rfl) (by simp only [List.getLast?_cons_cons, List.getLast?_singleton]; rfl) (⟨e0, e1, t10'⟩) (fun hHeld => ?_)
      simp only [List.length_cons, List.length_nil, Nat.reduceAdd, Nat.zero_add]
      refine wpAnyH_take (i := 0) (v := ?_) (by simp only [List.getElem?_toArray, List.getElem?_cons_succ, List.getElem?_cons_zero]; rfl) (by kernel_rfl) (by kernel_rfl) (by kernel_rfl) (fun _ _ _ h => h) (Or.inl ⟨by rfl, ?_⟩) (by assumption) ?_
      rotate_left 1
      · (intro w hSw; (try dsimp only at hSw); go_simp; (try with_reducible rfl))
      try simp only [Act.put, List.setIfInBounds_toArray, List.set_cons_zero, List.set_cons_succ]
      refine wpAnyH_take (i := 1) (v := ?_) (by simp only [List.getElem?_toArray, List.getElem?_cons_succ, List.getElem?_cons_zero]; rfl) (by kernel_rfl) (by kernel_rfl) (by kernel_rfl) (fun _ _ _ h => h) (Or.inl ⟨by rfl, ?_⟩) (by assumption) ?_
      rotate_left 1
      · (intro w hSw; (try dsimp only at hSw); go_simp; (try with_reducible rfl))
      try simp only [Act.put, List.setIfInBounds_toArray, List.set_cons_zero, List.set_cons_succ]
      refine wpAnyH_take (i := 2) (v := ?_) (by simp only [List.getElem?_toArray, List.getElem?_cons_succ, List.getElem?_cons_zero]; rfl) (by kernel_rfl) (by kernel_rfl) (by kernel_rfl) (fun _ _ _ h => h) (Or.inl ⟨by rfl, ?_⟩) (by assumption) ?_
      rotate_left 1
      · (intro w hSw; (try dsimp only at hSw); go_simp; (try with_reducible rfl))
      try simp only [Act.put, List.setIfInBounds_toArray, List.set_cons_zero, List.set_cons_succ]
      refine wpAnyH_take (i := 3) (v := ?_) (by simp only [List.getElem?_toArray, List.getElem?_cons_succ, List.getElem?_cons_zero]; rfl) (by kernel_rfl) (by kernel_rfl) (by kernel_rfl) (fun _ _ _ h => h) (Or.inl ⟨by rfl, ?_⟩) (by assumption) ?_
      rotate_left 1
      · (intro w hSw; (try dsimp only at hSw); go_simp; (try with_reducible rfl))
      try simp only [Act.put, List.setIfInBounds_toArray, List.set_cons_zero, List.set_cons_succ]
      refine wpAnyH_take (i := 4) (v := ?_) (by simp only [List.getElem?_toArray, List.getElem?_cons_succ, List.getElem?_cons_zero]; rfl) (by kernel_rfl) (by kernel_rfl) (by kernel_rfl) (fun _ _ _ h => h) (Or.inl ⟨by rfl, ?_⟩) (by assumption) ?_
      rotate_left 1
      · (intro w hSw; (try dsimp only at hSw); go_simp; (try with_reducible rfl))
      try simp only [Act.put, List.setIfInBounds_toArray, List.set_cons_zero, List.set_cons_succ]
      refine wpAnyH_take (i := 5) (v := ?_) (by simp only [List.getElem?_toArray, List.getElem?_cons_succ, List.getElem?_cons_zero]; rfl) (by kernel_rfl) (by kernel_rfl) (by kernel_rfl) (fun _ _ _ h => h) (Or.inl ⟨by rfl, ?_⟩) (by assumption) ?_
      rotate_left 1
      · (intro w hSw; (try dsimp only at hSw); go_simp; (try with_reducible rfl))
      try simp only [Act.put, List.setIfInBounds_toArray, List.set_cons_zero, List.set_cons_succ]
      refine wpAnyH_take (i := 6) (v := ?_) (by simp only [List.getElem?_toArray, List.getElem?_cons_succ, List.getElem?_cons_zero]; rfl) (by kernel_rfl) (by kernel_rfl) (by kernel_rfl) (fun _ _ _ h => h) (Or.inl ⟨by rfl, ?_⟩) (by assumption) ?_
      rotate_left 1
      · (intro w hSw; (try dsimp only at hSw); go_simp; (try with_reducible rfl))
      try simp only [Act.put, List.setIfInBounds_toArray, List.set_cons_zero, List.set_cons_succ]
      refine wpAnyH_take (i := 7) (v := ?_) (by simp only [List.getElem?_toArray, List.getElem?_cons_succ, List.getElem?_cons_zero]; rfl) (by kernel_rfl) (by kernel_rfl) (by kernel_rfl) (fun _ _ _ h => h) (Or.inl ⟨by rfl, ?_⟩) (by assumption) ?_
      rotate_left 1
      · (intro w hSw; (try dsimp only at hSw); go_simp; (try with_reducible rfl))
      try simp only [Act.put, List.setIfInBounds_toArray, List.set_cons_zero, List.set_cons_succ]
      refine wpAnyH_take (i := 8) (v := ?_) (by simp only [List.getElem?_toArray, List.getElem?_cons_succ, List.getElem?_cons_zero]; rfl) (by kernel_rfl) (by kernel_rfl) (by kernel_rfl) (fun _ _ _ h => h) (Or.inl ⟨by rfl, ?_⟩) (by assumption) ?_
      rotate_left 1
      · (intro w hSw; (try dsimp only at hSw); go_simp; (try with_reducible rfl))
      try simp only [Act.put, List.setIfInBounds_toArray, List.set_cons_zero, List.set_cons_succ]
      refine wpAnyH_ready (rs := [9]) (by kernel_rfl) (by simp) ?_
      refine AllReadyH.cons (by simp only [List.getElem?_toArray, List.getElem?_cons_succ, List.getElem?_cons_zero]; rfl) (fun K hK => ?_) AllReadyH.nil
      go_simp
      go_at_call 65
      refine hC.out.mono ?_
      rintro e w1 ⟨v1, rfl, o1, k1, -⟩
      have hb1 := HBB.out.drew.keep k1 id
      have bx1 := XB.out.drew.keep k1 id
      have ho1 := HOB.out.keep0 k1
      have z1' : wb.heap.size ≤ w1.heap.size := k1.size
      obtain ⟨Ac, cc, rfl⟩ := o1.rd.shape
      simp only []
      refine hK.out _ _ (⟨bx1.cell 0 rfl, bx1.cell 1 rfl, hb1.cell 10 rfl⟩) (fun hHeld => ?_)
      clear hK K
      try simp only [Act.put, List.setIfInBounds_toArray, List.set_cons_zero, List.set_cons_succ]
      refine wpAnyH_ready (rs := [10]) (by kernel_rfl) (by simp) ?_
      refine AllReadyH.cons (by simp only [List.getElem?_toArray, List.getElem?_cons_succ, List.getElem?_cons_zero]; rfl) (fun K hK => ?_) AllReadyH.nil
      go_simp
      go_at_call 97
      refine (newext_walk _ x.id _ _ _).mono ?_
      rintro e w2 ⟨rfl, k2⟩
      have hb2 := hb1.keep k2 id
      have bx2 := bx1.keep k2 id
      have ho2 := ho1.keep0 k2
      have z2' : wb.heap.size ≤ w2.heap.size := Nat.le_trans z1' k2.size
      simp only []
      refine hK.out _ _ (⟨bx2.cell 0 rfl, bx2.cell 1 rfl, hb2.cell 10 rfl⟩) (fun hHeld => ?_)
      clear hK K
      try simp only [Act.put, List.setIfInBounds_toArray, List.set_cons_zero, List.set_cons_succ]
      refine wpAnyH_ready (rs := [11]) (by kernel_rfl) (by simp) ?_
      refine AllReadyH.cons (by simp only [List.getElem?_toArray, List.getElem?_cons_succ, List.getElem?_cons_zero]; rfl) (fun K hK => ?_) AllReadyH.nil
      go_simp
      refine hK.out _ _ (⟨(bx2.alloc _).cell 0 rfl, (bx2.alloc _).cell 1 rfl, (hb2.alloc _).cell 10 rfl⟩) (fun hHeld => ?_)
      clear hK K
      try simp only [Act.put, List.setIfInBounds_toArray, List.set_cons_zero, List.set_cons_succ]
      refine wpAnyH_ready (rs := [12]) (by kernel_rfl) (by simp) ?_
      refine AllReadyH.cons (by simp only [List.getElem?_toArray, List.getElem?_cons_succ, List.getElem?_cons_zero]; rfl) (fun K hK => ?_) AllReadyH.nil
      refine step_app etX (by rfl) _ _ (by rfl) (ho2.alloc _) (by rfl) (src_one Tryd.underlying106 (by first | rfl | simp only [World.size_alloc]) rfl (by simp [Value.oneCell'])) (by rfl) (by simp only [maxLen]; omega) (by omega) (by simp only [World.size_alloc]; omega) ?_
      intro v3 w3 o3 k3 b3 z3 _
      have hb3 := (hb2.alloc _).keep k3 HNE.out
      have f10 := hb3.free 10
      have g10 := hb3.cell 10 (v := .slice Au k cu) rfl
      have l3 := hb3.lt
      have bx3 := (bx2.alloc _).keep k3 (fun e => by have := (HO.out.at_ _ e).2.1; omega)
      obtain ⟨A5, c5, rfl⟩ := o3.rd.shape
      refine hK.out _ _ (⟨bx3.cell 0 rfl, bx3.cell 1 rfl, hb3.cell 10 rfl⟩) (fun hHeld => ?_)
      clear hK K
      try simp only [Act.put, List.setIfInBounds_toArray, List.set_cons_zero, List.set_cons_succ]
      refine wpAnyH_take (i := 13) (v := ?_) (by simp only [List.getElem?_toArray, List.getElem?_cons_succ, List.getElem?_cons_zero]; rfl) (by kernel_rfl) (by kernel_rfl) (by kernel_rfl) (fun _ _ _ h => h) (Or.inl ⟨by rfl, ?_⟩) (by assumption) ?_
      rotate_left 1
      · (intro w hSw; (try dsimp only at hSw); go_simp; (try with_reducible rfl))
      try simp only [Act.put, List.setIfInBounds_toArray, List.set_cons_zero, List.set_cons_succ]
      refine wpAnyH_take (i := 14) (v := ?_) (by simp only [List.getElem?_toArray, List.getElem?_cons_succ, List.getElem?_cons_zero]; rfl) (by kernel_rfl) (by kernel_rfl) (by kernel_rfl) (fun _ _ _ h => h) (Or.inl ⟨by rfl, ?_⟩) (by assumption) ?_
      rotate_left 1
      · (intro w hSw; (try dsimp only at hSw); go_simp; (try with_reducible rfl))
      try simp only [Act.put, List.setIfInBounds_toArray, List.set_cons_zero, List.set_cons_succ]
      refine wpAnyH_done (by kernel_rfl) ?_ _
      intro K hK
      have kk : Keep wr w3 (fun q => (Value.slice Au k cu).ownBlock = some q) := (((((KB.out.drew.nul _).trans0 k1).trans0 k2).alloc _).trans k3 fun _ _ e => e)
      have kb : Keep wb w3 (fun q => (Value.slice Au k cu).ownBlock = some q) := ((((((Keep.refl wb _).drew).trans0 k1).trans0 k2).alloc _).trans k3 fun _ _ e => e)
      have hat := HO.out.at_
      have kw : Keep wc w3 (· = g) := HKr.out.trans kk fun i hi e => by have := (hat i e).1; omega
      have k13 : Keep w1 w3 (fun q => (Value.slice Au k cu).ownBlock = some q) := ((((Keep.refl w1 _).trans0 k2).alloc _).trans k3 fun _ _ e => e)
      have od := (o1.byt.byt k13 (fun i hi => hi.ne_own ho1 (by decide)))
      have od := od.mono (q := Byt w3 wc.heap.size) (fun i _ hi => hi.low (Nat.le_trans hsz2 (Nat.le_trans KB.out.size (Nat.le_refl _))))
      have od2 := (HDD.out.byt kk (fun i hi => hi.ne_own HO.out (by decide))).snoc od
      have kst : Keep w3 (w3.setCell ⟨g, 10, none⟩ (.slice A5 (k + 1) c5)) (· = g) := Keep.set1 _ _ _ _
      have hb4 := hide (hb3.set_ 10 (.slice A5 (k + 1) c5))
      have ho4 := hide (o3.keep kst (fun q hq e => o3.ne_ hb3 (by decide) (e ▸ hq)))
      have hd4 := hide (od2.byt kst (fun i hi => hi.ne_blk hb3 (by decide)))
      have hk4 := hide (kw.setg 10 (fun _ => rfl) (.slice A5 (k + 1) c5))
      clear kk kb hat kw k13 od od2 kst o1 k1 k2 ho1 ho2 o3 k3 b3 z3 hb1 hb2 hb3 bx1 bx2 bx3
      go_simp
      refine hK _ _ (NoPanic.normal ?_)
      clear hK K
      go_wp2_with fail
      go_roundw
      case rel =>
        refine ⟨k + 1, .slice A5 (k + 1) c5, ds ++ [.slice Ac x.data.length cc], by omega, by go_num, hb4.out, ?_, ?_, hk4.out⟩
        · obtain ⟨hk', e⟩ := List.getElem?_eq_some_iff.1 HG.out
          rw [List.take_succ_eq_append_getElem hk', e, xcells_snoc _ _ _ _ HDD.out.1]
          exact ho4.out
        · obtain ⟨hk', e⟩ := List.getElem?_eq_some_iff.1 HG.out
          rw [List.take_succ_eq_append_getElem hk', e]
          exact hd4.out
      case measure => simp [intOf]; omega
    · obtain rfl : k = hd.exts.length := by omega
      rw [List.take_length] at hO hD
      have hKw : Keep w wr Nul := (HK.out.trans0 HKC.out).trans hK (fun i hi e => by omega)
      have hS2 := HS.out.keep hK (fun q hq e => HS.out.ne_ HB.out (by decide) (e ▸ hq))
      have hzr := hK.size
      have HKw := hide hKw
      have HB' := hide hB
      have HO := hide hO
      have HDD := hide hD
      have HS2 := hide hS2
      clear hKw hB hO hD hS2 hK
      go_wp2_with fail
      go_ret
      exact ⟨HKw.out, g, rfl, by omega, sv, u, ds, 0, HB'.out, HS2.out.low (by omega), HO.out.low (by omega), HDD.out.mono (fun i _ hi => hi.low (by omega))⟩
end Go.Proofs.YtdmnflngafbobaaDoor
