/-
  Packets: paddingSize, MarshalSize, marshalPayloadAndPaddingTo. Conditions: those that stand in each theorem.
-/
import Derived.Test.YtdmnflngafbobaaDoorFmh
import Derived.Lib.SliceRun
import Derived.Deep.WholeRow
namespace Go.Proofs.YtdmnflngafbobaaDoor
open Go.RowKit
set_option linter.unusedVariables false
set_option linter.unusedSimpArgs false
set_option maxRecDepth 100000

theorem ret_int {k : IntKind} {a b : Int} (h : a = b) : Ending.returned (.int k a) = .returned (.int k b) := by rw [h]
/-- The cells of a packet of the package. -/
def pcells (h : Hd) (sv xv : Value) (off : Int) (pv : Value) (ps : Int) (raw : Value) : Array Value :=
  #[.int .u8 h.v, .bool h.pad, .bool h.ext, .bool h.mark, .int .u8 h.ty, .int .u16 h.seq, .int .u32 h.time, .int .u32 h.ssrc, sv, .int .u16 h.prof, xv, .int .u8 h.padn, .int .i64 off, pv, .int .u8 ps, raw]

theorem pads_walk {g : Nat} {hd : Hd} {sv xv pv raw : Value} {off : Int} (w : World) (h : Blk w g 110 (pcells hd sv xv off pv 0 raw)) (h0 : 0 ≤ hd.padn ∧ hd.padn < 256) :
    Calls Tryd.prog 99 #[.pointer (some ⟨g, 0, none⟩)] w fun e w' => e = .returned (.int .u8 hd.padn) ∧ w = w' := by
  have x11 := h.cell 11 (v := .int .u8 hd.padn) rfl
  have x14 := h.cell 14 (v := .int .u8 0) rfl
  clear h
  by_cases hp : 0 < hd.padn
  · go_enter Tryd.func99, Tryd.ntmps99
    go_wp2_with fail
    go_ret
    exact ⟨rfl, rfl⟩
  · have hp0 : hd.padn = 0 := by omega
    rw [hp0] at x11 ⊢
    clear hp hp0 h0
    go_enter Tryd.func99, Tryd.ntmps99
    go_wp2_with fail
    go_ret
    exact ⟨rfl, rfl⟩

/-- How many bytes a packet has. -/
def psize (h : Hd) (n : Nat) : Nat := hsize h + n + h.padn.toNat

set_option maxHeartbeats 1600000 in
theorem pmsize_walk {p : Nat → Prop} {hd : Hd} {sv xv raw : Value} {off : Int} {A : Option Addr} {n c : Nat} (w : World) (hS : Rd w p 1 sv hd.srcs.length (U32 hd.srcs)) (hX : XR w p xv hd.exts) (hg : Good hd) (hnp : n ≤ 2147483647) (hn : hd.exts.length ≤ 2147483647) (hdn : ∀ x ∈ hd.exts, x.data.length ≤ 2147483647) :
    Calls Tryd.prog 62 #[.agg (pcells hd sv xv off (.slice A n c) 0 raw)] w fun e w' => e = .returned (.int .i64 (psize hd n)) ∧ Keep w w' Nul := by
  replace hS := hS.mono (q := (· < w.heap.size)) (fun k hk _ => hk)
  replace hX := hX.mono (q := (· < w.heap.size)) (fun k hk _ => hk)
  have hsz := hsize_le hg
  have hpd := hg.ok.padn
  have hM0 := fun (wa : World) (k : Keep w wa Nul) => msize_walk (off := off) wa (hS.keep0 k) (hX.keep0 k) (by have := hg.srcs; omega) hn hdn
  have HM := hide hM0
  obtain ⟨A1, c1, rfl⟩ := hS.shape
  obtain ⟨A2, c2, rfl⟩ := hX.shape
  clear hS hX hM0 hdn hg
  unfold pcells
  go_enter Tryd.func62, Tryd.ntmps62
  go_upto_region 1 with fail
  generalize hwa : World.alloc w _ = wa
  have BX := hide (show Blk wa w.heap.size 110 (pcells hd (.slice A1 hd.srcs.length c1) (.slice A2 hd.exts.length c2) off (.slice A n c) 0 raw) by subst hwa; exact Blk.new w _ _)
  have KA := hide (show Keep w wa Nul by subst hwa; exact (Keep.refl w Nul).alloc _)
  generalize hv0 : Value.agg _ = v0
  clear hwa hv0
  have SOf : ∀ w', Blk w' w.heap.size 110 (pcells hd (.slice A1 hd.srcs.length c1) (.slice A2 hd.exts.length c2) off (.slice A n c) 0 raw) → (w'.cell? ⟨w.heap.size, 0, none⟩ = some (.int .u8 hd.v) ∧ w'.cell? ⟨w.heap.size, 1, none⟩ = some (.bool hd.pad) ∧ w'.cell? ⟨w.heap.size, 2, none⟩ = some (.bool hd.ext) ∧ w'.cell? ⟨w.heap.size, 3, none⟩ = some (.bool hd.mark) ∧ w'.cell? ⟨w.heap.size, 4, none⟩ = some (.int .u8 hd.ty) ∧ w'.cell? ⟨w.heap.size, 5, none⟩ = some (.int .u16 hd.seq) ∧ w'.cell? ⟨w.heap.size, 6, none⟩ = some (.int .u32 hd.time) ∧ w'.cell? ⟨w.heap.size, 7, none⟩ = some (.int .u32 hd.ssrc) ∧ w'.cell? ⟨w.heap.size, 8, none⟩ = some (.slice A1 hd.srcs.length c1) ∧ w'.cell? ⟨w.heap.size, 9, none⟩ = some (.int .u16 hd.prof) ∧ w'.cell? ⟨w.heap.size, 10, none⟩ = some (.slice A2 hd.exts.length c2) ∧ w'.cell? ⟨w.heap.size, 11, none⟩ = some (.int .u8 hd.padn) ∧ w'.cell? ⟨w.heap.size, 12, none⟩ = some (.int .i64 off) ∧ w'.cell? ⟨w.heap.size, 13, none⟩ = some (.slice A n c)) := fun w' h => ⟨h.cell 0 rfl, h.cell 1 rfl, h.cell 2 rfl, h.cell 3 rfl, h.cell 4 rfl, h.cell 5 rfl, h.cell 6 rfl, h.cell 7 rfl, h.cell 8 rfl, h.cell 9 rfl, h.cell 10 rfl, h.cell 11 rfl, h.cell 12 rfl, h.cell 13 rfl⟩
  have SO := hide SOf
  have bx0 := hide BX.out.drew
  clear SOf
  have hMd := hide (HM.out wa.drew KA.out.drew)
  have hw1 : IntKind.i64.wrap ((hsize hd : Int) + (n : Int)) = (hsize hd : Int) + (n : Int) := by rw [IntKind.wrap_i64]; omega
  have hw2 : IntKind.i64.wrap ((hsize hd : Int) + (n : Int) + hd.padn) = (hsize hd : Int) + (n : Int) + hd.padn := by rw [IntKind.wrap_i64]; omega
  have hw3 : IntKind.i64.wrap hd.padn = hd.padn := by rw [IntKind.wrap_i64]; omega
  have HPD := hide hpd
  clear hpd
  go_region_held3 (fun w' => w'.cell? ⟨w.heap.size, 0, none⟩ = some (.int .u8 hd.v) ∧ w'.cell? ⟨w.heap.size, 1, none⟩ = some (.bool hd.pad) ∧ w'.cell? ⟨w.heap.size, 2, none⟩ = some (.bool hd.ext) ∧ w'.cell? ⟨w.heap.size, 3, none⟩ = some (.bool hd.mark) ∧ w'.cell? ⟨w.heap.size, 4, none⟩ = some (.int .u8 hd.ty) ∧ w'.cell? ⟨w.heap.size, 5, none⟩ = some (.int .u16 hd.seq) ∧ w'.cell? ⟨w.heap.size, 6, none⟩ = some (.int .u32 hd.time) ∧ w'.cell? ⟨w.heap.size, 7, none⟩ = some (.int .u32 hd.ssrc) ∧ w'.cell? ⟨w.heap.size, 8, none⟩ = some (.slice A1 hd.srcs.length c1) ∧ w'.cell? ⟨w.heap.size, 9, none⟩ = some (.int .u16 hd.prof) ∧ w'.cell? ⟨w.heap.size, 10, none⟩ = some (.slice A2 hd.exts.length c2) ∧ w'.cell? ⟨w.heap.size, 11, none⟩ = some (.int .u8 hd.padn) ∧ w'.cell? ⟨w.heap.size, 12, none⟩ = some (.int .i64 off) ∧ w'.cell? ⟨w.heap.size, 13, none⟩ = some (.slice A n c))
    (first | with_reducible exact SO.out _ bx0.out | with_reducible exact SO.out _ bx1.out)
    (first
      | (go_at_call 57; refine Calls.mono (show Calls _ _ #[.agg (rcells hd (.slice A1 hd.srcs.length c1) (.slice A2 hd.exts.length c2) off)] _ _ from hMd.out) ?_; rintro e w1 ⟨rfl, k1⟩; have bx1 := hide (bx0.out.keep k1 id); have K1 := hide (KA.out.drew.trans0 k1); clear k1)
      | (go_at_call 99; refine (pads_walk _ bx1.out HPD.out).mono ?_; rintro e w2 ⟨rfl, rfl⟩))
  clear hw1 hw2 hw3
  go_wp2_with fail
  go_ret
  exact ⟨ret_int (by unfold psize; have := HPD.out; omega), K1.out⟩
end Go.Proofs.YtdmnflngafbobaaDoor
namespace Go.Proofs.YtdmnflngafbobaaDoor
open Go.RowKit
set_option linter.unusedVariables false
set_option linter.unusedSimpArgs false
set_option maxRecDepth 100000

section
variable {P : Program} {w : World} {ops : Array Oper} {rest : List Oper} {o : Oper} {a : Act} {Q : Exit → Act → World → Prop} {g : Nat} {done data : List Int} {m : Nat}
/-- copy of bytes to the end of what is written. -/
theorem wpList_copyZ (hgd : o.guard = none) (d x : Operand) {dT sT : TypeId} (ho : o.op = .call { callee := .builtin .copy, args := #[d, x], argTypes := #[dT, sT] })
    (hu : P.underlying dT = some (.slice 5)) (hsz : (P.info? 5).map (·.size) = some 1) (h : Buf w g done (Z8 m))
    {p : Nat → Prop} {s : Value} {n : Nat} (hs : Rd w p 1 s n (B8 data)) {dn dc : Nat} {dp : Option Addr} (hd : a.eval d = .slice dp dn dc) (hx : a.eval x = s) (hdp : 0 < n → dp = some ⟨g, done.length, none⟩) (hdn : n ≤ dn) (hm : n ≤ m)
    (hk : ∀ w', Buf w' g (done ++ data) (Z8 (m - n)) → Keep w w' (· = g) → wpList P ops Q rest (a.put o.dst (goInt (n : Int))) w') :
    wpList P ops Q (o :: rest) a w := by
  have hl : data.length = n := by have := hs.len; rwa [B8_len] at this
  have e1 : min n dn = n := by omega
  refine wpList_copyB hgd d x ho hu hsz g done.length h hs (B8_one _) hd hx (by rw [e1]; exact hdp) (by rw [e1]; simp [B8_len, Z8_len]; omega) fun w' hb hk' => ?_
  rw [e1, List.take_of_length_le (by rw [B8_len]; omega)] at hb
  rw [e1]
  have := Buf.copied hb (by omega)
  rw [hl] at this
  exact hk w' this hk'
theorem wpList_clr (hgd : o.guard = none) (x : Operand) {t : TypeId} (ho : o.op = .call { callee := .builtin .clear, args := #[x], argTypes := #[t] }) {vx : Value} {w' : World} (hr : (Builtin.clear_ #[t] o.type #[vx]).run P w = .ok (.tuple #[]) w') (hx : a.eval x = vx)
    (h : wpList P ops Q rest (a.put o.dst (.tuple #[])) w') : wpList P ops Q (o :: rest) a w := by
  refine wpList_run hgd ?_ h
  unfold execOp
  simp only [ho, resolve, invoke, builtin, Sem.run_bind, Sem.run_pure, Result.andThen_ok, List.map_toArray, List.map_cons, List.map_nil, hx, hr]
theorem setCells_same {t : TypeId} {cs : Array Value} (h : Blk w g t cs) (vs : List Value) (o : Nat) (hl : o + vs.length ≤ cs.size) (hv : (cs.toList.drop o).take vs.length = vs) : Blk (w.setCells g o vs) g t cs := by
  have := heap_setCells (b := g) vs o cs w h hl
  unfold Blk
  rw [this]
  have e : (cs.toList.take o ++ vs ++ cs.toList.drop (o + vs.length)) = cs.toList := by
    conv => lhs; rw [← hv]
    rw [List.append_assoc]
    conv => rhs; rw [← List.take_append_drop o cs.toList]
    congr 1
    conv => rhs; rw [← List.take_append_drop vs.length (cs.toList.drop o)]
    rw [List.drop_drop]
    congr 2
    rw [hv]
  rw [e]
end
/-- clear of noughts behind what is written. -/
theorem clr_buf {w : World} {g : Nat} {done : List Int} {m k c o : Nat} {dp : Option Addr} (ty : TypeId) (h : Buf w g done (Z8 m)) (hk : k ≤ m) (ho : o = done.length) (hdp : 0 < k → dp = some ⟨g, o, none⟩) :
    ∃ w', (Builtin.clear_ #[29] ty #[.slice dp k c]).run Tryd.prog w = .ok (.tuple #[]) w' ∧ Buf w' g done (Z8 m) ∧ Keep w w' (· = g) := by
  subst ho
  by_cases h0 : k = 0
  · subst h0
    refine ⟨w, ?_, h, Keep.refl _ _⟩
    cases dp <;> simp [Builtin.clear_, run_underlying Tryd.underlying29]
  · obtain rfl := hdp (by omega)
    have hr := Lib.run_clear_slice (P := Tryd.prog) w 29 5 ty (.int .u8 0) Tryd.underlying29 (fun _ => by kernel_rfl) rfl rfl g done.length k c (by omega)
      (fun j hj => by rw [h.zcell (k := done.length + j) (by omega) (by omega)]; rfl) (fun j _ => h.free _)
    refine ⟨_, hr, ?_, keep_setCells _ _ _⟩
    refine setCells_same h _ _ (by simp [B8_len, Z8_len]; omega) ?_
    simp only [List.length_replicate]
    rw [show done.length = (B8 done).length from (B8_len done).symm, List.drop_left]
    unfold Z8
    rw [List.take_replicate]
    congr 1
    omega

/-- The padding of a packet. -/
def padB (h : Hd) : List Int := if h.pad then List.replicate (h.padn.toNat - 1) 0 ++ [h.padn] else []

set_option maxHeartbeats 1600000 in
theorem mpp_pos {p : Nat → Prop} {hd : Hd} {done data : List Int} {G L N g c : Nat} {A : Option Addr} (w : World) (hR : Rd w p 1 (.slice A data.length c) data.length (B8 data)) (hpg : ∀ k, p k → k ≠ G)
    (hB : Buf w G done (Z8 (L - N))) (hN : N = done.length) (h1 : w.cell? ⟨g, 1, none⟩ = some (.bool true)) (hpd : hd.pad = true) (hp0 : 0 < hd.padn) (hg : g ≠ G) (hpn : 0 ≤ hd.padn ∧ hd.padn < 256) (hL : N + data.length + hd.padn.toNat = L) (hLm : L ≤ 1099511627776) :
    Calls Tryd.prog 114 #[.slice (some ⟨G, 0, none⟩) L L, .int .i64 (N : Int), .pointer (some ⟨g, 0, none⟩), .slice A data.length c, .int .u8 hd.padn] w fun e w' =>
      e = .returned (.tuple #[.int .i64 (L : Int), Value.nilIface]) ∧ Buf w' G (done ++ data ++ padB hd) (Z8 0) ∧ Keep w w' (· = G) := by
  have HR := hide hR
  have HB := hide hB
  have HN := hide hN
  have HH1 := hide h1
  have HPD := hide hpd
  have hLi : (N : Int) + (data.length : Int) + hd.padn = (L : Int) := by omega
  have HL := hide hL
  have hLl : ¬ ((L : Int) < (N : Int) + (data.length : Int) + hd.padn) := by omega
  have hNL : (N : Int) ≤ (L : Int) := by omega
  have hNL2 : N + data.length < L := by omega
  have n1 : ¬ L = N := by omega
  have n2 : ¬ L = N + data.length := by omega
  have hpp := hpn.1
  have hpq := hpn.2
  clear hR hB hN h1 hL hpd
  go_enter Tryd.func114, Tryd.ntmps114
  go_upto_region 4 with (refine wpList_copyZ rfl _ _ rfl Tryd.underlying29 (by kernel_rfl) HB.out HR.out rfl rfl (fun h0 => congrArg (fun z => some (⟨G, z, none⟩ : Addr)) HN.out) (by omega) (by omega) ?_; intro w1 hb1 hk1; have B1 := hide hb1; have K1 := hide hk1; clear hb1 hk1)
  have hM : N + data.length = (done ++ data).length := by rw [List.length_append, HN.out]
  have B1' := hide (show Buf w1 G (done ++ data) (Z8 (L - (N + data.length))) by have := B1.out; rw [Nat.sub_sub] at this; exact this)
  have hlo : (N : Int) + (data.length : Int) ≤ (L : Int) := by omega
  have hlz : (0 : Int) ≤ (N : Int) + (data.length : Int) := by omega
  obtain ⟨w2, hr, b2, k2⟩ := clr_buf (c := L - (N + data.length)) (dp := some ⟨G, N + data.length, none⟩) 0 B1'.out (k := L - (N + data.length)) (Nat.le_refl _) hM (fun _ => rfl)
  have HM := hide hM
  have B2 := hide b2
  have K2 := hide (K1.out.trans k2 fun _ _ e => e)
  clear hM b2 k2
  go_upto_region 5 with (refine wpList_clr rfl _ rfl hr rfl ?_)
  have h1 := K2.out.cell hg HH1.out
  have hps : 1 ≤ hd.padn := by omega
  have hpl : (done ++ data).length + (hd.padn.toNat - 1) = N + data.length + (hd.padn.toNat - 1) := by rw [← HM.out]
  have b3 := B2.out.zero (hd.padn.toNat - 1) (by have := HL.out; omega)
  have hx : ((N : Int) + (data.length : Int) + (hd.padn - 1)).toNat = N + data.length + (hd.padn.toNat - 1) := by omega
  have z3 := b3.zcell (k := N + data.length + (hd.padn.toNat - 1)) (by rw [List.length_append, List.length_replicate, ← HM.out]; omega) (by rw [List.length_append, List.length_replicate, ← HM.out]; have := HL.out; omega)
  have f3 := b3.free (N + data.length + (hd.padn.toNat - 1))
  have l3 := b3.lt
  have B3 := hide b3
  have HPL := hide hpl
  have HX := hide hx
  clear hr b3 hpl
  go_wp2_with fail
  go_ret2
  have hb := B3.out.z1 (by have := HL.out; omega) (k := N + data.length + (hd.padn.toNat - 1)) (by rw [List.length_append, List.length_replicate, HPL.out]) hd.padn
  rw [show L - (N + data.length) - (hd.padn.toNat - 1) - 1 = 0 by have := HL.out; omega] at hb
  refine ⟨rfl, ?_, K2.out.setg _ (fun _ => rfl) _⟩
  have e1 : padB hd = List.replicate (hd.padn.toNat - 1) 0 ++ [hd.padn] := by unfold padB; rw [HPD.out]; rfl
  rw [e1]
  simpa using hb

set_option maxHeartbeats 1600000 in
theorem mpp_zero {p : Nat → Prop} {done data : List Int} {G L N g c n : Nat} {A : Option Addr} (w : World) (hR : Rd w p 1 (.slice A n c) n (B8 data)) (hpg : ∀ k, p k → k ≠ G)
    (hB : Buf w G done (Z8 n)) (hN : N = done.length) (h1 : w.cell? ⟨g, 1, none⟩ = some (.bool false)) (hg : g ≠ G) (hL : L = N + n) (hLm : L ≤ 1099511627776) :
    Calls Tryd.prog 114 #[.slice (some ⟨G, 0, none⟩) L L, .int .i64 (N : Int), .pointer (some ⟨g, 0, none⟩), .slice A n c, .int .u8 0] w fun e w' =>
      e = .returned (.tuple #[.int .i64 (L : Int), Value.nilIface]) ∧ Buf w' G (done ++ data) (Z8 0) ∧ Keep w w' (· = G) := by
  subst hL
  have HR := hide hR
  have HB := hide hB
  have HN := hide hN
  have HH1 := hide h1
  have HL := hide (show data.length = n by have := hR.len; rwa [B8_len] at this)
  have hNd : (N : Int) ≤ (N : Int) + (n : Int) := by omega
  clear hR hB hN h1
  by_cases h0 : n = 0
  · subst h0
    have e0 : data = [] := List.eq_nil_of_length_eq_zero HL.out
    subst e0
    simp only [Nat.add_zero]
    go_enter Tryd.func114, Tryd.ntmps114
    go_upto_region 4 with (refine wpList_copyZ rfl _ _ rfl Tryd.underlying29 (by kernel_rfl) HB.out HR.out rfl rfl (fun h0 => absurd h0 (Nat.lt_irrefl 0)) (Nat.le_refl _) (Nat.le_refl _) ?_; intro w1 hb1 hk1; have B1 := hide hb1; have K1 := hide hk1; clear hb1 hk1)
    obtain ⟨w2, hr, b2, k2⟩ := clr_buf (w := w1) (c := 0) (dp := some ⟨G, 0, none⟩) (m := 0) (k := 0) (o := (done ++ []).length) (g := G) (done := done ++ []) 0 (by simpa using B1.out) (Nat.le_refl _) rfl (fun h => absurd h (by simp))
    have B2 := hide b2
    have K2 := hide (K1.out.trans k2 fun _ _ e => e)
    have h1 := K2.out.cell hg HH1.out
    clear b2 k2
    go_wp2_with (refine wpList_clr rfl _ rfl hr rfl ?_)
    go_ret2
    exact ⟨rfl, by simpa using B2.out, K2.out⟩
  · have n1 : ¬ N + n = N := by omega
    have hp0 : 0 < n := by omega
    go_enter Tryd.func114, Tryd.ntmps114
    go_upto_region 4 with (refine wpList_copyZ rfl _ _ rfl Tryd.underlying29 (by kernel_rfl) HB.out HR.out rfl rfl (fun h0 => congrArg (fun z => some (⟨G, z, none⟩ : Addr)) HN.out) (by omega) (by omega) ?_; intro w1 hb1 hk1; have B1 := hide hb1; have K1 := hide hk1; clear hb1 hk1)
    obtain ⟨w2, hr, b2, k2⟩ := clr_buf (w := w1) (c := 0) (dp := some ⟨G, 0, none⟩) (m := 0) (k := 0) (o := (done ++ data).length) (g := G) (done := done ++ data) 0 (by simpa using B1.out) (Nat.le_refl _) rfl (fun h => absurd h (by simp))
    have B2 := hide b2
    have K2 := hide (K1.out.trans k2 fun _ _ e => e)
    have h1 := K2.out.cell hg HH1.out
    clear b2 k2
    go_wp2_with (refine wpList_clr rfl _ rfl hr rfl ?_)
    go_ret2
    exact ⟨rfl, by simpa using B2.out, K2.out⟩

/-- marshalPayloadAndPaddingTo. -/
theorem mpp_walk {p : Nat → Prop} {hd : Hd} {done data : List Int} {G L N g c : Nat} {A : Option Addr} (w : World) (hR : Rd w p 1 (.slice A data.length c) data.length (B8 data)) (hpg : ∀ k, p k → k ≠ G)
    (hB : Buf w G done (Z8 (L - N))) (hN : N = done.length) (h1 : w.cell? ⟨g, 1, none⟩ = some (.bool hd.pad)) (hg : g ≠ G) (hp : hd.pad = decide (0 < hd.padn)) (hpn : 0 ≤ hd.padn ∧ hd.padn < 256) (hL : N + data.length + hd.padn.toNat = L) (hLm : L ≤ 1099511627776) :
    Calls Tryd.prog 114 #[.slice (some ⟨G, 0, none⟩) L L, .int .i64 (N : Int), .pointer (some ⟨g, 0, none⟩), .slice A data.length c, .int .u8 hd.padn] w fun e w' =>
      e = .returned (.tuple #[.int .i64 (L : Int), Value.nilIface]) ∧ Buf w' G (done ++ data ++ padB hd) (Z8 0) ∧ Keep w w' (· = G) := by
  by_cases h0 : 0 < hd.padn
  · have hpt : hd.pad = true := by rw [hp]; simpa using h0
    exact mpp_pos w hR hpg hB hN (by rw [h1, hpt]) hpt h0 hg hpn hL hLm
  · have hpf : hd.pad = false := by rw [hp]; simpa using h0
    have hz : hd.padn = 0 := by omega
    have e1 : padB hd = [] := by unfold padB; rw [hpf]; rfl
    rw [hz, e1, List.append_nil]
    rw [hz] at hL
    exact mpp_zero w hR hpg (by rw [show data.length = L - N by simp at hL; omega]; exact hB) hN (by rw [h1, hpf]) hg (by simp at hL; omega) hLm
end Go.Proofs.YtdmnflngafbobaaDoor
namespace Go.Proofs.YtdmnflngafbobaaDoor
open Go.RowKit
set_option linter.unusedVariables false
set_option linter.unusedSimpArgs false
set_option maxRecDepth 100000

theorem pc14 {w : World} {g : Nat} {t : TypeId} {hd : Hd} {sv xv pv raw : Value} {off ps : Int} (h : Blk w g t (pcells hd sv xv off pv ps raw)) :
    w.cell? ⟨g, 0, none⟩ = some (.int .u8 hd.v) ∧ w.cell? ⟨g, 1, none⟩ = some (.bool hd.pad) ∧ w.cell? ⟨g, 2, none⟩ = some (.bool hd.ext) ∧ w.cell? ⟨g, 3, none⟩ = some (.bool hd.mark) ∧ w.cell? ⟨g, 4, none⟩ = some (.int .u8 hd.ty) ∧ w.cell? ⟨g, 5, none⟩ = some (.int .u16 hd.seq) ∧ w.cell? ⟨g, 6, none⟩ = some (.int .u32 hd.time) ∧ w.cell? ⟨g, 7, none⟩ = some (.int .u32 hd.ssrc) ∧ w.cell? ⟨g, 8, none⟩ = some sv ∧ w.cell? ⟨g, 9, none⟩ = some (.int .u16 hd.prof) ∧ w.cell? ⟨g, 10, none⟩ = some xv ∧ w.cell? ⟨g, 11, none⟩ = some (.int .u8 hd.padn) ∧ w.cell? ⟨g, 12, none⟩ = some (.int .i64 off) ∧ w.cell? ⟨g, 13, none⟩ = some pv ∧ w.cell? ⟨g, 14, none⟩ = some (.int .u8 ps) ∧ w.cell? ⟨g, 15, none⟩ = some raw :=
  ⟨h.cell 0 rfl, h.cell 1 rfl, h.cell 2 rfl, h.cell 3 rfl, h.cell 4 rfl, h.cell 5 rfl, h.cell 6 rfl, h.cell 7 rfl, h.cell 8 rfl, h.cell 9 rfl, h.cell 10 rfl, h.cell 11 rfl, h.cell 12 rfl, h.cell 13 rfl, h.cell 14 rfl, h.cell 15 rfl⟩

/-- The bytes of a packet. -/
def outP (h : Hd) (data : List Int) : List Int := outB h ++ data ++ padB h
theorem padB_len {h : Hd} (hp : h.pad = decide (0 < h.padn)) (h0 : 0 ≤ h.padn ∧ h.padn < 256) : (padB h).length = h.padn.toNat := by
  unfold padB
  cases hq : h.pad
  · have : ¬ 0 < h.padn := by rw [hq] at hp; simpa using hp.symm
    simp; omega
  · have : 0 < h.padn := by rw [hq] at hp; simpa using hp.symm
    simp; omega
theorem outP_len {h : Hd} (hg : Good h) (hp : h.pad = decide (0 < h.padn)) (data : List Int) : (outP h data).length = psize h data.length := by
  unfold outP psize
  rw [List.length_append, List.length_append, padB_len hp hg.ok.padn, hsize_out hg]

set_option maxHeartbeats 1600000 in
theorem pmto_walk {p : Nat → Prop} {hd : Hd} {data : List Int} {sv xv raw : Value} {off : Int} {A : Option Addr} {c g G n L : Nat} (w : World) (hB : Blk w g 110 (pcells hd sv xv off (.slice A n c) 0 raw)) (hS : Rd w p 1 sv hd.srcs.length (U32 hd.srcs)) (hX : XR w p xv hd.exts) (hR : Rd w p 1 (.slice A n c) n (B8 data)) (hpG : ∀ k, p k → k ≠ G) (hgG : g ≠ G)
    (hG : Buf w G [] (Z8 L)) (hL : L = psize hd n) (hg : Good hd) (hp : hd.pad = decide (0 < hd.padn)) (hnp : n ≤ 2147483647) (hn : hd.exts.length ≤ 2147483647) (hdn : ∀ x ∈ hd.exts, x.data.length ≤ 2147483647) :
    Calls Tryd.prog 98 #[.pointer (some ⟨g, 0, none⟩), .slice (some ⟨G, 0, none⟩) L L] w fun e w' => e = .returned (.tuple #[.int .i64 (L : Int), Value.nilIface]) ∧ Buf w' G (outP hd data) (Z8 0) ∧ Keep w w' (· = G) := by
  have hsz := hsize_le hg
  have hso := hsize_out hg
  have hpn := hg.ok.padn
  have hdl : data.length = n := by have := hR.len; rwa [B8_len] at this
  have hLs : hsize hd ≤ L := by rw [hL]; unfold psize; omega
  have hLm : L ≤ 1099511627776 := by rw [hL]; unfold psize; omega
  have hMT := hide (mto_walk (off := off) (L := L) w hS hX hpG hG hg hLs hLm hn hdn)
  have HB := hide hB
  have HR := hide hR
  have HP := hide hpG
  have HPD := hide hp
  have HPN := hide hpn
  have HSO := hide hso
  have HL := hide hL
  have HDL := hide hdl
  obtain ⟨A1, c1, rfl⟩ := hS.shape
  obtain ⟨A2, c2, rfl⟩ := hX.shape
  obtain ⟨x0, x1, x2, x3, x4, x5, x6, x7, x8, x9, x10, x11, x12, x13, x14, x15⟩ := pc14 hB
  clear hS hX hR hpG hG hL hg hp hdn hso hpn hdl hB
  have hq : (hd.pad = true ∧ (hd.padn == 0) = false) ∨ hd.pad = false := by
    cases h : hd.pad
    · exact .inr rfl
    · have := HPD.out
      rw [h] at this
      have : 0 < hd.padn := by simpa using this.symm
      exact .inl ⟨rfl, by simp; omega⟩
  have hKd : ∀ w' : World, Keep w w' (· = G) → w'.drew.cell? ⟨g, 13, none⟩ = some (.slice A n c) := fun w' k => (HB.out.keep k hgG).cell 13 rfl
  have HKd := hide hKd
  clear hKd
  rcases hq with ⟨hq1, hq2⟩ | hq1
  all_goals
    rw [hq1] at x1
    go_enter Tryd.func98, Tryd.ntmps98
    go_upto_region 3 with (refine (pads_walk _ HB.out HPN.out).mono ?_; rintro e w' ⟨rfl, rfl⟩)
    rw [← hq1] at x1
    have HQ1 := hide hq1
    clear hq1
    go_wp2_with fail
    refine Calls.mono (show Calls _ _ #[.agg (rcells hd (.slice A1 hd.srcs.length c1) (.slice A2 hd.exts.length c2) off), _] _ _ from hMT.out) ?_
    rintro e w1 ⟨rfl, b1, k1⟩
    have B1 := hide b1.drew
    have K1 := hide k1
    have HB1 := hide (HB.out.keep k1 hgG).drew
    have HR1 := hide ((HR.out.keep k1 (fun i hi hp => HP.out i hp)).drew)
    have y13 := HKd.out w1 k1
    have l1 := HB1.out.lt
    clear x0 x1 x2 x3 x4 x5 x6 x7 x8 x9 x10 x11 x12 x13 x14 x15 k1 b1 hMT
    go_upto_region 6 with fail
    go_region_held3 (fun w' => w'.cell? ⟨g, 13, none⟩ = some (.slice A n c))
      (first | exact y13 | exact y14)
      (first
        | (go_at_call 99; refine (pads_walk _ HB1.out HPN.out).mono ?_; rintro e w2 ⟨rfl, rfl⟩)
        | (go_at_call 114; refine Calls.mono (show Calls _ _ #[_, _, _, .slice A n c, _] _ _ from HDL.out ▸ mpp_walk (data := data) (hd := hd) (p := p) (G := G) (L := L) (N := hsize hd) (g := g) (c := c) (A := A) _ (by rw [HDL.out]; exact HR1.out) HP.out B1.out HSO.out ((HB1.out).cell 1 rfl) hgG HPD.out HPN.out (by rw [HDL.out]; exact HL.out.symm) hLm) ?_; rintro e w3 ⟨rfl, b3, k3⟩; have B3 := hide b3; have K3 := hide k3; have y14 := k3.cell hgG y13; clear b3 k3))
    clear y13 y14
    go_wp2_with fail
    go_ret2
    exact ⟨rfl, B3.out, (K1.out.drew).trans K3.out fun _ _ e => e⟩
end Go.Proofs.YtdmnflngafbobaaDoor
namespace Go.Proofs.YtdmnflngafbobaaDoor
open Go.RowKit
set_option linter.unusedVariables false
set_option linter.unusedSimpArgs false
set_option maxRecDepth 100000

theorem psize_le {hd : Hd} (hg : Good hd) {n : Nat} (hn : n ≤ 2147483647) : psize hd n ≤ 2147746118 := by
  have := hsize_le hg
  have := hg.ok.padn
  unfold psize
  omega

set_option maxHeartbeats 1600000 in
theorem pmarshal_walk {p : Nat → Prop} {hd : Hd} {data : List Int} {sv xv raw : Value} {off : Int} {A : Option Addr} {c n : Nat} (w : World) (hS : Rd w p 1 sv hd.srcs.length (U32 hd.srcs)) (hX : XR w p xv hd.exts) (hR : Rd w p 1 (.slice A n c) n (B8 data))
    (hg : Good hd) (hp : hd.pad = decide (0 < hd.padn)) (hnp : n ≤ 2147483647) (hn : hd.exts.length ≤ 2147483647) (hdn : ∀ x ∈ hd.exts, x.data.length ≤ 2147483647) :
    Calls Tryd.prog 60 #[.agg (pcells hd sv xv off (.slice A n c) 0 raw)] w fun e w' => ∃ g c', e = .returned (.tuple #[.slice (some ⟨g, 0, none⟩) (outP hd data).length c', .nilIface]) ∧
      Own w' w.heap.size 5 1 (.slice (some ⟨g, 0, none⟩) (outP hd data).length c') (outP hd data).length (B8 (outP hd data)) ∧ Keep w w' Nul := by
  replace hS := hS.mono (q := (· < w.heap.size)) (fun k hk _ => hk)
  replace hX := hX.mono (q := (· < w.heap.size)) (fun k hk _ => hk)
  replace hR := hR.mono (q := (· < w.heap.size)) (fun k hk _ => hk)
  have hdl : data.length = n := by have := hR.len; rwa [B8_len] at this
  have hsz := psize_le hg hnp
  have hso : (outP hd data).length = psize hd n := by rw [outP_len hg hp, hdl]
  have hM0 := fun (wa : World) (k : Keep w wa Nul) => pmsize_walk (off := off) (raw := raw) (A := A) (n := n) (c := c) wa (hS.keep0 k) (hX.keep0 k) hg hnp hn hdn
  have hT0 := fun (wa : World) (g G : Nat) (k : Keep w wa Nul) (hB : Blk wa g 110 (pcells hd sv xv off (.slice A n c) 0 raw)) (hG : Buf wa G [] (Z8 (psize hd n))) (hgG : g ≠ G) (hgw : w.heap.size ≤ G) => pmto_walk (off := off) wa hB (hS.keep0 k) (hX.keep0 k) (hR.keep0 k) (fun k hk => by omega) hgG hG rfl hg hp hnp hn hdn
  have HM := hide hM0
  have HT := hide hT0
  have HSO := hide hso
  obtain ⟨A1, c1, rfl⟩ := hS.shape
  obtain ⟨A2, c2, rfl⟩ := hX.shape
  clear hS hX hM0 hT0 hso hdn hR hdl hp
  have mkB := run_mk etB (psize hd n) (by omega) (by omega)
  have MKB := hide mkB
  clear mkB
  have HPC : pcells hd (.slice A1 hd.srcs.length c1) (.slice A2 hd.exts.length c2) off (.slice A n c) 0 raw = #[.int .u8 hd.v, .bool hd.pad, .bool hd.ext, .bool hd.mark, .int .u8 hd.ty, .int .u16 hd.seq, .int .u32 hd.time, .int .u32 hd.ssrc, .slice A1 hd.srcs.length c1, .int .u16 hd.prof, .slice A2 hd.exts.length c2, .int .u8 hd.padn, .int .i64 off, .slice A n c, .int .u8 0, raw] := rfl
  rw [HPC]
  clear HPC
  go_enter Tryd.func60, Tryd.ntmps60
  go_upto_region 1 with fail
  generalize hwa : World.alloc w _ = wa
  have BX := hide (show Blk wa w.heap.size 110 (pcells hd (.slice A1 hd.srcs.length c1) (.slice A2 hd.exts.length c2) off (.slice A n c) 0 raw) by subst hwa; exact Blk.new w _ _)
  have KA := hide (show Keep w wa Nul by subst hwa; exact (Keep.refl w Nul).alloc _)
  generalize hv0 : Value.agg _ = v0
  clear hwa hv0
  have HM1 := hide (HM.out wa KA.out)
  obtain ⟨x0, x1, x2, x3, x4, x5, x6, x7, x8, x9, x10, x11, x12, x13, x14, x15⟩ := pc14 BX.out
  go_wp2_with fail
  refine Calls.mono (show Calls _ _ #[.agg (pcells hd (.slice A1 hd.srcs.length c1) (.slice A2 hd.exts.length c2) off (.slice A n c) 0 raw)] _ _ from HM1.out) ?_
  rintro e w1 ⟨rfl, k1⟩
  have BX1 := hide (BX.out.keep k1 id)
  have K1 := hide (KA.out.trans0 k1)
  clear x0 x1 x2 x3 x4 x5 x6 x7 x8 x9 x10 x11 x12 x13 x14 x15 k1
  have mkB := MKB.out
  simp only [Nat.mul_one] at mkB
  go_upto_region 2 with fail
  generalize hw2 : World.alloc w1 _ = w2
  have KZ := K1.out.size
  have BB := hide (show Buf w2 w1.heap.size [] (Z8 (psize hd n)) by subst hw2; exact Buf.mk' (Blk.new w1 _ _))
  have K2 := hide (show Keep w w2 Nul by subst hw2; exact K1.out.alloc _)
  have BX2 := hide (show Blk w2 w.heap.size 110 (pcells hd (.slice A1 hd.srcs.length c1) (.slice A2 hd.exts.length c2) off (.slice A n c) 0 raw) by subst hw2; exact BX1.out.alloc _)
  have hne : w.heap.size ≠ w1.heap.size := Nat.ne_of_lt BX1.out.lt
  clear hw2 mkB
  have HT1 := hide (HT.out w2 w.heap.size w1.heap.size K2.out BX2.out BB.out hne KZ)
  clear hne
  go_wp2_with fail
  refine (HT1.out).mono ?_
  rintro e w3 ⟨rfl, b3, k3⟩
  have B3 := hide b3
  have K3 := hide (K2.out.trans k3 fun i hi e => by omega)
  clear b3 k3
  go_wp2_with fail
  go_ret2
  have b3 := B3.out
  have ho := b3.own (B := w.heap.size) (n := psize hd n) (cap := psize hd n) KZ HSO.out.symm (by rw [HSO.out]; simp [Z8_len]) (by simp only [maxLen]; omega)
  rw [HSO.out]
  exact ⟨_, _, rfl, ho, K3.out⟩

/-- A packet of the thin package's or of the law's: its cells. -/
def kcells (h : Hd) (sv xv pv : Value) : Array Value :=
  #[.int .u8 h.v, .bool h.pad, .bool h.ext, .bool h.mark, .int .u8 h.ty, .int .u16 h.seq, .int .u32 h.time, .int .u32 h.ssrc, sv, .int .u16 h.prof, xv, .int .u8 h.padn, pv]
theorem kc13 {w : World} {g : Nat} {t : TypeId} {hd : Hd} {sv xv pv : Value} (h : Blk w g t (kcells hd sv xv pv)) :
    w.cell? ⟨g, 0, none⟩ = some (.int .u8 hd.v) ∧ w.cell? ⟨g, 1, none⟩ = some (.bool hd.pad) ∧ w.cell? ⟨g, 2, none⟩ = some (.bool hd.ext) ∧ w.cell? ⟨g, 3, none⟩ = some (.bool hd.mark) ∧ w.cell? ⟨g, 4, none⟩ = some (.int .u8 hd.ty) ∧ w.cell? ⟨g, 5, none⟩ = some (.int .u16 hd.seq) ∧ w.cell? ⟨g, 6, none⟩ = some (.int .u32 hd.time) ∧ w.cell? ⟨g, 7, none⟩ = some (.int .u32 hd.ssrc) ∧ w.cell? ⟨g, 8, none⟩ = some sv ∧ w.cell? ⟨g, 9, none⟩ = some (.int .u16 hd.prof) ∧ w.cell? ⟨g, 10, none⟩ = some xv ∧ w.cell? ⟨g, 11, none⟩ = some (.int .u8 hd.padn) ∧ w.cell? ⟨g, 12, none⟩ = some pv :=
  ⟨h.cell 0 rfl, h.cell 1 rfl, h.cell 2 rfl, h.cell 3 rfl, h.cell 4 rfl, h.cell 5 rfl, h.cell 6 rfl, h.cell 7 rfl, h.cell 8 rfl, h.cell 9 rfl, h.cell 10 rfl, h.cell 11 rfl, h.cell 12 rfl⟩
/-- A packet of the package at g, all that it holds made at B or above. -/
def KP (w : World) (B g : Nat) (hd : Hd) (data : List Int) : Prop :=
  ∃ sv xv A c off, B ≤ g ∧ Blk w g 110 (pcells hd sv xv off (.slice A data.length c) 0 (.slice none 0 0)) ∧ Rd w (B ≤ ·) 1 sv hd.srcs.length (U32 hd.srcs) ∧ XR w (B ≤ ·) xv hd.exts ∧ Rd w (B ≤ ·) 1 (.slice A data.length c) data.length (B8 data)

set_option maxHeartbeats 1600000 in
theorem packet_walk {p : Nat → Prop} {hd : Hd} {data : List Int} {sv xv : Value} {A : Option Addr} {c : Nat} (w : World) (hS : Rd w p 1 sv hd.srcs.length (U32 hd.srcs)) (hX : XR w p xv hd.exts) (hR : Rd w p 1 (.slice A data.length c) data.length (B8 data))
    (hs : hd.srcs.length ≤ 2147483647) (hnp : data.length ≤ 2147483647) (hn : hd.exts.length ≤ 2147483647) (hdn : ∀ x ∈ hd.exts, x.data.length ≤ 2147483647) :
    Calls Tryd.prog 59 #[.agg (kcells hd sv xv (.slice A data.length c))] w fun e w' => ∃ g, e = .returned (.pointer (some ⟨g, 0, none⟩)) ∧ Keep w w' Nul ∧ KP w' w.heap.size g hd data := by
  replace hS := hS.mono (q := (· < w.heap.size)) (fun k hk _ => hk)
  replace hX := hX.mono (q := (· < w.heap.size)) (fun k hk _ => hk)
  replace hR := hR.mono (q := (· < w.heap.size)) (fun k hk _ => hk)
  have hH0 := fun (wa : World) (k : Keep w wa Nul) => header_walk wa ⟨sv, xv, rfl, hS.keep0 k, hX.keep0 k⟩ hn hs hdn
  have HH := hide hH0
  have HR := hide hR
  obtain ⟨A1, c1, rfl⟩ := hS.shape
  obtain ⟨A2, c2, rfl⟩ := hX.shape
  clear hS hX hR hH0 hdn
  obtain ⟨n, hnd⟩ : ∃ n, n = data.length := ⟨_, rfl⟩
  have HND := hide hnd
  rw [← hnd] at HR hnp ⊢
  clear hnd
  unfold kcells
  go_enter Tryd.func59, Tryd.ntmps59
  go_upto_region 1 with fail
  generalize hwa : World.alloc w _ = wa
  have BX := hide (show Blk wa w.heap.size 42 (kcells hd (.slice A1 hd.srcs.length c1) (.slice A2 hd.exts.length c2) (.slice A n c)) by subst hwa; exact Blk.new w _ _)
  have KA := hide (show Keep w wa Nul by subst hwa; exact (Keep.refl w Nul).alloc _)
  generalize hv0 : Value.agg _ = v0
  clear hwa hv0
  have SO := hide (fun (w' : World) (h : Blk w' w.heap.size 42 (kcells hd (.slice A1 hd.srcs.length c1) (.slice A2 hd.exts.length c2) (.slice A n c))) => kc13 h)
  have bx0 := hide BX.out.drew
  have hHd := hide (HH.out wa.drew KA.out.drew)
  obtain ⟨x0, x1, x2, x3, x4, x5, x6, x7, x8, x9, x10, x11, x12⟩ := SO.out _ bx0.out
  have HRw := hide (fun (w1 : World) (k : Keep wa.drew w1 Nul) => clone_b w1 (HR.out.keep0 (KA.out.drew.trans0 k)) (B8_one _) (by omega))
  go_region_with (first
    | (go_at_call 54; refine Calls.mono (show Calls _ _ #[.agg (hcells hd (.slice A1 hd.srcs.length c1) (.slice A2 hd.exts.length c2))] _ _ from hHd.out) ?_; rintro e w1 ⟨k1, g, rfl, hr⟩; obtain ⟨svg, xvg, offg, bg, r1, r2⟩ := hr.open_; obtain ⟨A3, c3, rfl⟩ := r1.shape; obtain ⟨A4, c4, rfl⟩ := r2.shape; have hgw := hr.1; obtain ⟨y0, y1, y2, y3, y4, y5, y6, y7, y8, y9, y10, y11, y12⟩ := rc13 bg; obtain ⟨z0, z1, z2, z3, z4, z5, z6, z7, z8, z9, z10, z11, z12⟩ := SO.out w1 (bx0.out.keep k1 id); have BG := hide bg; have R1 := hide r1; have R2 := hide r2; have K1 := hide k1; clear hr bg r1 r2 k1)
    | (go_at_call 65; refine (HRw.out _ K1.out).mono ?_; rintro e w2 ⟨v1, rfl, o1, k2, -⟩; obtain ⟨Ac, cc, rfl⟩ := o1.rd.shape; obtain ⟨y0', y1', y2', y3', y4', y5', y6', y7', y8', y9', y10', y11', y12'⟩ := rc13 (BG.out.keep k2 id); have O1 := hide o1; have K2 := hide k2; clear o1 k2))
  all_goals
    have hz1 := K1.out.size
    have hz2 := K2.out.size
    have hz0 := KA.out.size
    have BN := hide (Blk.new w2 110 (pcells hd (.slice A3 hd.srcs.length c3) (.slice A4 hd.exts.length c4) offg (.slice Ac n cc) 0 (.slice none 0 0)))
    have KN := hide (((KA.out.drew.trans0 K1.out).trans0 K2.out).alloc (.cells (pcells hd (.slice A3 hd.srcs.length c3) (.slice A4 hd.exts.length c4) offg (.slice Ac n cc) 0 (.slice none 0 0)) 110))
    clear z0 z1 z2 z3 z4 z5 z6 z7 z8 z9 z10 z11 z12 y0 y1 y2 y3 y4 y5 y6 y7 y8 y9 y10 y11 y12 y0' y1' y2' y3' y4' y5' y6' y7' y8' y9' y10' y11' y12' x0 x1 x2 x3 x4 x5 x6 x7 x8 x9 x10 x11 x12
    go_wp2_with fail
    go_ret
    obtain rfl := HND.out
    have hzd : w.heap.size ≤ wa.drew.heap.size := hz0
    refine ⟨_, rfl, KN.out, _, _, Ac, cc, offg, by omega, BN.out, ?_, ?_, ?_⟩
    · exact ((R1.out.mono (fun k _ hk => Nat.le_trans hzd hk)).keep0 K2.out).alloc _
    · exact ((R2.out.mono (fun k _ hk => Nat.le_trans hzd hk)).keep0 K2.out).keep0 ((Keep.refl _ Nul).alloc _)
    · exact (O1.out.rdB.mono (fun k _ hk => Nat.le_trans hzd (Nat.le_trans hz1 hk))).alloc _
end Go.Proofs.YtdmnflngafbobaaDoor
namespace Go.Proofs.YtdmnflngafbobaaDoor
open Go.RowKit
set_option linter.unusedVariables false
set_option linter.unusedSimpArgs false
set_option maxRecDepth 100000

/-- A whole value into the block that was made last. -/
theorem wpList_stA {P : Program} {ops : Array Oper} {rest : List Oper} {o : Oper} {a : Act} {Q : Exit → Act → World → Prop} {t : TypeId} {c c' : Array Value} {w0 : World} (hgd : o.guard = none) (p x : Operand) (ho : o.op = .store t p x) (hp : a.eval p = .pointer (some ⟨w0.heap.size, 0, none⟩)) (hx : a.eval x = .agg c')
    (hi : (P.info? t).map (·.size) = some c'.size) (hs : c.size = c'.size) (h1 : c'.all (·.oneCell') = true) (h : wpList P ops Q rest (a.put o.dst undef) (w0.alloc (.cells c' t))) : wpList P ops Q (o :: rest) a (w0.alloc (.cells c t)) := by
  refine wpList_plain hgd fun K hK => ?_
  have hr : (execOp a.eval o).run P (w0.alloc (.cells c t)) = .ok .skip (w0.alloc (.cells c' t)) := by
    unfold execOp
    simp only [ho, hp, hx, Sem.run_bind, Sem.run_pure, run_storeAt_new (P := P) w0 t c c' hi hs h1, Result.andThen_ok]
  unfold Oper.wp
  rw [hr]
  exact hK _ _ h
/-- A packet of the law's or of the thin package's. -/
def PV (w : World) (p : Nat → Prop) (v : Value) (hd : Hd) (data : List Int) : Prop :=
  ∃ sv xv A c, v = .agg (kcells hd sv xv (.slice A data.length c)) ∧ Rd w p 1 sv hd.srcs.length (U32 hd.srcs) ∧ XR w p xv hd.exts ∧ Rd w p 1 (.slice A data.length c) data.length (B8 data)
theorem PV.keep0 {w w' : World} {p : Nat → Prop} {v : Value} {hd : Hd} {data : List Int} (h : PV w p v hd data) (k : Keep w w' Nul) : PV w' p v hd data := by
  obtain ⟨sv, xv, A, c, e, h1, h2, h3⟩ := h
  exact ⟨sv, xv, A, c, e, h1.keep0 k, h2.keep0 k, h3.keep0 k⟩
theorem HV.parts {w : World} {p : Nat → Prop} {hd : Hd} {sv xv : Value} (h : HV w p (.agg (hcells hd sv xv)) hd) : Rd w p 1 sv hd.srcs.length (U32 hd.srcs) ∧ XR w p xv hd.exts := by
  obtain ⟨sv', xv', e', q1, q2⟩ := h
  injection e' with e'
  have es : sv = sv' := by have := congrArg (fun a : Array Value => a[8]?) e'; simpa [hcells] using this
  have ex : xv = xv' := by have := congrArg (fun a : Array Value => a[10]?) e'; simpa [hcells] using this
  subst es ex
  exact ⟨q1, q2⟩
theorem PV.of_hv {w : World} {p : Nat → Prop} {hd : Hd} {data : List Int} {sv xv : Value} {A : Option Addr} {c : Nat} (h : HV w p (.agg (hcells hd sv xv)) hd) (hr : Rd w p 1 (.slice A data.length c) data.length (B8 data)) : PV w p (.agg (kcells hd sv xv (.slice A data.length c))) hd data :=
  ⟨sv, xv, A, c, rfl, h.parts.1, h.parts.2, hr⟩
/-- What the sizes of a packet are. -/
structure Sz (hd : Hd) (data : List Int) : Prop where
  s : hd.srcs.length ≤ 2147483647
  d : data.length ≤ 2147483647
  x : hd.exts.length ≤ 2147483647
  b : ∀ x ∈ hd.exts, x.data.length ≤ 2147483647

set_option maxHeartbeats 1600000 in
theorem fmt1 {p : Nat → Prop} {hd : Hd} {data : List Int} {v : Value} {g1 g2 : Nat} (w : World) (hh : PV w p v hd data) (hg : Good hd) (hp : hd.pad = decide (0 < hd.padn)) (hz : Sz hd data)
    (h1 : Blk w g1 42 v.cells) (h2 : Blk w g2 29 #[.slice none 0 0]) :
    Calls Tryd.prog 58 #[.pointer (some ⟨g1, 0, none⟩), .pointer (some ⟨g2, 0, none⟩)] w fun e w' => e = .returned (.bool true) ∧ Keep w w' (· = g2) ∧
      ∃ g c, w.heap.size ≤ g ∧ Blk w' g2 29 #[.slice (some ⟨g, 0, none⟩) (outP hd data).length c] ∧ Own w' w.heap.size 5 1 (.slice (some ⟨g, 0, none⟩) (outP hd data).length c) (outP hd data).length (B8 (outP hd data)) := by
  obtain ⟨sv, xv, A, c, rfl, q1, q2, q3⟩ := hh
  have HH := hide (packet_walk w q1 q2 q3 hz.s hz.d hz.x hz.b)
  have HZ := hide hz
  have HG := hide hg
  have HP := hide hp
  obtain ⟨A1, c1, rfl⟩ := q1.shape
  obtain ⟨A2, c2, rfl⟩ := q2.shape
  obtain ⟨x0, x1, x2, x3, x4, x5, x6, x7, x8, x9, x10, x11, x12⟩ := kc13 h1
  have hg2 := h2.lt
  have H2 := hide h2
  have hg1 := h1.lt
  clear q1 q2 q3 h1 h2 hg hz hp
  go_enter Tryd.func58, Tryd.ntmps58
  go_wp2_with fail
  refine Calls.mono (show Calls _ _ #[.agg (kcells hd (.slice A1 hd.srcs.length c1) (.slice A2 hd.exts.length c2) (.slice A data.length c))] _ _ from HH.out) ?_
  rintro e w1 ⟨g, rfl, k1, sv, xv, A', c', off, hgw, b, r1, r2, r3⟩
  obtain ⟨A3, c3, rfl⟩ := r1.shape
  obtain ⟨A4, c4, rfl⟩ := r2.shape
  have HM := hide (pmarshal_walk (off := off) (raw := .slice none 0 0) w1 r1 r2 r3 HG.out HP.out HZ.out.d HZ.out.x HZ.out.b)
  have K1 := hide k1
  have hz1 := k1.size
  clear x0 x1 x2 x3 x4 x5 x6 x7 x8 x9 x10 x11 x12 r1 r2 r3 k1
  obtain ⟨x0, x1, x2, x3, x4, x5, x6, x7, x8, x9, x10, x11, x12, x13, x14, x15⟩ := pc14 b
  clear b
  go_wp2_with fail
  refine Calls.mono (show Calls _ _ #[.agg (pcells hd (.slice A3 hd.srcs.length c3) (.slice A4 hd.exts.length c4) off (.slice A' data.length c') 0 (.slice none 0 0))] _ _ from HM.out) ?_
  rintro e w2 ⟨gm, cm, rfl, ho, k2⟩
  have hgm : w1.heap.size ≤ gm := (ho.at_ gm rfl).1
  have HO := hide ho
  have K2 := hide (K1.out.trans0 k2)
  have H3 := hide (H2.out.keep K2.out id)
  have f2 := H3.out.free 0
  have c2' := H3.out.cell 0 (v := .slice none 0 0) rfl
  have l2 := H3.out.lt
  clear x0 x1 x2 x3 x4 x5 x6 x7 x8 x9 x10 x11 x12 x13 x14 x15 ho k2
  go_wp2_with fail
  go_ret
  refine ⟨rfl, (K2.out.nul (· = g2)).setg (g := g2) 0 (fun _ => rfl) _, gm, cm, by omega, H3.out.set_ 0 _, ?_⟩
  exact (HO.out.low hz1).keep (Keep.set1 _ _ _ _) (fun i hi e => by simp [Value.ownBlock] at hi; omega)

/-- impl.Format of a packet that is written. -/
theorem fmtp_walk {p : Nat → Prop} {v : Value} {hd : Hd} {data : List Int} (w : World) (hh : PV w p v hd data) (hg : Good hd) (hp : hd.pad = decide (0 < hd.padn)) (hz : Sz hd data) :
    Calls Tryd.prog 23 #[v] w fun e w' => ∃ g c, e = .returned (.tuple #[.slice (some ⟨g, 0, none⟩) (outP hd data).length c, .bool true]) ∧ Own w' w.heap.size 5 1 (.slice (some ⟨g, 0, none⟩) (outP hd data).length c) (outP hd data).length (B8 (outP hd data)) ∧ Keep w w' Nul := by
  have hh0 := hh
  obtain ⟨sv, xv, A, c, rfl, q1, q2, q3⟩ := hh
  obtain ⟨A1, c1, rfl⟩ := q1.shape
  obtain ⟨A2, c2, rfl⟩ := q2.shape
  clear q1 q2 q3
  have b1 := (Blk.new w 42 (kcells hd (.slice A1 hd.srcs.length c1) (.slice A2 hd.exts.length c2) (.slice A data.length c))).alloc (.cells #[.slice none 0 0] 29)
  have b2 := Blk.new (w.alloc (.cells (kcells hd (.slice A1 hd.srcs.length c1) (.slice A2 hd.exts.length c2) (.slice A data.length c)) 42)) 29 #[.slice none 0 0]
  simp only [World.size_alloc] at b2
  have kW : Keep w ((w.alloc (.cells (kcells hd (.slice A1 hd.srcs.length c1) (.slice A2 hd.exts.length c2) (.slice A data.length c)) 42)).alloc (.cells #[.slice none 0 0] 29)) Nul := ((Keep.refl w _).alloc _).alloc _
  have hT := hide (try_out (k := 58) (g2 := w.heap.size + 1) (b := true) (R := fun w' => ∃ g c, w.heap.size + 3 ≤ g ∧ Blk w' (w.heap.size + 1) 29 #[.slice (some ⟨g, 0, none⟩) (outP hd data).length c] ∧ Own w' (w.heap.size + 3) 5 1 (.slice (some ⟨g, 0, none⟩) (outP hd data).length c) (outP hd data).length (B8 (outP hd data))) (fun _ => by kernel_rfl) (by simp only [World.size_alloc]; omega)
    (fun w1 w2 ⟨g, c, hgl, hb, ho⟩ k => by
      simp only [World.size_alloc] at k
      exact ⟨g, c, hgl, hb.keep k (by omega), ho.keep k (fun i hi e => by simp [Value.ownBlock] at hi; omega)⟩)
    ((fmt1 _ (hh0.keep0 (kW.alloc (.cells #[.bool false] 4))) hg hp hz (b1.alloc (.cells #[.bool false] 4)) (b2.alloc (.cells #[.bool false] 4))).mono (by
      rintro e w' ⟨rfl, hk, g, c, hgl, hb, ho⟩
      simp only [World.size_alloc] at hgl ho
      exact ⟨rfl, hk, g, c, hgl, hb, ho⟩)))
  have KW := hide kW
  clear kW hh0 hg hp hz b1 b2
  unfold kcells at *
  go_enter Tryd.func23, Tryd.ntmps23
  go_wp2_with (refine (hT.out).mono ?_; rintro e w' ⟨rfl, hk, g, c, hgl, hb, ho⟩; have c0 := hb.cell 0 (v := .slice (some ⟨g, 0, none⟩) (outP hd data).length c) rfl; have f0 := hb.free 0)
  have c1 := (hb.set_ 0 (.slice (some ⟨g, 0, none⟩) (outP hd data).length c)).cell 0 (v := .slice (some ⟨g, 0, none⟩) (outP hd data).length c) rfl
  refine bodyPost_ret (v := .tuple #[.slice (some ⟨g, 0, none⟩) (outP hd data).length c, .bool true]) (by simp [results, Tryd.results23, go_sem, c1]) rfl ⟨_, _, rfl, ?_, ?_⟩
  · exact (ho.low (by omega)).keep (Keep.set1 _ _ _ _) (fun i hi e => by simp [Value.ownBlock] at hi; omega)
  · exact (KW.out.trans hk (fun i hi e => by omega)).setg _ (fun h => by omega) _

set_option maxHeartbeats 1600000 in
theorem psz1 {p : Nat → Prop} {hd : Hd} {data : List Int} {v : Value} {g1 g2 : Nat} (w : World) (hh : PV w p v hd data) (hg : Good hd) (hz : Sz hd data)
    (h1 : Blk w g1 42 v.cells) (h2 : Blk w g2 3 #[.int .i64 0]) :
    Calls Tryd.prog 61 #[.pointer (some ⟨g1, 0, none⟩), .pointer (some ⟨g2, 0, none⟩)] w fun e w' => e = .returned (.bool true) ∧ Keep w w' (· = g2) ∧ Blk w' g2 3 #[.int .i64 (psize hd data.length)] := by
  obtain ⟨sv, xv, A, c, rfl, q1, q2, q3⟩ := hh
  have HH := hide (packet_walk w q1 q2 q3 hz.s hz.d hz.x hz.b)
  have HZ := hide hz
  have HG := hide hg
  obtain ⟨A1, c1, rfl⟩ := q1.shape
  obtain ⟨A2, c2, rfl⟩ := q2.shape
  obtain ⟨x0, x1, x2, x3, x4, x5, x6, x7, x8, x9, x10, x11, x12⟩ := kc13 h1
  have hg2 := h2.lt
  have H2 := hide h2
  have hg1 := h1.lt
  clear q1 q2 q3 h1 h2 hg hz
  go_enter Tryd.func61, Tryd.ntmps61
  go_wp2_with fail
  refine Calls.mono (show Calls _ _ #[.agg (kcells hd (.slice A1 hd.srcs.length c1) (.slice A2 hd.exts.length c2) (.slice A data.length c))] _ _ from HH.out) ?_
  rintro e w1 ⟨g, rfl, k1, sv, xv, A', c', off, hgw, b, r1, r2, r3⟩
  obtain ⟨A3, c3, rfl⟩ := r1.shape
  obtain ⟨A4, c4, rfl⟩ := r2.shape
  have HM := hide (pmsize_walk (off := off) (raw := .slice none 0 0) (A := A') (n := data.length) (c := c') w1 r1 r2 HG.out HZ.out.d HZ.out.x HZ.out.b)
  have K1 := hide k1
  clear x0 x1 x2 x3 x4 x5 x6 x7 x8 x9 x10 x11 x12 r1 r2 r3 k1
  obtain ⟨x0, x1, x2, x3, x4, x5, x6, x7, x8, x9, x10, x11, x12, x13, x14, x15⟩ := pc14 b
  clear b
  go_wp2_with fail
  refine Calls.mono (show Calls _ _ #[.agg (pcells hd (.slice A3 hd.srcs.length c3) (.slice A4 hd.exts.length c4) off (.slice A' data.length c') 0 (.slice none 0 0))] _ _ from HM.out) ?_
  rintro e w2 ⟨rfl, k2⟩
  have K2 := hide (K1.out.trans0 k2)
  have H3 := hide (H2.out.keep K2.out id)
  have f2 := H3.out.free 0
  have c2' := H3.out.cell 0 (v := .int .i64 0) rfl
  have l2 := H3.out.lt
  clear x0 x1 x2 x3 x4 x5 x6 x7 x8 x9 x10 x11 x12 x13 x14 x15 k2
  go_wp2_with fail
  go_ret
  exact ⟨rfl, (K2.out.nul (· = g2)).setg (g := g2) 0 (fun _ => rfl) _, H3.out.set_ 0 _⟩

/-- impl.Size. -/
theorem psz_walk {p : Nat → Prop} {v : Value} {hd : Hd} {data : List Int} (w : World) (hh : PV w p v hd data) (hg : Good hd) (hz : Sz hd data) :
    Calls Tryd.prog 24 #[v] w fun e w' => e = .returned (.int .i64 (psize hd data.length)) ∧ Keep w w' Nul := by
  have hh0 := hh
  obtain ⟨sv, xv, A, c, rfl, q1, q2, q3⟩ := hh
  obtain ⟨A1, c1, rfl⟩ := q1.shape
  obtain ⟨A2, c2, rfl⟩ := q2.shape
  clear q1 q2 q3
  have b1 := (Blk.new w 42 (kcells hd (.slice A1 hd.srcs.length c1) (.slice A2 hd.exts.length c2) (.slice A data.length c))).alloc (.cells #[.int .i64 0] 3)
  have b2 := Blk.new (w.alloc (.cells (kcells hd (.slice A1 hd.srcs.length c1) (.slice A2 hd.exts.length c2) (.slice A data.length c)) 42)) 3 #[.int .i64 0]
  simp only [World.size_alloc] at b2
  have kW : Keep w ((w.alloc (.cells (kcells hd (.slice A1 hd.srcs.length c1) (.slice A2 hd.exts.length c2) (.slice A data.length c)) 42)).alloc (.cells #[.int .i64 0] 3)) Nul := ((Keep.refl w _).alloc _).alloc _
  have hT := hide (try_out (k := 61) (g2 := w.heap.size + 1) (b := true) (R := fun w' => Blk w' (w.heap.size + 1) 3 #[.int .i64 (psize hd data.length)]) (fun _ => by kernel_rfl) (by simp only [World.size_alloc]; omega)
    (fun w1 w2 hb k => by
      simp only [World.size_alloc] at k
      exact hb.keep k (by omega))
    (psz1 _ (hh0.keep0 (kW.alloc (.cells #[.bool false] 4))) hg hz (b1.alloc (.cells #[.bool false] 4)) (b2.alloc (.cells #[.bool false] 4))))
  have KW := hide kW
  clear kW hh0 hg hz b1 b2
  unfold kcells at *
  go_enter Tryd.func24, Tryd.ntmps24
  go_wp2_with (refine (hT.out).mono ?_; rintro e w' ⟨rfl, hk, hb⟩; have c0 := hb.cell 0 (v := .int .i64 (psize hd data.length)) rfl; have f0 := hb.free 0)
  have c1 := (hb.set_ 0 (.int .i64 (psize hd data.length))).cell 0 (v := .int .i64 (psize hd data.length)) rfl
  refine bodyPost_ret (v := .int .i64 (psize hd data.length)) (by simp [results, Tryd.results24, go_sem, c1]) rfl ⟨rfl, ?_⟩
  exact (KW.out.trans hk (fun i hi e => by omega)).setg _ (fun h => by omega) _
end Go.Proofs.YtdmnflngafbobaaDoor
