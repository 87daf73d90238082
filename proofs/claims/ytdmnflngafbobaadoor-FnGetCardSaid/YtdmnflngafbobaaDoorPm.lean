/-
  marshalPayloadAndPaddingTo: payload and padding behind a header. Conditions: those that stand in each theorem.
-/
import Derived.Test.YtdmnflngafbobaaDoorPk
namespace Go.Proofs.YtdmnflngafbobaaDoor
open Go.RowKit
set_option linter.unusedVariables false
set_option linter.unusedSimpArgs false
set_option maxRecDepth 100000

section
variable {P : Program} {w : World} {ops : Array Oper} {rest : List Oper} {o : Oper} {a : Act} {Q : Exit → Act → World → Prop} {g : Nat} {done data : List Int} {m : Nat}
/-- copy of bytes to the end of what is written. -/
theorem wpList_copyZ (hgd : o.guard = none) (d x : Operand) {dT sT : TypeId} (ho : o.op = .call { callee := .builtin .copy, args := #[d, x], argTypes := #[dT, sT] })
    (hu : P.underlying dT = some (.slice 5)) (hsz : (P.info? 5).map (·.size) = some 1) (h : Buf w g done (Z8 m))
    {p : Nat → Prop} {s : Value} {n : Nat} (hs : Rd w p 1 s n (B8 data)) {dn dc : Nat} {dp : Option Addr} (hd : a.eval d = .slice dp dn dc) (hx : a.eval x = s) (hdp : 0 < n → dp = some ⟨g, done.length, none⟩) (hdn : n ≤ dn) (hm : n ≤ m)
    (hk : ∀ w', Buf w' g (done ++ data) (Z8 (m - n)) → Keep w w' (· = g) → wpList P ops Q rest (a.put o.dst (goInt (n : Int))) w') :
    wpList P ops Q (o :: rest) a w := by
  have hl : data.length = n := by have := hs.len; rwa [B8_len] at this
  have e1 : min n dn = n := by omega
  refine wpList_copyB hgd d x ho hu hsz g done.length h hs (B8_one _) hd hx (by rw [e1]; exact hdp) (by rw [e1]; simp [B8_len, Z8_len]; omega) fun w' hb hk' => ?_
  rw [e1, List.take_of_length_le (by rw [B8_len]; omega)] at hb
  rw [e1]
  have := Buf.copied hb (by omega)
  rw [hl] at this
  exact hk w' this hk'
theorem wpList_clr (hgd : o.guard = none) (x : Operand) {t : TypeId} (ho : o.op = .call { callee := .builtin .clear, args := #[x], argTypes := #[t] }) {vx : Value} {w' : World} (hr : (Builtin.clear_ #[t] o.type #[vx]).run P w = .ok (.tuple #[]) w') (hx : a.eval x = vx)
    (h : wpList P ops Q rest (a.put o.dst (.tuple #[])) w') : wpList P ops Q (o :: rest) a w := by
  refine wpList_run hgd ?_ h
  unfold execOp
  simp only [ho, resolve, invoke, builtin, Sem.run_bind, Sem.run_pure, Result.andThen_ok, List.map_toArray, List.map_cons, List.map_nil, hx, hr]
theorem setCells_same {t : TypeId} {cs : Array Value} (h : Blk w g t cs) (vs : List Value) (o : Nat) (hl : o + vs.length ≤ cs.size) (hv : (cs.toList.drop o).take vs.length = vs) : Blk (w.setCells g o vs) g t cs := by
  have := heap_setCells (b := g) vs o cs w h hl
  unfold Blk
  rw [this]
  have e : (cs.toList.take o ++ vs ++ cs.toList.drop (o + vs.length)) = cs.toList := by
    conv => lhs; rw [← hv]
    rw [List.append_assoc]
    conv => rhs; rw [← List.take_append_drop o cs.toList]
    congr 1
    conv => rhs; rw [← List.take_append_drop vs.length (cs.toList.drop o)]
    rw [List.drop_drop]
    congr 2
    rw [hv]
  rw [e]
end
/-- clear of noughts behind what is written. -/
theorem clr_buf {w : World} {g : Nat} {done : List Int} {m k c o : Nat} {dp : Option Addr} (ty : TypeId) (h : Buf w g done (Z8 m)) (hk : k ≤ m) (ho : o = done.length) (hdp : 0 < k → dp = some ⟨g, o, none⟩) :
    ∃ w', (Builtin.clear_ #[29] ty #[.slice dp k c]).run Tryd.prog w = .ok (.tuple #[]) w' ∧ Buf w' g done (Z8 m) ∧ Keep w w' (· = g) := by
  subst ho
  by_cases h0 : k = 0
  · subst h0
    refine ⟨w, ?_, h, Keep.refl _ _⟩
    cases dp <;> simp [Builtin.clear_, run_underlying Tryd.underlying29]
  · obtain rfl := hdp (by omega)
    have hr := Lib.run_clear_slice (P := Tryd.prog) w 29 5 ty (.int .u8 0) Tryd.underlying29 (fun _ => by kernel_rfl) rfl rfl g done.length k c (by omega)
      (fun j hj => by rw [h.zcell (k := done.length + j) (by omega) (by omega)]; rfl) (fun j _ => h.free _)
    refine ⟨_, hr, ?_, keep_setCells _ _ _⟩
    refine setCells_same h _ _ (by simp [B8_len, Z8_len]; omega) ?_
    simp only [List.length_replicate]
    rw [show done.length = (B8 done).length from (B8_len done).symm, List.drop_left]
    unfold Z8
    rw [List.take_replicate]
    congr 1
    omega

/-- The padding of a packet. -/
def padB (h : Hd) : List Int := if h.pad then List.replicate (h.padn.toNat - 1) 0 ++ [h.padn] else []

set_option maxHeartbeats 1600000 in
theorem mpp_pos {p : Nat → Prop} {hd : Hd} {done data : List Int} {G L N g c : Nat} {A : Option Addr} (w : World) (hR : Rd w p 1 (.slice A data.length c) data.length (B8 data)) (hpg : ∀ k, p k → k ≠ G)
    (hB : Buf w G done (Z8 (L - N))) (hN : N = done.length) (h1 : w.cell? ⟨g, 1, none⟩ = some (.bool true)) (hpd : hd.pad = true) (hp0 : 0 < hd.padn) (hg : g ≠ G) (hpn : 0 ≤ hd.padn ∧ hd.padn < 256) (hL : N + data.length + hd.padn.toNat = L) (hLm : L ≤ 1099511627776) :
    Calls Tryd.prog 114 #[.slice (some ⟨G, 0, none⟩) L L, .int .i64 (N : Int), .pointer (some ⟨g, 0, none⟩), .slice A data.length c, .int .u8 hd.padn] w fun e w' =>
      e = .returned (.tuple #[.int .i64 (L : Int), Value.nilIface]) ∧ Buf w' G (done ++ data ++ padB hd) (Z8 0) ∧ Keep w w' (· = G) := by
  have HR := hide hR
  have HB := hide hB
  have HN := hide hN
  have HH1 := hide h1
  have HPD := hide hpd
  have hLi : (N : Int) + (data.length : Int) + hd.padn = (L : Int) := by omega
  have HL := hide hL
  have hLl : ¬ ((L : Int) < (N : Int) + (data.length : Int) + hd.padn) := by omega
  have hNL : (N : Int) ≤ (L : Int) := by omega
  have hNL2 : N + data.length < L := by omega
  have n1 : ¬ L = N := by omega
  have n2 : ¬ L = N + data.length := by omega
  have hpp := hpn.1
  have hpq := hpn.2
  clear hR hB hN h1 hL hpd
  go_enter Tryd.func114, Tryd.ntmps114
  go_upto_region 4 with (refine wpList_copyZ rfl _ _ rfl Tryd.underlying29 (by kernel_rfl) HB.out HR.out rfl rfl (fun h0 => congrArg (fun z => some (⟨G, z, none⟩ : Addr)) HN.out) (by omega) (by omega) ?_; intro w1 hb1 hk1; have B1 := hide hb1; have K1 := hide hk1; clear hb1 hk1)
  have hM : N + data.length = (done ++ data).length := by rw [List.length_append, HN.out]
  have B1' := hide (show Buf w1 G (done ++ data) (Z8 (L - (N + data.length))) by have := B1.out; rw [Nat.sub_sub] at this; exact this)
  have hlo : (N : Int) + (data.length : Int) ≤ (L : Int) := by omega
  have hlz : (0 : Int) ≤ (N : Int) + (data.length : Int) := by omega
  obtain ⟨w2, hr, b2, k2⟩ := clr_buf (c := L - (N + data.length)) (dp := some ⟨G, N + data.length, none⟩) 0 B1'.out (k := L - (N + data.length)) (Nat.le_refl _) hM (fun _ => rfl)
  have HM := hide hM
  have B2 := hide b2
  have K2 := hide (K1.out.trans k2 fun _ _ e => e)
  clear hM b2 k2
  go_upto_region 5 with (refine wpList_clr rfl _ rfl hr rfl ?_)
  have h1 := K2.out.cell hg HH1.out
  have hps : 1 ≤ hd.padn := by omega
  have hpl : (done ++ data).length + (hd.padn.toNat - 1) = N + data.length + (hd.padn.toNat - 1) := by rw [← HM.out]
  have b3 := B2.out.zero (hd.padn.toNat - 1) (by have := HL.out; omega)
  have hx : ((N : Int) + (data.length : Int) + (hd.padn - 1)).toNat = N + data.length + (hd.padn.toNat - 1) := by omega
  have z3 := b3.zcell (k := N + data.length + (hd.padn.toNat - 1)) (by rw [List.length_append, List.length_replicate, ← HM.out]; omega) (by rw [List.length_append, List.length_replicate, ← HM.out]; have := HL.out; omega)
  have f3 := b3.free (N + data.length + (hd.padn.toNat - 1))
  have l3 := b3.lt
  have B3 := hide b3
  have HPL := hide hpl
  have HX := hide hx
  clear hr b3 hpl
  go_wp2_with fail
  go_ret2
  have hb := B3.out.z1 (by have := HL.out; omega) (k := N + data.length + (hd.padn.toNat - 1)) (by rw [List.length_append, List.length_replicate, HPL.out]) hd.padn
  rw [show L - (N + data.length) - (hd.padn.toNat - 1) - 1 = 0 by have := HL.out; omega] at hb
  refine ⟨rfl, ?_, K2.out.setg _ (fun _ => rfl) _⟩
  have e1 : padB hd = List.replicate (hd.padn.toNat - 1) 0 ++ [hd.padn] := by unfold padB; rw [HPD.out]; rfl
  rw [e1]
  simpa using hb

set_option maxHeartbeats 1600000 in
theorem mpp_zero {p : Nat → Prop} {done data : List Int} {G L N g c n : Nat} {A : Option Addr} (w : World) (hR : Rd w p 1 (.slice A n c) n (B8 data)) (hpg : ∀ k, p k → k ≠ G)
    (hB : Buf w G done (Z8 n)) (hN : N = done.length) (h1 : w.cell? ⟨g, 1, none⟩ = some (.bool false)) (hg : g ≠ G) (hL : L = N + n) (hLm : L ≤ 1099511627776) :
    Calls Tryd.prog 114 #[.slice (some ⟨G, 0, none⟩) L L, .int .i64 (N : Int), .pointer (some ⟨g, 0, none⟩), .slice A n c, .int .u8 0] w fun e w' =>
      e = .returned (.tuple #[.int .i64 (L : Int), Value.nilIface]) ∧ Buf w' G (done ++ data) (Z8 0) ∧ Keep w w' (· = G) := by
  subst hL
  have HR := hide hR
  have HB := hide hB
  have HN := hide hN
  have HH1 := hide h1
  have HL := hide (show data.length = n by have := hR.len; rwa [B8_len] at this)
  have hNd : (N : Int) ≤ (N : Int) + (n : Int) := by omega
  clear hR hB hN h1
  by_cases h0 : n = 0
  · subst h0
    have e0 : data = [] := List.eq_nil_of_length_eq_zero HL.out
    subst e0
    simp only [Nat.add_zero]
    go_enter Tryd.func114, Tryd.ntmps114
    go_upto_region 4 with (refine wpList_copyZ rfl _ _ rfl Tryd.underlying29 (by kernel_rfl) HB.out HR.out rfl rfl (fun h0 => absurd h0 (Nat.lt_irrefl 0)) (Nat.le_refl _) (Nat.le_refl _) ?_; intro w1 hb1 hk1; have B1 := hide hb1; have K1 := hide hk1; clear hb1 hk1)
    obtain ⟨w2, hr, b2, k2⟩ := clr_buf (w := w1) (c := 0) (dp := some ⟨G, 0, none⟩) (m := 0) (k := 0) (o := (done ++ []).length) (g := G) (done := done ++ []) 0 (by simpa using B1.out) (Nat.le_refl _) rfl (fun h => absurd h (by simp))
    have B2 := hide b2
    have K2 := hide (K1.out.trans k2 fun _ _ e => e)
    have h1 := K2.out.cell hg HH1.out
    clear b2 k2
    go_wp2_with (refine wpList_clr rfl _ rfl hr rfl ?_)
    go_ret2
    exact ⟨rfl, by simpa using B2.out, K2.out⟩
  · have n1 : ¬ N + n = N := by omega
    have hp0 : 0 < n := by omega
    go_enter Tryd.func114, Tryd.ntmps114
    go_upto_region 4 with (refine wpList_copyZ rfl _ _ rfl Tryd.underlying29 (by kernel_rfl) HB.out HR.out rfl rfl (fun h0 => congrArg (fun z => some (⟨G, z, none⟩ : Addr)) HN.out) (by omega) (by omega) ?_; intro w1 hb1 hk1; have B1 := hide hb1; have K1 := hide hk1; clear hb1 hk1)
    obtain ⟨w2, hr, b2, k2⟩ := clr_buf (w := w1) (c := 0) (dp := some ⟨G, 0, none⟩) (m := 0) (k := 0) (o := (done ++ data).length) (g := G) (done := done ++ data) 0 (by simpa using B1.out) (Nat.le_refl _) rfl (fun h => absurd h (by simp))
    have B2 := hide b2
    have K2 := hide (K1.out.trans k2 fun _ _ e => e)
    have h1 := K2.out.cell hg HH1.out
    clear b2 k2
    go_wp2_with (refine wpList_clr rfl _ rfl hr rfl ?_)
    go_ret2
    exact ⟨rfl, by simpa using B2.out, K2.out⟩

/-- marshalPayloadAndPaddingTo. -/
theorem mpp_walk {p : Nat → Prop} {hd : Hd} {done data : List Int} {G L N g c : Nat} {A : Option Addr} (w : World) (hR : Rd w p 1 (.slice A data.length c) data.length (B8 data)) (hpg : ∀ k, p k → k ≠ G)
    (hB : Buf w G done (Z8 (L - N))) (hN : N = done.length) (h1 : w.cell? ⟨g, 1, none⟩ = some (.bool hd.pad)) (hg : g ≠ G) (hp : hd.pad = decide (0 < hd.padn)) (hpn : 0 ≤ hd.padn ∧ hd.padn < 256) (hL : N + data.length + hd.padn.toNat = L) (hLm : L ≤ 1099511627776) :
    Calls Tryd.prog 114 #[.slice (some ⟨G, 0, none⟩) L L, .int .i64 (N : Int), .pointer (some ⟨g, 0, none⟩), .slice A data.length c, .int .u8 hd.padn] w fun e w' =>
      e = .returned (.tuple #[.int .i64 (L : Int), Value.nilIface]) ∧ Buf w' G (done ++ data ++ padB hd) (Z8 0) ∧ Keep w w' (· = G) := by
  by_cases h0 : 0 < hd.padn
  · have hpt : hd.pad = true := by rw [hp]; simpa using h0
    exact mpp_pos w hR hpg hB hN (by rw [h1, hpt]) hpt h0 hg hpn hL hLm
  · have hpf : hd.pad = false := by rw [hp]; simpa using h0
    have hz : hd.padn = 0 := by omega
    have e1 : padB hd = [] := by unfold padB; rw [hpf]; rfl
    rw [hz, e1, List.append_nil]
    rw [hz] at hL
    exact mpp_zero w hR hpg (by rw [show data.length = L - N by simp at hL; omega]; exact hB) hN (by rw [h1, hpf]) hg (by simp at hL; omega) hLm
end Go.Proofs.YtdmnflngafbobaaDoor
