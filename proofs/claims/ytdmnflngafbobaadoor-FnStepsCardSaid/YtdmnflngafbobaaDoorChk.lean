/-
  An extension is checked against its profile. Conditions: those that stand in each theorem.
-/
import Derived.Test.YtdmnflngafbobaaDoorWorks
import Derived.Deep.RegionWith
namespace Go.Proofs.YtdmnflngafbobaaDoor
open Go.RowKit
set_option linter.unusedVariables false
set_option linter.unusedSimpArgs false
set_option maxRecDepth 20000

structure HErrs (w : World) : Prop where
  e5 : ∃ te ve, w.cell? ⟨5, 0, none⟩ = some (.iface te ve)
  e6 : ∃ te ve, w.cell? ⟨6, 0, none⟩ = some (.iface te ve)
  e7 : ∃ te ve, w.cell? ⟨7, 0, none⟩ = some (.iface te ve)
  e8 : ∃ te ve, w.cell? ⟨8, 0, none⟩ = some (.iface te ve)
  e9 : ∃ te ve, w.cell? ⟨9, 0, none⟩ = some (.iface te ve)
theorem HErrs.keep0 {w w' : World} (h : HErrs w) (k : Keep w w' Nul) : HErrs w' := by
  obtain ⟨⟨a1, b1, c1⟩, ⟨a2, b2, c2⟩, ⟨a3, b3, c3⟩, ⟨a4, b4, c4⟩, ⟨a5, b5, c5⟩⟩ := h
  exact ⟨⟨a1, b1, k.cell id c1⟩, ⟨a2, b2, k.cell id c2⟩, ⟨a3, b3, k.cell id c3⟩, ⟨a4, b4, k.cell id c4⟩, ⟨a5, b5, k.cell id c5⟩⟩

/-- What a check answers. -/
def ChkR (b : Bool) (e : Value) : Prop := (b = true ∧ e = .nilIface) ∨ (b = false ∧ ∃ te ve, e = .iface te ve)

theorem hchk_walk {p id : Int} {A : Option Addr} {n c : Nat} (w : World) (h1 : 1 ≤ n) (he : HErrs w) :
    Calls Tryd.prog 106 #[.int .u16 p, .int .u8 id, .slice A n c] w fun e w' => ∃ ev, e = .returned ev ∧ ChkR (fitsB p id n) ev ∧ w = w' := by
  obtain ⟨⟨a1, b1, c1⟩, ⟨a2, b2, c2⟩, ⟨a3, b3, c3⟩, ⟨a4, b4, c4⟩, ⟨a5, b5, c5⟩⟩ := he
  have h1' : (1 : Int) ≤ (n : Int) := by omega
  unfold ChkR fitsB
  go_enter Tryd.func106, Tryd.ntmps106
  go_wp2_with fail
  all_goals
    go_ret
    refine ⟨_, rfl, ?_, rfl⟩
    simp only [beq_iff_eq, beq_eq_false_iff_ne, bne_iff_ne, bne_eq_false_iff_eq, ne_eq] at *
    first
    | (refine .inl ⟨?_, rfl⟩
       by_cases q1 : p = 48862 <;> by_cases q2 : p = 4096 <;> (try (exfalso; omega)) <;> (try simp [q1, q2]) <;> omega)
    | (refine .inr ⟨?_, _, _, rfl⟩
       by_cases q1 : p = 48862 <;> by_cases q2 : p = 4096 <;> (try (exfalso; omega)) <;> (try simp [q1, q2]) <;> omega)

theorem zzchk_walk {p id : Int} {A : Option Addr} {n c : Nat} (w : World) (h1 : 1 ≤ n) (he : HErrs w) :
    Calls Tryd.prog 75 #[.int .u16 p, .int .u8 id, .slice A n c] w fun e w' => ∃ ev, e = .returned ev ∧ ChkR (fitsB p id n) ev ∧ w = w' := by
  have hH := hide (hchk_walk (p := p) (id := id) (A := A) (n := n) (c := c) w h1 he)
  clear h1 he
  go_enter Tryd.func75, Tryd.ntmps75
  go_wp2_with fail
  refine (hH.out).mono ?_
  rintro e w1 ⟨ev, rfl, hR, rfl⟩
  have HR := hide hR
  clear hR
  go_wp2_with fail
  go_ret
  exact ⟨_, rfl, HR.out, rfl⟩

theorem zz_t {p id : Int} {A : Option Addr} {n c : Nat} (w : World) (h1 : 1 ≤ n) (he : HErrs w) (hb : fitsB p id n = true) :
    Calls Tryd.prog 75 #[.int .u16 p, .int .u8 id, .slice A n c] w fun e w' => e = .returned .nilIface ∧ w = w' :=
  (zzchk_walk w h1 he).mono fun e w' ⟨ev, q1, q2, q3⟩ => by
    rcases q2 with ⟨_, rfl⟩ | ⟨q, _⟩
    · exact ⟨q1, q3⟩
    · rw [hb] at q; cases q
theorem zz_f {p id : Int} {A : Option Addr} {n c : Nat} (w : World) (h1 : 1 ≤ n) (he : HErrs w) (hb : fitsB p id n = false) :
    Calls Tryd.prog 75 #[.int .u16 p, .int .u8 id, .slice A n c] w fun e w' => ∃ te ve, e = .returned (.iface te ve) ∧ w = w' :=
  (zzchk_walk w h1 he).mono fun e w' ⟨ev, q1, q2, q3⟩ => by
    rcases q2 with ⟨q, _⟩ | ⟨_, te, ve, rfl⟩
    · rw [hb] at q; cases q
    · exact ⟨te, ve, q1, q3⟩

set_option maxHeartbeats 1600000 in
theorem chk1_walk {p id : Int} {v : Value} {n g0 g1 g2 : Nat} {xs : List Int} {q : Nat → Prop} (w : World) (hR : Rd w q 1 v n (B8 xs)) (h1 : 1 ≤ n) (hn : n ≤ 2147483647) (he : HErrs w)
    (b0 : Blk w g0 22 #[.int .u16 p]) (b1 : Blk w g1 5 #[.int .u8 id]) (b2 : Blk w g2 29 #[v]) :
    Calls Tryd.prog 74 #[.pointer (some ⟨g0, 0, none⟩), .pointer (some ⟨g1, 0, none⟩), .pointer (some ⟨g2, 0, none⟩)] w fun e w' => e = .returned (.bool (fitsB p id n)) ∧ Keep w w' Nul := by
  obtain ⟨A, c, rfl⟩ := hR.shape
  have HR := hide hR.drew
  have HE := hide (he.keep0 ((Keep.refl w Nul).drew))
  have c0 := hide (b0.drew)
  have c1 := hide (b1.drew)
  have c2 := hide (b2.drew)
  have KD := hide ((Keep.refl w Nul).drew)
  have H1 := hide h1
  clear hR he b0 b1 b2 h1
  rcases hb : fitsB p id n
  · have HB := hide hb
    clear hb
    go_enter Tryd.func74, Tryd.ntmps74
    go_upto_region 1 with fail
    have hC := hide (clone_b w.drew HR.out (B8_one _) (by omega))
    have x0 := c0.out.cell 0 (v := .int .u16 p) rfl
    have x1 := c1.out.cell 0 (v := .int .u8 id) rfl
    have x2 := c2.out.cell 0 (v := .slice A n c) rfl
    go_region_with (first
      | (go_at_call 65; refine (hC.out).mono ?_; rintro e w2 ⟨v1, rfl, o1, k2, -⟩; obtain ⟨Ac, cc, rfl⟩ := o1.rd.shape; have y0 := (c0.out.keep k2 (fun h => h)).cell 0 (v := .int .u16 p) rfl; have y1 := (c1.out.keep k2 (fun h => h)).cell 0 (v := .int .u8 id) rfl; have K2 := hide k2; clear o1 k2)
      | (go_at_call 75; refine (zz_f _ H1.out (HE.out.keep0 K2.out) HB.out).mono ?_; rintro e w3 ⟨te, ve, rfl, rfl⟩))
    all_goals
      go_wp2_with fail
      go_ret
      exact ⟨rfl, KD.out.trans0 K2.out⟩
  · have HB := hide hb
    clear hb
    go_enter Tryd.func74, Tryd.ntmps74
    go_upto_region 1 with fail
    have hC := hide (clone_b w.drew HR.out (B8_one _) (by omega))
    have x0 := c0.out.cell 0 (v := .int .u16 p) rfl
    have x1 := c1.out.cell 0 (v := .int .u8 id) rfl
    have x2 := c2.out.cell 0 (v := .slice A n c) rfl
    go_region_with (first
      | (go_at_call 65; refine (hC.out).mono ?_; rintro e w2 ⟨v1, rfl, o1, k2, -⟩; obtain ⟨Ac, cc, rfl⟩ := o1.rd.shape; have y0 := (c0.out.keep k2 (fun h => h)).cell 0 (v := .int .u16 p) rfl; have y1 := (c1.out.keep k2 (fun h => h)).cell 0 (v := .int .u8 id) rfl; have K2 := hide k2; clear o1 k2)
      | (go_at_call 75; refine (zz_t _ H1.out (HE.out.keep0 K2.out) HB.out).mono ?_; rintro e w3 ⟨rfl, rfl⟩))
    all_goals
      go_wp2_with fail
      go_ret
      exact ⟨rfl, KD.out.trans0 K2.out⟩

theorem check_walk {p id : Int} {v : Value} {n : Nat} {xs : List Int} {q : Nat → Prop} (w : World) (hR : Rd w q 1 v n (B8 xs)) (h1 : 1 ≤ n) (hn : n ≤ 2147483647) (he : HErrs w) :
    Calls Tryd.prog 34 #[.int .u16 p, .int .u8 id, v] w fun e w' => e = .returned (.bool (fitsB p id n)) ∧ Keep w w' Nul := by
  obtain ⟨A, c, rfl⟩ := hR.shape
  have kW : Keep w (((w.alloc (.cells #[.int .u16 p] 22)).alloc (.cells #[.int .u8 id] 5)).alloc (.cells #[.slice A n c] 29)) Nul := (((Keep.refl w _).alloc _).alloc _).alloc _
  have b0 := ((Blk.new w 22 #[.int .u16 p]).alloc (.cells #[.int .u8 id] 5)).alloc (.cells #[.slice A n c] 29)
  have b1 := (Blk.new (w.alloc (.cells #[.int .u16 p] 22)) 5 #[.int .u8 id]).alloc (.cells #[.slice A n c] 29)
  have b2 := Blk.new ((w.alloc (.cells #[.int .u16 p] 22)).alloc (.cells #[.int .u8 id] 5)) 29 #[.slice A n c]
  simp only [World.size_alloc] at b1 b2
  have hT := hide (try_keep 74 _ (fitsB p id n) (fun w' => Keep w w' Nul) _ (fun _ => by kernel_rfl)
    (fun w1 w2 hk k => hk.trans k (fun i hi e => by simp at e; omega))
    ((chk1_walk _ (hR.keep0 (kW.alloc _)) h1 hn (he.keep0 (kW.alloc _)) (b0.alloc _) (b1.alloc _) (b2.alloc _)).mono (by
      rintro e w' ⟨rfl, hk⟩
      exact ⟨rfl, (Blk.new _ _ _).keep hk (fun h => h), (kW.alloc _).trans0 hk⟩)))
  clear b0 b1 b2 kW hR he
  go_enter Tryd.func34, Tryd.ntmps34
  go_wp2_with (refine (hT.out).mono ?_; rintro e w' ⟨rfl, hk⟩)
  go_ret
  exact ⟨rfl, hk⟩
end Go.Proofs.YtdmnflngafbobaaDoor
