/-
  (*rtp.Packet).Unmarshal: its walk over the header's. Conditions: those that stand in each theorem.
-/
import Derived.Test.YtdmnflngafbobaaDoorPun
namespace Go.Proofs.YtdmnflngafbobaaDoor
open Go.RowKit
set_option linter.unusedVariables false
set_option linter.unusedSimpArgs false
set_option maxRecDepth 100000

/-- The sizes of a header that has been read. -/
def Hs (h : Hd) : Prop := h.srcs.length ≤ 2147483647 ∧ h.exts.length ≤ 2147483647 ∧ ∀ x ∈ h.exts, x.data.length ≤ 2147483647
/-- A packet of the package that has been read: at g. -/
def UP (w : World) (q : Nat → Prop) (g : Nat) (h : Hd) (pay : List Int) : Prop :=
  ∃ sv xv pv ps, BL w g 110 (uc h sv xv [pv, .int .u8 ps, .slice none 0 0]) ∧ Rd w q 1 sv h.srcs.length (U32 h.srcs) ∧ XR w q xv h.exts ∧ Rd w q 1 pv pay.length (B8 pay)
/-- What Unmarshal of a packet leaves. -/
def PunPost (bs : List Int) (w : World) (g : Nat) (q : Nat → Prop) (e : Ending) (w' : World) : Prop :=
  (∃ h pay, readP bs = .good h pay ∧ Hs h ∧ e = .returned Value.nilIface ∧ UP w' q g h pay ∧ Keep w w' (· = g)) ∨
  (readP bs = .bad ∧ ∃ te ve h, Hs h ∧ e = .returned (.iface te ve) ∧ UP w' q g h [] ∧ Keep w w' (· = g))

/-- The cells behind the stores of a packet that has been read. -/
theorem up_store {w : World} {q : Nat → Prop} {g : Nat} {h : Hd} {pay : List Int} {sv xv pv : Value} {z : Int} (hB : BL w g 110 (uc { h with padn := 0 } sv xv [.slice none 0 0, .int .u8 0, .slice none 0 0])) (r1 : Rd w q 1 sv h.srcs.length (U32 h.srcs)) (r2 : XR w q xv h.exts) (r3 : Rd w q 1 pv pay.length (B8 pay)) (hq : ¬ q g) :
    UP (((w.setCell ⟨g, 11, none⟩ (.int .u8 z)).setCell ⟨g, 14, none⟩ (.int .u8 z)).setCell ⟨g, 13, none⟩ pv) q g { h with padn := z } pay := by
  have k : Keep w (((w.setCell ⟨g, 11, none⟩ (.int .u8 z)).setCell ⟨g, 14, none⟩ (.int .u8 z)).setCell ⟨g, 13, none⟩ pv) (· = g) := (((Keep.refl w (· = g)).setg _ (fun _ => rfl) _).setg _ (fun _ => rfl) _).setg _ (fun _ => rfl) _
  have hk : ∀ i, i < w.heap.size → q i → ¬ i = g := fun i _ hi e => hq (e ▸ hi)
  exact ⟨sv, xv, pv, z, ((hB.set 11 (.int .u8 z)).set 14 (.int .u8 z)).set 13 pv, r1.keep k hk, r2.keep k hk, r3.keep k hk⟩
theorem keep3 {w w1 : World} {g : Nat} (hk : Keep w w1 (· = g)) (a b c : Value) : Keep w (((w1.setCell ⟨g, 11, none⟩ a).setCell ⟨g, 14, none⟩ b).setCell ⟨g, 13, none⟩ c) (· = g) := ((hk.setg _ (fun _ => rfl) _).setg _ (fun _ => rfl) _).setg _ (fun _ => rfl) _

set_option maxHeartbeats 1600000 in
theorem pun_walk {p q : Nat → Prop} {bs : List Int} {n c g : Nat} {A : Option Addr} (w : World) (hR : Rd w p 1 (.slice A n c) n (B8 bs)) (hI : IsB bs) (hnm : n ≤ 2147483647) (hp : ∀ i, p i → i ≠ g) (hpq : ∀ i, p i → q i) (he : Errs w) (hge : ¬ Glob g) (hqg : ¬ q g)
    (hs : ∀ h m, readB bs = .good h m → Hs h ∧ m ≤ n ∧ 12 ≤ m ∧ h.padn = 0) (hv : readP bs ≠ .wide)
    (hU : Calls Tryd.prog 71 #[.pointer (some ⟨g, 0, none⟩), .slice A n c] w (UnPost bs w g 110 [.slice none 0 0, .int .u8 0, .slice none 0 0] q)) :
    Calls Tryd.prog 64 #[.pointer (some ⟨g, 0, none⟩), .slice A n c] w (PunPost bs w g q) := by
  have hl : bs.length = n := by have := hR.len; rwa [B8_len] at this
  have HL := hide hl
  have HR := hide hR
  have HP := hide hp
  have HPQ := hide hpq
  have HE := hide he
  have HS := hide hs
  have HV := hide hv
  have HU := hide hU
  have HI := hide hI
  clear hR hp hpq he hs hv hU hl hI
  go_enter Tryd.func64, Tryd.ntmps64
  go_wp2_with fail
  refine (HU.out).mono ?_
  rintro e w1 hpost
  rcases hpost with ⟨h, m, hg, rfl, hu, hk⟩ | ⟨hb, m, te, ve, hd, rfl, h1, h2, hu, hk⟩
  · obtain ⟨hhs, hmn, h12, hp0⟩ := HS.out h m hg
    have HP0 := hide hp0
    clear hp0
    obtain ⟨sv, xv, hBL, r1, r2⟩ := hu
    have HHS := hide hhs
    have HG := hide hg
    have B1 := hide hBL
    have R1 := hide r1
    have X1 := hide r2
    have K1 := hide hk
    obtain ⟨b, o, c', hv', q1, q2, q3, q4, -⟩ := HR.out.lit (by omega)
    injection hv' with e1 _ e3
    subst e1 e3
    have RB := hide (HR.out.keep hk (fun i hi hp' e => HP.out i hp' e))
    have x11 := hBL.cell 11 (v := .int .u8 h.padn) rfl
    have x13 := hBL.cell 13 (v := .slice none 0 0) rfl
    have x14 := hBL.cell 14 (v := .int .u8 0) rfl
    have fg := fun i => B1.out.free i
    have hgw := hBL.lt
    have x1 := hBL.cell 1 (v := .bool h.pad) rfl
    have hbg : ¬ b = g := HP.out b q3
    have hgb : ¬ g = b := fun e => hbg e.symm
    clear hhs hg hBL r1 r2 hk
    cases hpad : h.pad
    · rw [hpad] at x1
      have HPAD := hide hpad
      have hmi : (m : Int) ≤ (n : Int) := by omega
      have hmi2 : ¬ (n : Int) < (m : Int) := by omega
      clear hpad
      have hrp : readP bs = .good h (bs.drop m) := by unfold readP; rw [HG.out]; simp [HPAD.out]
      have hdl : (bs.drop m).length = n - m := by rw [List.length_drop, HL.out]
      have hdt : (bs.drop m).take (n - m) = bs.drop m := List.take_of_length_le (by omega)
      have e0 : { h with padn := 0 } = h := by have := HP0.out; cases h; simp at this; subst this; rfl
      have HRP := hide hrp
      have HDL := hide hdl
      have HDT := hide hdt
      have HE0 := hide e0
      clear hrp hdl hdt e0
      by_cases hcm : c = m
      · subst hcm
        have hnc : n = c := by omega
        have HNC := hide hnc
        clear hnc
        go_wp2_with fail
        (try go_ret)
        have r3 := RB.out.sub c n hmn (Nat.le_refl _) (some ⟨b, o, none⟩) (fun h => absurd rfl h) (by simp)
        have hz : n - c = 0 := by have := HNC.out; omega
        rw [HDT.out, Nat.sub_self, hz] at r3
        have hu := up_store (z := 0) (h := h) (pay := bs.drop c) (by rw [HE0.out]; exact B1.out) R1.out X1.out (by rw [HDL.out, hz]; exact r3.mono (fun i _ hi => HPQ.out i hi)) hqg
        rw [HE0.out] at hu
        exact .inl ⟨h, _, HRP.out, HHS.out, rfl, hu, keep3 K1.out _ _ _⟩
      · go_wp2_with fail
        (try go_ret)
        have r3 := RB.out.sub m n hmn (Nat.le_refl _) (some ⟨b, o + m, none⟩) (fun _ => rfl) (by simp)
        rw [HDT.out] at r3
        have hu := up_store (z := 0) (h := h) (pay := bs.drop m) (by rw [HE0.out]; exact B1.out) R1.out X1.out (by rw [HDL.out]; exact r3.mono (fun i _ hi => HPQ.out i hi)) hqg
        rw [HE0.out] at hu
        exact .inl ⟨h, _, HRP.out, HHS.out, rfl, hu, keep3 K1.out _ _ _⟩
    · rw [hpad] at x1
      have HPAD := hide hpad
      clear hpad
      obtain ⟨te3, ve3, he3⟩ := (HE.out.keep K1.out (fun i hi e => hge (e ▸ hi))).e3
      by_cases hnle : n ≤ m
      · have hni : (n : Int) ≤ (m : Int) := by omega
        have hrp : readP bs = .bad := by unfold readP; rw [HG.out]; simp [HPAD.out, HL.out, hnle]
        have HRP := hide hrp
        clear hrp
        go_wp2_with fail
        (try go_ret)
        exact .inr ⟨HRP.out, te3, ve3, h, HHS.out, rfl, ⟨sv, xv, _, 0, B1.out, R1.out, X1.out, Rd.nil_ _ _ _⟩, K1.out⟩
      · have hni : ¬ (n : Int) ≤ (m : Int) := by omega
        have hnp : 0 < n := by omega
        obtain ⟨z, hz⟩ : ∃ z, z = g8 bs (n - 1) := ⟨_, rfl⟩
        have hzr := g8_rng HI.out (n - 1)
        have hcz := rd_at RB.out (n - 1) (by omega)
        rw [← hz] at hzr hcz
        have HZ := hide hz
        have hn1 : ((n : Int) - 1).toNat = n - 1 := by omega
        have hn2 : (0 : Int) ≤ (n : Int) - 1 := by omega
        have hz0 : z ≠ 0 := by
          intro h0
          refine HV.out ?_
          unfold readP
          rw [HG.out]
          simp [HPAD.out, HL.out, hnle, ← hz, h0]
        have hzb : (z == 0) = false := by simpa using hz0
        have hzi : (n : Int) - z = ((n - z.toNat : Nat) : Int) ∨ (n : Int) < z := by omega
        clear hz
        by_cases hlt : n - m < z.toNat
        · have hlt' : (n : Int) - z < (m : Int) := by omega
          have hrp : readP bs = .bad := by unfold readP; rw [HG.out]; simp [HPAD.out, HL.out, hnle, ← HZ.out, hz0, hlt]
          have HRP := hide hrp
          clear hrp hzi
          go_wp2_with fail
          (try go_ret)
          have k2 : Keep w1 ((w1.setCell ⟨g, 11, none⟩ (.int .u8 z)).setCell ⟨g, 14, none⟩ (.int .u8 z)) (· = g) := ((Keep.refl w1 (· = g)).setg _ (fun _ => rfl) _).setg _ (fun _ => rfl) _
          have hk : ∀ i, i < w1.heap.size → q i → ¬ i = g := fun i _ hi e => hqg (e ▸ hi)
          exact .inr ⟨HRP.out, te3, ve3, { h with padn := z }, HHS.out, rfl, ⟨sv, xv, .slice none 0 0, z, (B1.out.set 11 (.int .u8 z)).set 14 (.int .u8 z), R1.out.keep k2 hk, X1.out.keep k2 hk, Rd.nil_ _ _ _⟩, K1.out.trans k2 fun _ _ e => e⟩
        · have hlt' : ¬ (n : Int) - z < (m : Int) := by omega
          have hrp : readP bs = .good { h with padn := z } ((bs.drop m).take (n - m - z.toNat)) := by unfold readP; rw [HG.out]; simp [HPAD.out, HL.out, hnle, ← HZ.out, hz0, hlt]
          have hlen : ((bs.drop m).take (n - m - z.toNat)).length = n - z.toNat - m := by rw [List.length_take, List.length_drop, HL.out]; omega
          have HRP := hide hrp
          have HLEN := hide hlen
          have hcm : ¬ c = m := by omega
          have hzn : ((n : Int) - z).toNat = n - z.toNat := by omega
          have hzc : (n : Int) - z ≤ (c : Int) := by omega
          have hzm : (m : Int) ≤ (n : Int) - z := by omega
          have e0 : { h with padn := 0 } = h := by have := HP0.out; cases h; simp at this; subst this; rfl
          have HE0 := hide e0
          clear hrp hlen hzi e0
          go_wp2_with fail
          (try go_ret)
          have r3 := RB.out.sub m (n - z.toNat) (by omega) (by omega) (some ⟨b, o + m, none⟩) (fun _ => rfl) (by simp)
          have et : n - z.toNat - m = n - m - z.toNat := by omega
          have hu := up_store (z := z) (h := h) (pay := (bs.drop m).take (n - m - z.toNat)) (pv := .slice (some ⟨b, o + m, none⟩) (n - z.toNat - m) (c - m)) (by rw [HE0.out]; exact B1.out) R1.out X1.out (by rw [HLEN.out, ← et]; exact r3.mono (fun i _ hi => HPQ.out i hi)) hqg
          exact .inl ⟨_, _, HRP.out, HHS.out, rfl, hu, keep3 K1.out _ _ _⟩
  · obtain ⟨sv, xv, hBL, r1, r2⟩ := hu
    have B1 := hide hBL
    have R1 := hide r1
    have X1 := hide r2
    have K1 := hide hk
    have HB := hide hb
    have H1 := hide h1
    have H2 := hide h2
    clear hBL r1 r2 hk hb h1 h2
    go_wp2_with fail
    (try go_ret)
    refine .inr ⟨by unfold readP; rw [HB.out], te, ve, hd, ⟨by have := H1.out; omega, by rw [H2.out]; simp, fun x hx => by rw [H2.out] at hx; cases hx⟩, rfl, ⟨sv, xv, .slice none 0 0, 0, B1.out, R1.out, X1.out, Rd.nil_ _ _ _⟩, K1.out⟩
end Go.Proofs.YtdmnflngafbobaaDoor
