/-
  legal: the bytes of a header that the laws look at. Conditions: those that stand in each theorem.
-/
import Derived.Test.YtdmnflngafbobaaDoorFmt
namespace Go.Proofs.YtdmnflngafbobaaDoor
open Go.RowKit
set_option linter.unusedVariables false
set_option linter.unusedSimpArgs false
set_option maxRecDepth 20000

def legalB (h : Hd) : Option (List Int) := match fmtB h with
  | some bs => if bs.length ≤ 131072 then some bs else none
  | none => none

theorem legal_walk {p : Nat → Prop} {v : Value} {hd : Hd} (w : World) (hh : HV w p v hd) (hok : hd.Ok) (hn : hd.exts.length ≤ 2147483647) :
    Calls Tryd.prog 18 #[v] w fun e w' => Keep w w' Nul ∧ ∃ A n c, e = .returned (.tuple #[.slice A n c, .bool (legalB hd).isSome]) ∧ ∀ bs, legalB hd = some bs → Own w' w.heap.size 5 1 (.slice A n c) bs.length (B8 bs) := by
  have kx := (Keep.refl w Nul).alloc (.cells v.cells 27)
  have hF := hide (fmt_walk _ (hh.keep0 kx) hok hn)
  have HK := hide kx
  obtain ⟨sv, xv, rfl, h1, h2⟩ := hh
  clear h1 h2 kx
  unfold hcells at *
  go_enter Tryd.func18, Tryd.ntmps18
  go_wp2_with fail
  refine (hF.out).mono ?_
  rintro e w1 ⟨k1, A, n, c, rfl, hbs⟩
  have HK1 := hide (HK.out.trans0 k1)
  have hl : ∀ bs, fmtB hd = some bs → n = bs.length := fun bs hb => by
    obtain ⟨_, _, _, e, _⟩ := (hbs bs hb).rd
    injection e
  cases hf : fmtB hd with
  | none =>
    have e0 : legalB hd = none := by simp [legalB, hf]
    have HE := hide e0
    clear hbs hl k1 hf e0
    go_wp2_with fail
    go_ret2
    exact ⟨HK1.out, A, n, c, by rw [HE.out]; rfl, fun bs hb => by rw [HE.out] at hb; cases hb⟩
  | some bs =>
    obtain rfl := hl bs hf
    have ho := hbs bs hf
    by_cases hz : bs.length ≤ 131072
    · have e0 : legalB hd = some bs := by simp [legalB, hf, hz]
      have HE := hide e0
      have HO := hide (ho.low (B' := w.heap.size) HK.out.size)
      have hz' : (bs.length : Int) ≤ 131072 := by omega
      clear hbs hl k1 hf e0 ho
      go_wp2_with fail
      go_ret2
      exact ⟨HK1.out, A, bs.length, c, by rw [HE.out]; simp [hz, hz'], fun bs' hb => by rw [HE.out] at hb; cases hb; exact HO.out⟩
    · have e0 : legalB hd = none := by simp [legalB, hf, hz]
      have HE := hide e0
      have hz' : ¬ (bs.length : Int) ≤ 131072 := by omega
      clear hbs hl k1 hf e0 ho
      go_wp2_with fail
      go_ret2
      exact ⟨HK1.out, A, bs.length, c, by rw [HE.out]; simp [hz, hz'], fun bs' hb => by rw [HE.out] at hb; cases hb⟩
end Go.Proofs.YtdmnflngafbobaaDoor
