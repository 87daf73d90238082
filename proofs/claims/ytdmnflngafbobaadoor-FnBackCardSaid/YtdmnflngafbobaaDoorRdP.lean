/-
  A packet that is written is read back. Conditions: those that stand in each theorem.
-/
import Derived.Test.YtdmnflngafbobaaDoorGOut
import Derived.Test.YtdmnflngafbobaaDoorGPk
namespace Go.Proofs.YtdmnflngafbobaaDoor
open Go.RowKit
set_option linter.unusedVariables false
set_option linter.unusedSimpArgs false

theorem g8_last (A : List Int) (z : Int) : g8 (A ++ [z]) ((A ++ [z]).length - 1) = z := by
  have := g8_app A [z] 0
  rw [show (A ++ [z]).length - 1 = A.length + 0 by simp, this]
  rfl

theorem readP_out {hd : Hd} (hg : Good hd) (hp : hd.pad = decide (0 < hd.padn)) (data : List Int) :
    readP (outP hd data) = .good { hd with prof := if hd.ext then hd.prof else 0 } data := by
  have hb := read_back hg (data ++ padB hd)
  rw [← List.append_assoc] at hb
  have h0 := hg.ok.padn
  unfold readP
  unfold outP at *
  rw [hb]
  simp only
  have hdr : (outB hd ++ data ++ padB hd).drop (outB hd).length = data ++ padB hd := by rw [List.append_assoc, List.drop_left]
  cases hpd : hd.pad with
  | false =>
    have hz : hd.padn = 0 := by
      rw [hpd] at hp
      have := of_decide_eq_false hp.symm
      omega
    have hp0 : padB hd = [] := by unfold padB; rw [hpd]; rfl
    rw [if_pos rfl, hdr, hp0, List.append_nil]
    congr 1
    obtain ⟨v, pad, ext, mark, ty, seq, time, ssrc, srcs, prof, exts, padn⟩ := hd
    simp only at hz hpd
    subst hz hpd
    rfl
  | true =>
    have hz : 0 < hd.padn := by
      rw [hpd] at hp
      exact of_decide_eq_true hp.symm
    have hp1 : padB hd = List.replicate (hd.padn.toNat - 1) 0 ++ [hd.padn] := by unfold padB; rw [hpd]; rfl
    have hpl : (padB hd).length = hd.padn.toNat := by rw [hp1]; simp; omega
    have hl : (outB hd ++ data ++ padB hd).length = (outB hd).length + data.length + hd.padn.toNat := by rw [List.length_append, List.length_append, hpl]
    have hlast : g8 (outB hd ++ data ++ padB hd) ((outB hd ++ data ++ padB hd).length - 1) = hd.padn := by
      rw [hp1, ← List.append_assoc]
      exact g8_last _ _
    rw [if_neg (by simp), hlast, if_neg (by omega), if_neg (by omega), if_neg (by omega), hdr]
    have e : (outB hd ++ data ++ padB hd).length - (outB hd).length - hd.padn.toNat = data.length := by omega
    rw [e, List.take_left]
end Go.Proofs.YtdmnflngafbobaaDoor
