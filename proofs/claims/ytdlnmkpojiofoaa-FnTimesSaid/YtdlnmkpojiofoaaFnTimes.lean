/-
  The law FnTimes returns true for every int64 and leaves its argument as it was. Conditions: none.
  The frame around the walk was written by the kit's program proof-skeleton.mjs.
-/
import Derived.Test.YtdlnmkpojiofoaaRows
import Derived.WalkKit
import Derived.ProofKit
import Derived.OpenShut
import Derived.Test.YtdlnmkpojiofoaaTimes
namespace Go.Proofs.Ytdlnmkpojiofoaa.fnTimes
open Go.ChangeShapes Go.WideShapes Go.ChangeAt Go.RowKit
set_option linter.unusedVariables false      -- a walk need not use every 'w<i>' (that an integer argument fits its kind)

theorem own : ownKnob Try.prog.godebug = none := by kernel_rfl

/-! ### STEP 1: THE WALK: the Go text returns true. 'Grown w w'': the world has at most new blocks (Derived/RowKit3.lean). Part the cases AHEAD of 'go_enter' where a test parts the walk; take each callee by a contract of your own. -/
theorem walk (a0 : Int) (w0 : (Lit.int .i64 a0).wf = true) (w : World) :
    Calls Try.prog 3 #[.int .i64 a0] w fun e w' => e = .returned (.bool true) ∧ Grown w w' := by
  have hx : -9223372036854775808 ≤ a0 ∧ a0 ≤ 9223372036854775807 := by simpa [Lit.wf, IntKind.min, IntKind.max, IntKind.signed, IntKind.bits] using w0
  clear w0
  by_cases c1 : a0 < 0
  · go_enter Try.func3, Try.ntmps3
    go_wp2_with fail
    go_ret
    exact ⟨rfl, Grown.refl _⟩
  by_cases c2 : 2085978496000000000 ≤ a0
  · go_enter Try.func3, Try.ntmps3
    go_wp2_with fail
    go_ret
    exact ⟨rfl, Grown.refl _⟩
  have h0 : 0 ≤ a0 := by omega
  have h1 : a0 < 2085978496000000000 := by omega
  have b := nt_bd a0 h0 h1
  have n := back_near a0
  obtain ⟨n1, n2, n3⟩ := n
  have q1 : 0 ≤ nt a0 / 16384 := by omega
  have q2 : nt a0 / 16384 < 18446744073709551616 := by omega
  have q3 : 0 ≤ nt a0 := by omega
  have m : bits .and .u64 (nt a0 / 16384) 16777215 = nt a0 / 16384 % 16777216 := by rw [show (16777215 : Int) = ((16777215 : Nat) : Int) from rfl, and_low 24 _ 16777215 q1 q2 (by decide) (by decide)]; rfl
  have N3 : Hid (nt a0 / 4294967296 = a0 / 1000000000 + 2208988800) := n3
  have e3 : (nt a0 / 4294967296 == a0 / 1000000000 + 2208988800) = true := by rw [N3.out]; simp
  have n1' : tt (nt a0) - a0 ≤ 1 := n1
  clear n3 c1 c2
  go_enter Try.func3, Try.ntmps3
  go_wp2_with (first | (go_at_call 7; refine (send_time_of a0 h0 h1 _).mono ?_; rintro e w' ⟨rfl, hg⟩) | (go_at_call 13; refine (to_ntp a0 h0 h1 _).mono ?_; rintro e w' ⟨rfl, rfl⟩) | (go_at_call 14; refine (to_time _ (by omega) (by omega) _).mono ?_; rintro e w' ⟨rfl, rfl⟩) | go_in)
  go_ret
  exact ⟨rfl, hg⟩

/-! ### THE ROW's STEP: WRITTEN OUT: LEAVE IT -/
set_option maxRecDepth 100000 in
theorem lifted (os : Os) (started : os.Started) (H : Type) (enc : TypeId × Value → H) :
    ReturnsInHanded {} Try.checked os 3 .any (Rows.fnTimesSpec.pre6 enc Try.prog Try.f3 Rows.fnTimesRow.domain false) (Rows.fnTimesSpec.post enc Try.prog Try.f3 false true false false) := by
  refine returnsInHanded_of_change (C := Try.checked) own started (by kernel_rfl) Try.func3
    (ChangeSpec.witness6 (enc := enc) (C := Try.checked) false ⟨#[], #[.int .i64 0], []⟩ 8 (by kernel_rfl) (by kernel_rfl) (by kernel_rfl) (by kernel_rfl)) ?_
  intro W base args ds gs before hval0 hW hcnd _
  have hval : ∀ (j : Nat) t v, Try.f3.params[j]? = some t → args[j]? = some v → Value.okWide Try.prog W .any base t v := hval0
  have hW' := hW
  obtain ⟨p, q, hA0, hV, rfl, hfz, hnd⟩ := hW
  have hA : DataW.TrodAll enc Try.prog W 0 (fun _ => true) true Try.f3.params.toList args.toList ds p := hA0
  rw [Try.params3] at hA hval
  obtain ⟨v0, vs0, d0, ds0, p0, q0, hargs, rfl, rfl, h0, r0⟩ := trodAll_cons hA
  obtain ⟨rfl, rfl, rfl⟩ := trodAll_nil r0
  obtain rfl : args = #[v0] := by cases args; simp_all
  obtain ⟨rfl, rfl⟩ := trodVars_none hV
  obtain ⟨a0, rfl, rfl, rfl, w0⟩ := open_int Try.underlying2 (hval 0 2 v0 rfl rfl) h0
  clear hA0 hval0
  simp only [List.append_nil] at hW'
  refine (walk a0 w0 W).mono fun e W' ⟨he, hg⟩ => ?_
  subst he
  exact ⟨_, rfl, post_of_same (pa := []) (pv := []) hW' (fun _ _ _ => (trodAll_cons_mk (shut_bool Try.underlying4 _) trodAll_mk0)) (fun sp _ => (trodAll_cons_mk (shut_int Try.underlying2 w0) trodAll_mk0)) (fun _ _ => rfl) rfl
    (hg.frame _) hg.2.1 (ok_one (by kernel_rfl) rfl (okWide_bool_mk Try.underlying4 _))⟩

theorem over : Rows.fnTimesRow.holds Try.pinned (OpenSpec.ofChange Rows.fnTimesSpec) :=
  OpenClaim.holds_of_wide 3 Try.f3 rfl rfl rfl rfl rfl rfl rfl ⟨rfl, rfl, rfl, rfl, rfl⟩ rfl rfl rfl rfl rfl (by kernel_rfl) Try.func3 (by kernel_rfl)
    (of_decide_eq_true (by kernel_rfl)) (by unfold Func.isWrapper; first | (rw [if_pos (by decide +kernel)]; kernel_rfl) | (rw [if_neg (by decide +kernel)]; exact ⟨rfl, rfl⟩))
    (fun os started H enc _ => lifted os started H enc)

/-- ████ THE STATEMENT ████ -/
theorem proved : Rows.FnTimesSaid :=
  over
#print axioms proved
end Go.Proofs.Ytdlnmkpojiofoaa.fnTimes
