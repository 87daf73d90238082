/-
  The law FnReadWrite returns true for every input and leaves its arguments as they were: the tied card. Conditions: those of its row (the listed package-level errors read as the program's text lays them).
-/
import Derived.Test.YtdmnflngafbobaaDoorCards
import Derived.Test.YtdmnflngafbobaaDoorTie
import Derived.Test.YtdmnflngafbobaaDoorLaid
import Derived.Test.YtdmnflngafbobaaDoorFnReadWrite
import Derived.Test.YtdmnflngafbobaaDoorArg
namespace Go.Proofs.YtdmnflngafbobaaDoor.fnReadWrite
open Go.ChangeShapes Go.WideShapes Go.ChangeAt Go.RowKit
set_option linter.unusedVariables false
set_option maxRecDepth 100000

theorem g0 : Tryd.prog.globalNamed "io.ErrShortBuffer" = some 4 := by kernel_rfl
theorem t0 : (Tryd.prog.globals[4]?).map (·.type) = some 97 := by kernel_rfl
theorem g1 : Tryd.prog.globalNamed "rtppackets/pub/rtp.errHeaderSizeInsufficient" = some 2 := by kernel_rfl
theorem t1 : (Tryd.prog.globals[2]?).map (·.type) = some 97 := by kernel_rfl
theorem g2 : Tryd.prog.globalNamed "rtppackets/pub/rtp.errHeaderSizeInsufficientForExtension" = some 3 := by kernel_rfl
theorem t2 : (Tryd.prog.globals[3]?).map (·.type) = some 97 := by kernel_rfl
theorem g3 : Tryd.prog.globalNamed "rtppackets/pub/rtp.errTooSmall" = some 0 := by kernel_rfl
theorem t3 : (Tryd.prog.globals[0]?).map (·.type) = some 97 := by kernel_rfl
theorem g4 : Tryd.prog.globalNamed "rtppackets/pub/rtp.errInvalidRTPPadding" = some 1 := by kernel_rfl
theorem t4 : (Tryd.prog.globals[1]?).map (·.type) = some 97 := by kernel_rfl

theorem contract (H : Type) (enc : TypeId × Value → H) (W : World) (base : Nat) (args : Array Value) (ds gs : List (DataW H)) (before : List MemPlace)
    (hval0 : ∀ (j : Nat) t v, Tryd.f7.params[j]? = some t → args[j]? = some v → Value.okWide Tryd.prog W .any base t v)
    (hW : DataW.Whole enc Tryd.prog Tryd.f7.params.toList Rows.fnReadWriteSpec.vars false W args.toList ds gs before) (hL : laidMetH Tryd.prog Rows.fnReadWriteRow.laid W) :
    Calls Tryd.prog 7 args W fun e W' => ∃ v, e = .returned v ∧ Rows.fnReadWriteSpec.post enc Tryd.prog Tryd.f7 false true false false W args v W' := by
  have hval : ∀ (j : Nat) t v, Tryd.f7.params[j]? = some t → args[j]? = some v → Value.okWide Tryd.prog W .any base t v := hval0
  have hW' := hW
  obtain ⟨p, q, hA0, hV, rfl, hfz, hnd⟩ := hW
  have hA : DataW.TrodAll enc Tryd.prog W 0 (fun _ => true) true Tryd.f7.params.toList args.toList ds p := hA0
  rw [Tryd.params7] at hA hval
  obtain ⟨v0, vs0, d0, ds0, p0, q0, hargs, rfl, rfl, h0, r0⟩ := trodAll_cons hA
  obtain ⟨rfl, rfl, rfl⟩ := trodAll_nil r0
  obtain rfl : args = #[v0] := by cases args; simp_all
  obtain ⟨rfl, rfl⟩ := trodVars_none hV
  have k0 := h0
  have lt0 : ∀ x ∈ p0, x.block < W.heap.size := by obtain ⟨m, hm⟩ := k0; exact DataW.trod_lt m _ _ _ hm
  obtain ⟨n0, z0, rd0, len0, wz0⟩ := arg_ints Tryd.underlying29 Tryd.underlying5 (by kernel_rfl) (hval 0 29 v0 rfl rfl) h0
  have ib0 : IsB z0 := isB_of_wf wz0
  obtain ⟨te0, ve0, he0⟩ := laid_at hL (by rfl) (name := "io.ErrShortBuffer") (List.mem_of_getElem? (i := 0) rfl) g0 t0 Tryd.underlying97
  obtain ⟨te1, ve1, he1⟩ := laid_at hL (by rfl) (name := "rtppackets/pub/rtp.errHeaderSizeInsufficient") (List.mem_of_getElem? (i := 1) rfl) g1 t1 Tryd.underlying97
  obtain ⟨te2, ve2, he2⟩ := laid_at hL (by rfl) (name := "rtppackets/pub/rtp.errHeaderSizeInsufficientForExtension") (List.mem_of_getElem? (i := 2) rfl) g2 t2 Tryd.underlying97
  obtain ⟨te3, ve3, he3⟩ := laid_at hL (by rfl) (name := "rtppackets/pub/rtp.errTooSmall") (List.mem_of_getElem? (i := 3) rfl) g3 t3 Tryd.underlying97
  obtain ⟨te4, ve4, he4⟩ := laid_at hL (by rfl) (name := "rtppackets/pub/rtp.errInvalidRTPPadding") (List.mem_of_getElem? (i := 4) rfl) g4 t4 Tryd.underlying97
  clear hA0 hval0
  refine (frw_law W rd0 ib0 ⟨⟨_, _, he1⟩, ⟨_, _, he2⟩, ⟨_, _, he3⟩, ⟨_, _, he4⟩⟩).mono fun e W' ⟨he, bel⟩ => ?_
  subst he
  exact ⟨_, rfl, _, _, _, [], _, [], hW', trodAll_mk1 (shut_bool Tryd.underlying4 _), (trodAll_cons_mk (Below.trod laid_out (by kernel_rfl) (of_decide_eq_true (by kernel_rfl)) k0 bel lt0) trodAll_mk0), rfl, bel.frame _, fun h => by cases h⟩

noncomputable def low : Nat := (World.holding Tryd.prog default ⟨#[], #[], []⟩).heap.size
/-- A world for the witness: the listed errors hold what their initialisers lay. -/
noncomputable def laidWorld (os : Os) : World :=
  let w0 := World.holding Tryd.prog os ⟨#[.cells #[.string { data := #[115, 104, 111, 114, 116, 32, 98, 117, 102, 102, 101, 114] }] 175, .cells #[.string { data := #[82, 84, 80, 32, 104, 101, 97, 100, 101, 114, 32, 115, 105, 122, 101, 32, 105, 110, 115, 117, 102, 102, 105, 99, 105, 101, 110, 116] }] 175, .cells #[.string { data := #[82, 84, 80, 32, 104, 101, 97, 100, 101, 114, 32, 115, 105, 122, 101, 32, 105, 110, 115, 117, 102, 102, 105, 99, 105, 101, 110, 116, 32, 102, 111, 114, 32, 101, 120, 116, 101, 110, 115, 105, 111, 110] }] 175, .cells #[.string { data := #[98, 117, 102, 102, 101, 114, 32, 116, 111, 111, 32, 115, 109, 97, 108, 108] }] 175, .cells #[.string { data := #[105, 110, 118, 97, 108, 105, 100, 32, 82, 84, 80, 32, 112, 97, 100, 100, 105, 110, 103] }] 175], #[], []⟩
  { w0 with heap := (((((w0.heap.modify 4 fun
      | .cells _ t frozen => .cells #[.iface 158 (.pointer (some ⟨low + 0, 0, none⟩))] t frozen
      | o => o).modify 2 fun
      | .cells _ t frozen => .cells #[.iface 158 (.pointer (some ⟨low + 1, 0, none⟩))] t frozen
      | o => o).modify 3 fun
      | .cells _ t frozen => .cells #[.iface 158 (.pointer (some ⟨low + 2, 0, none⟩))] t frozen
      | o => o).modify 0 fun
      | .cells _ t frozen => .cells #[.iface 158 (.pointer (some ⟨low + 3, 0, none⟩))] t frozen
      | o => o).modify 1 fun
      | .cells _ t frozen => .cells #[.iface 158 (.pointer (some ⟨low + 4, 0, none⟩))] t frozen
      | o => o) }
theorem laid_met (os : Os) : laidMet Tryd.prog Rows.fnReadWriteRow.laid ((laidWorld os).forCall (fun _ _ => 0) ⟨#[], #[.slice none 0 0], []⟩).memory :=
  laidMet_of_run' 8 (by kernel_rfl) (by kernel_rfl)
theorem reads (os : Os) {H : Type} (enc : TypeId × Value → H) : ∃ places, DataW.whole enc Tryd.prog ((laidWorld os).forCall (fun _ _ => 0) ⟨#[], #[.slice none 0 0], []⟩).memory Tryd.f7.params.toList Rows.fnReadWriteSpec.vars false (#[.slice none 0 0] : Array Value).toList 8 = some ([.nil], [], places) :=
  ⟨[], by kernel_rfl⟩

set_option maxRecDepth 100000 in
theorem lifted (os : Os) (started : os.Started) (H : Type) (enc : TypeId × Value → H) (F : Stop.Interp) :
    ReturnsInHanded {} Tryd.checked os 7 .any ((OpenSpec.ofChange Rows.fnReadWriteSpec).preRow enc Tryd.prog Tryd.f7 Rows.fnReadWriteRow.domain false Rows.fnReadWriteRow.laid) (((OpenSpec.ofChange Rows.fnReadWriteSpec).at F).post enc Tryd.prog Tryd.f7 false true false false) := by
  obtain ⟨places, hx⟩ := reads os enc
  refine returnsInHanded_of_row (C := Tryd.checked) (s := OpenSpec.ofChange Rows.fnReadWriteSpec) own_knob started (by kernel_rfl) Tryd.func7
    (witness_row_at (enc := enc) (C := Tryd.checked) false (laidWorld os) #[.slice none 0 0] rfl (by kernel_rfl) (by kernel_rfl) (by kernel_rfl)
      (OpenSpec.preRow_of_cond 8 hx (by kernel_rfl) (fun k hk => by cases hk) (by kernel_rfl) (laid_met os))) ?_
  intro W base args ds gs before hval hW _ _ _ hL _ _
  exact contract H enc W base args ds gs before hval hW hL

theorem said : Rows.FnReadWriteSaid :=
  OpenClaim.holds_of_cond 7 Tryd.f7 rfl rfl rfl rfl rfl rfl rfl ⟨rfl, rfl, rfl, rfl, rfl⟩ rfl rfl rfl rfl rfl (by kernel_rfl) Tryd.func7 (by kernel_rfl)
    (of_decide_eq_true (by kernel_rfl)) (by unfold Func.isWrapper; first | (rw [if_pos (by decide +kernel)]; kernel_rfl) | (rw [if_neg (by decide +kernel)]; exact ⟨rfl, rfl⟩))
    (fun os started H enc _ F => by rw [OpenClaim.pre_eq_preRow]; exact lifted os started H enc F)

theorem plain (f : FuncId) (fn : Func) (hf : Tryd.pinned.checked.prog.funcNamed "rtppackets/laws.FnReadWrite" = some f) (hfn : Tryd.pinned.checked.prog.funcs[f]? = some fn) :
    false = Tryd.pinned.checked.prog.looks [] ∧ ∀ (j : Nat) t, fn.params[j]? = some t → Tryd.pinned.checked.prog.wantsStandIn t = false := by
  obtain rfl : f = 7 := Option.some.inj ((show Tryd.prog.funcNamed "rtppackets/laws.FnReadWrite" = some 7 by kernel_rfl).symm.trans hf) |>.symm
  obtain rfl : fn = Tryd.f7 := (Option.some.inj (Tryd.func7.symm.trans hfn)).symm
  refine ⟨by kernel_rfl, fun j t ht => ?_⟩
  rw [Tryd.params7] at ht
  have hm : t ∈ #[29] := Array.mem_of_getElem? ht
  have hd : t = 29 := by simpa using hm
  subst hd
  exact (show Tryd.prog.wantsStandIn 29 = false by kernel_rfl)

theorem card : Rows.FnReadWriteCardSaid :=
  Claim7.holds_tied_plain_at .later [] _ _ _ _ said (fun _ h => by cases h) (by kernel_rfl) (fun _ h => by cases h) fnReadWrite_row_tie rfl ⟨rfl, rfl⟩ (by kernel_rfl) rfl plain (by kernel_rfl)
end Go.Proofs.YtdmnflngafbobaaDoor.fnReadWrite
