/-
  The law FnSteps returns true for every input and leaves its arguments as they were: the tied card. Conditions: those of its row (the listed package-level errors read as the program's text lays them).
-/
import Derived.Test.YtdmnflngafbobaaDoorCards
import Derived.Test.YtdmnflngafbobaaDoorTie
import Derived.Test.YtdmnflngafbobaaDoorLaid
import Derived.Test.YtdmnflngafbobaaDoorFnSteps
import Derived.Test.YtdmnflngafbobaaDoorArg
namespace Go.Proofs.YtdmnflngafbobaaDoor.fnSteps
open Go.ChangeShapes Go.WideShapes Go.ChangeAt Go.RowKit
set_option linter.unusedVariables false
set_option maxRecDepth 100000

theorem g0 : Tryd.prog.globalNamed "io.ErrShortBuffer" = some 4 := by kernel_rfl
theorem t0 : (Tryd.prog.globals[4]?).map (·.type) = some 97 := by kernel_rfl
theorem g1 : Tryd.prog.globalNamed "rtppackets/pub/rtp.errHeaderSizeInsufficient" = some 2 := by kernel_rfl
theorem t1 : (Tryd.prog.globals[2]?).map (·.type) = some 97 := by kernel_rfl
theorem g2 : Tryd.prog.globalNamed "rtppackets/pub/rtp.errHeaderSizeInsufficientForExtension" = some 3 := by kernel_rfl
theorem t2 : (Tryd.prog.globals[3]?).map (·.type) = some 97 := by kernel_rfl
theorem g3 : Tryd.prog.globalNamed "rtppackets/pub/rtp.errTooSmall" = some 0 := by kernel_rfl
theorem t3 : (Tryd.prog.globals[0]?).map (·.type) = some 97 := by kernel_rfl
theorem g4 : Tryd.prog.globalNamed "rtppackets/pub/rtp.errHeaderExtensionsNotEnabled" = some 10 := by kernel_rfl
theorem t4 : (Tryd.prog.globals[10]?).map (·.type) = some 97 := by kernel_rfl
theorem g5 : Tryd.prog.globalNamed "rtppackets/pub/rtp.errHeaderExtensionNotFound" = some 11 := by kernel_rfl
theorem t5 : (Tryd.prog.globals[11]?).map (·.type) = some 97 := by kernel_rfl
theorem g6 : Tryd.prog.globalNamed "rtppackets/pub/rtp.errRFC8285OneByteHeaderIDRange" = some 5 := by kernel_rfl
theorem t6 : (Tryd.prog.globals[5]?).map (·.type) = some 97 := by kernel_rfl
theorem g7 : Tryd.prog.globalNamed "rtppackets/pub/rtp.errRFC8285OneByteHeaderSize" = some 6 := by kernel_rfl
theorem t7 : (Tryd.prog.globals[6]?).map (·.type) = some 97 := by kernel_rfl
theorem g8 : Tryd.prog.globalNamed "rtppackets/pub/rtp.errRFC8285TwoByteHeaderIDRange" = some 7 := by kernel_rfl
theorem t8 : (Tryd.prog.globals[7]?).map (·.type) = some 97 := by kernel_rfl
theorem g9 : Tryd.prog.globalNamed "rtppackets/pub/rtp.errRFC8285TwoByteHeaderSize" = some 8 := by kernel_rfl
theorem t9 : (Tryd.prog.globals[8]?).map (·.type) = some 97 := by kernel_rfl
theorem g10 : Tryd.prog.globalNamed "rtppackets/pub/rtp.errRFC3550HeaderIDRange" = some 9 := by kernel_rfl
theorem t10 : (Tryd.prog.globals[9]?).map (·.type) = some 97 := by kernel_rfl
theorem g11 : Tryd.prog.globalNamed "rtppackets/pub/rtp.errInvalidRTPPadding" = some 1 := by kernel_rfl
theorem t11 : (Tryd.prog.globals[1]?).map (·.type) = some 97 := by kernel_rfl

theorem contract (H : Type) (enc : TypeId × Value → H) (W : World) (base : Nat) (args : Array Value) (ds gs : List (DataW H)) (before : List MemPlace)
    (hval0 : ∀ (j : Nat) t v, Tryd.f12.params[j]? = some t → args[j]? = some v → Value.okWide Tryd.prog W .any base t v)
    (hW : DataW.Whole enc Tryd.prog Tryd.f12.params.toList Rows.fnStepsSpec.vars false W args.toList ds gs before) (hL : laidMetH Tryd.prog Rows.fnStepsRow.laid W) :
    Calls Tryd.prog 12 args W fun e W' => ∃ v, e = .returned v ∧ Rows.fnStepsSpec.post enc Tryd.prog Tryd.f12 false true false false W args v W' := by
  have hval : ∀ (j : Nat) t v, Tryd.f12.params[j]? = some t → args[j]? = some v → Value.okWide Tryd.prog W .any base t v := hval0
  have hW' := hW
  obtain ⟨p, q, hA0, hV, rfl, hfz, hnd⟩ := hW
  have hA : DataW.TrodAll enc Tryd.prog W 0 (fun _ => true) true Tryd.f12.params.toList args.toList ds p := hA0
  rw [Tryd.params12] at hA hval
  obtain ⟨v0, vs0, d0, ds0, p0, q0, hargs, rfl, rfl, h0, r0⟩ := trodAll_cons hA
  obtain ⟨v1, vs1, d1, ds1, p1, q1, rfl, rfl, rfl, h1, r1⟩ := trodAll_cons r0
  obtain ⟨rfl, rfl, rfl⟩ := trodAll_nil r1
  obtain rfl : args = #[v0, v1] := by cases args; simp_all
  obtain ⟨rfl, rfl⟩ := trodVars_none hV
  have k0 := h0
  have lt0 : ∀ x ∈ p0, x.block < W.heap.size := by obtain ⟨m, hm⟩ := k0; exact DataW.trod_lt m _ _ _ hm
  have k1 := h1
  have lt1 : ∀ x ∈ p1, x.block < W.heap.size := by obtain ⟨m, hm⟩ := k1; exact DataW.trod_lt m _ _ _ hm
  obtain ⟨hd0, hh0, hok0⟩ := arg_header (hval 0 27 v0 rfl rfl) h0
  obtain ⟨ss1, hsr1, hso1⟩ := arg_steps (hval 1 68 v1 rfl rfl) h1
  obtain ⟨te0, ve0, he0⟩ := laid_at hL (by rfl) (name := "io.ErrShortBuffer") (List.mem_of_getElem? (i := 0) rfl) g0 t0 Tryd.underlying97
  obtain ⟨te1, ve1, he1⟩ := laid_at hL (by rfl) (name := "rtppackets/pub/rtp.errHeaderSizeInsufficient") (List.mem_of_getElem? (i := 1) rfl) g1 t1 Tryd.underlying97
  obtain ⟨te2, ve2, he2⟩ := laid_at hL (by rfl) (name := "rtppackets/pub/rtp.errHeaderSizeInsufficientForExtension") (List.mem_of_getElem? (i := 2) rfl) g2 t2 Tryd.underlying97
  obtain ⟨te3, ve3, he3⟩ := laid_at hL (by rfl) (name := "rtppackets/pub/rtp.errTooSmall") (List.mem_of_getElem? (i := 3) rfl) g3 t3 Tryd.underlying97
  obtain ⟨te4, ve4, he4⟩ := laid_at hL (by rfl) (name := "rtppackets/pub/rtp.errHeaderExtensionsNotEnabled") (List.mem_of_getElem? (i := 4) rfl) g4 t4 Tryd.underlying97
  obtain ⟨te5, ve5, he5⟩ := laid_at hL (by rfl) (name := "rtppackets/pub/rtp.errHeaderExtensionNotFound") (List.mem_of_getElem? (i := 5) rfl) g5 t5 Tryd.underlying97
  obtain ⟨te6, ve6, he6⟩ := laid_at hL (by rfl) (name := "rtppackets/pub/rtp.errRFC8285OneByteHeaderIDRange") (List.mem_of_getElem? (i := 6) rfl) g6 t6 Tryd.underlying97
  obtain ⟨te7, ve7, he7⟩ := laid_at hL (by rfl) (name := "rtppackets/pub/rtp.errRFC8285OneByteHeaderSize") (List.mem_of_getElem? (i := 7) rfl) g7 t7 Tryd.underlying97
  obtain ⟨te8, ve8, he8⟩ := laid_at hL (by rfl) (name := "rtppackets/pub/rtp.errRFC8285TwoByteHeaderIDRange") (List.mem_of_getElem? (i := 8) rfl) g8 t8 Tryd.underlying97
  obtain ⟨te9, ve9, he9⟩ := laid_at hL (by rfl) (name := "rtppackets/pub/rtp.errRFC8285TwoByteHeaderSize") (List.mem_of_getElem? (i := 9) rfl) g9 t9 Tryd.underlying97
  obtain ⟨te10, ve10, he10⟩ := laid_at hL (by rfl) (name := "rtppackets/pub/rtp.errRFC3550HeaderIDRange") (List.mem_of_getElem? (i := 10) rfl) g10 t10 Tryd.underlying97
  obtain ⟨te11, ve11, he11⟩ := laid_at hL (by rfl) (name := "rtppackets/pub/rtp.errInvalidRTPPadding") (List.mem_of_getElem? (i := 11) rfl) g11 t11 Tryd.underlying97
  clear hA0 hval0
  refine (fst_law W hh0 hok0 hsr1 hso1 ⟨⟨_, _, he1⟩, ⟨_, _, he2⟩, ⟨_, _, he3⟩, ⟨_, _, he11⟩⟩ ⟨⟨_, _, he6⟩, ⟨_, _, he7⟩, ⟨_, _, he8⟩, ⟨_, _, he9⟩, ⟨_, _, he10⟩⟩ ⟨⟨_, _, he4⟩, ⟨_, _, he5⟩⟩).mono fun e W' ⟨he, bel⟩ => ?_
  subst he
  exact ⟨_, rfl, _, _, _, [], _, [], hW', trodAll_mk1 (shut_bool Tryd.underlying4 _), (trodAll_cons_mk (Below.trod laid_out (by kernel_rfl) (of_decide_eq_true (by kernel_rfl)) k0 bel lt0) (trodAll_cons_mk (Below.trod laid_out (by kernel_rfl) (of_decide_eq_true (by kernel_rfl)) k1 bel lt1) trodAll_mk0)), rfl, bel.frame _, fun h => by cases h⟩

noncomputable def low : Nat := (World.holding Tryd.prog default ⟨#[], #[], []⟩).heap.size
/-- A world for the witness: the listed errors hold what their initialisers lay. -/
noncomputable def laidWorld (os : Os) : World :=
  let w0 := World.holding Tryd.prog os ⟨#[.cells #[.string { data := #[115, 104, 111, 114, 116, 32, 98, 117, 102, 102, 101, 114] }] 175, .cells #[.string { data := #[82, 84, 80, 32, 104, 101, 97, 100, 101, 114, 32, 115, 105, 122, 101, 32, 105, 110, 115, 117, 102, 102, 105, 99, 105, 101, 110, 116] }] 175, .cells #[.string { data := #[82, 84, 80, 32, 104, 101, 97, 100, 101, 114, 32, 115, 105, 122, 101, 32, 105, 110, 115, 117, 102, 102, 105, 99, 105, 101, 110, 116, 32, 102, 111, 114, 32, 101, 120, 116, 101, 110, 115, 105, 111, 110] }] 175, .cells #[.string { data := #[98, 117, 102, 102, 101, 114, 32, 116, 111, 111, 32, 115, 109, 97, 108, 108] }] 175, .cells #[.string { data := #[104, 46, 69, 120, 116, 101, 110, 115, 105, 111, 110, 32, 110, 111, 116, 32, 101, 110, 97, 98, 108, 101, 100] }] 175, .cells #[.string { data := #[101, 120, 116, 101, 110, 115, 105, 111, 110, 32, 110, 111, 116, 32, 102, 111, 117, 110, 100] }] 175, .cells #[.string { data := #[104, 101, 97, 100, 101, 114, 32, 101, 120, 116, 101, 110, 115, 105, 111, 110, 32, 105, 100, 32, 109, 117, 115, 116, 32, 98, 101, 32, 98, 101, 116, 119, 101, 101, 110, 32, 49, 32, 97, 110, 100, 32, 49, 52, 32, 102, 111, 114, 32, 82, 70, 67, 32, 53, 50, 56, 53, 32, 111, 110, 101, 32, 98, 121, 116, 101, 32, 101, 120, 116, 101, 110, 115, 105, 111, 110, 115] }] 175, .cells #[.string { data := #[104, 101, 97, 100, 101, 114, 32, 101, 120, 116, 101, 110, 115, 105, 111, 110, 32, 112, 97, 121, 108, 111, 97, 100, 32, 109, 117, 115, 116, 32, 98, 101, 32, 49, 54, 98, 121, 116, 101, 115, 32, 111, 114, 32, 108, 101, 115, 115, 32, 102, 111, 114, 32, 82, 70, 67, 32, 53, 50, 56, 53, 32, 111, 110, 101, 32, 98, 121, 116, 101, 32, 101, 120, 116, 101, 110, 115, 105, 111, 110, 115] }] 175, .cells #[.string { data := #[104, 101, 97, 100, 101, 114, 32, 101, 120, 116, 101, 110, 115, 105, 111, 110, 32, 105, 100, 32, 109, 117, 115, 116, 32, 98, 101, 32, 98, 101, 116, 119, 101, 101, 110, 32, 49, 32, 97, 110, 100, 32, 50, 53, 53, 32, 102, 111, 114, 32, 82, 70, 67, 32, 53, 50, 56, 53, 32, 116, 119, 111, 32, 98, 121, 116, 101, 32, 101, 120, 116, 101, 110, 115, 105, 111, 110, 115] }] 175, .cells #[.string { data := #[104, 101, 97, 100, 101, 114, 32, 101, 120, 116, 101, 110, 115, 105, 111, 110, 32, 112, 97, 121, 108, 111, 97, 100, 32, 109, 117, 115, 116, 32, 98, 101, 32, 50, 53, 53, 98, 121, 116, 101, 115, 32, 111, 114, 32, 108, 101, 115, 115, 32, 102, 111, 114, 32, 82, 70, 67, 32, 53, 50, 56, 53, 32, 116, 119, 111, 32, 98, 121, 116, 101, 32, 101, 120, 116, 101, 110, 115, 105, 111, 110, 115] }] 175, .cells #[.string { data := #[104, 101, 97, 100, 101, 114, 32, 101, 120, 116, 101, 110, 115, 105, 111, 110, 32, 105, 100, 32, 109, 117, 115, 116, 32, 98, 101, 32, 48, 32, 102, 111, 114, 32, 110, 111, 110, 45, 82, 70, 67, 32, 53, 50, 56, 53, 32, 101, 120, 116, 101, 110, 115, 105, 111, 110, 115] }] 175, .cells #[.string { data := #[105, 110, 118, 97, 108, 105, 100, 32, 82, 84, 80, 32, 112, 97, 100, 100, 105, 110, 103] }] 175], #[], []⟩
  { w0 with heap := ((((((((((((w0.heap.modify 4 fun
      | .cells _ t frozen => .cells #[.iface 158 (.pointer (some ⟨low + 0, 0, none⟩))] t frozen
      | o => o).modify 2 fun
      | .cells _ t frozen => .cells #[.iface 158 (.pointer (some ⟨low + 1, 0, none⟩))] t frozen
      | o => o).modify 3 fun
      | .cells _ t frozen => .cells #[.iface 158 (.pointer (some ⟨low + 2, 0, none⟩))] t frozen
      | o => o).modify 0 fun
      | .cells _ t frozen => .cells #[.iface 158 (.pointer (some ⟨low + 3, 0, none⟩))] t frozen
      | o => o).modify 10 fun
      | .cells _ t frozen => .cells #[.iface 158 (.pointer (some ⟨low + 4, 0, none⟩))] t frozen
      | o => o).modify 11 fun
      | .cells _ t frozen => .cells #[.iface 158 (.pointer (some ⟨low + 5, 0, none⟩))] t frozen
      | o => o).modify 5 fun
      | .cells _ t frozen => .cells #[.iface 158 (.pointer (some ⟨low + 6, 0, none⟩))] t frozen
      | o => o).modify 6 fun
      | .cells _ t frozen => .cells #[.iface 158 (.pointer (some ⟨low + 7, 0, none⟩))] t frozen
      | o => o).modify 7 fun
      | .cells _ t frozen => .cells #[.iface 158 (.pointer (some ⟨low + 8, 0, none⟩))] t frozen
      | o => o).modify 8 fun
      | .cells _ t frozen => .cells #[.iface 158 (.pointer (some ⟨low + 9, 0, none⟩))] t frozen
      | o => o).modify 9 fun
      | .cells _ t frozen => .cells #[.iface 158 (.pointer (some ⟨low + 10, 0, none⟩))] t frozen
      | o => o).modify 1 fun
      | .cells _ t frozen => .cells #[.iface 158 (.pointer (some ⟨low + 11, 0, none⟩))] t frozen
      | o => o) }
theorem laid_met (os : Os) : laidMet Tryd.prog Rows.fnStepsRow.laid ((laidWorld os).forCall (fun _ _ => 0) ⟨#[], #[.agg #[.int .u8 0, .bool false, .bool false, .bool false, .int .u8 0, .int .u16 0, .int .u32 0, .int .u32 0, .slice none 0 0, .int .u16 0, .slice none 0 0, .int .u8 0], .slice none 0 0], []⟩).memory :=
  laidMet_of_run' 8 (by kernel_rfl) (by kernel_rfl)
theorem reads (os : Os) {H : Type} (enc : TypeId × Value → H) : ∃ places, DataW.whole enc Tryd.prog ((laidWorld os).forCall (fun _ _ => 0) ⟨#[], #[.agg #[.int .u8 0, .bool false, .bool false, .bool false, .int .u8 0, .int .u16 0, .int .u32 0, .int .u32 0, .slice none 0 0, .int .u16 0, .slice none 0 0, .int .u8 0], .slice none 0 0], []⟩).memory Tryd.f12.params.toList Rows.fnStepsSpec.vars false (#[.agg #[.int .u8 0, .bool false, .bool false, .bool false, .int .u8 0, .int .u16 0, .int .u32 0, .int .u32 0, .slice none 0 0, .int .u16 0, .slice none 0 0, .int .u8 0], .slice none 0 0] : Array Value).toList 8 = some ([.agg [.lit (.int .u8 0), .lit (.bool false), .lit (.bool false), .lit (.bool false), .lit (.int .u8 0), .lit (.int .u16 0), .lit (.int .u32 0), .lit (.int .u32 0), .nil, .lit (.int .u16 0), .nil, .lit (.int .u8 0)], .nil], [], places) :=
  ⟨[], by kernel_rfl⟩

set_option maxRecDepth 100000 in
theorem lifted (os : Os) (started : os.Started) (H : Type) (enc : TypeId × Value → H) (F : Stop.Interp) :
    ReturnsInHanded {} Tryd.checked os 12 .any ((OpenSpec.ofChange Rows.fnStepsSpec).preRow enc Tryd.prog Tryd.f12 Rows.fnStepsRow.domain false Rows.fnStepsRow.laid) (((OpenSpec.ofChange Rows.fnStepsSpec).at F).post enc Tryd.prog Tryd.f12 false true false false) := by
  obtain ⟨places, hx⟩ := reads os enc
  refine returnsInHanded_of_row (C := Tryd.checked) (s := OpenSpec.ofChange Rows.fnStepsSpec) own_knob started (by kernel_rfl) Tryd.func12
    (witness_row_at (enc := enc) (C := Tryd.checked) false (laidWorld os) #[.agg #[.int .u8 0, .bool false, .bool false, .bool false, .int .u8 0, .int .u16 0, .int .u32 0, .int .u32 0, .slice none 0 0, .int .u16 0, .slice none 0 0, .int .u8 0], .slice none 0 0] rfl (by kernel_rfl) (by kernel_rfl) (by kernel_rfl)
      (OpenSpec.preRow_of_cond 8 hx (by kernel_rfl) (fun k hk => by cases hk) (by kernel_rfl) (laid_met os))) ?_
  intro W base args ds gs before hval hW _ _ _ hL _ _
  exact contract H enc W base args ds gs before hval hW hL

theorem said : Rows.FnStepsSaid :=
  OpenClaim.holds_of_cond 12 Tryd.f12 rfl rfl rfl rfl rfl rfl rfl ⟨rfl, rfl, rfl, rfl, rfl⟩ rfl rfl rfl rfl rfl (by kernel_rfl) Tryd.func12 (by kernel_rfl)
    (of_decide_eq_true (by kernel_rfl)) (by unfold Func.isWrapper; first | (rw [if_pos (by decide +kernel)]; kernel_rfl) | (rw [if_neg (by decide +kernel)]; exact ⟨rfl, rfl⟩))
    (fun os started H enc _ F => by rw [OpenClaim.pre_eq_preRow]; exact lifted os started H enc F)

theorem plain (f : FuncId) (fn : Func) (hf : Tryd.pinned.checked.prog.funcNamed "rtppackets/laws.FnSteps" = some f) (hfn : Tryd.pinned.checked.prog.funcs[f]? = some fn) :
    false = Tryd.pinned.checked.prog.looks [] ∧ ∀ (j : Nat) t, fn.params[j]? = some t → Tryd.pinned.checked.prog.wantsStandIn t = false := by
  obtain rfl : f = 12 := Option.some.inj ((show Tryd.prog.funcNamed "rtppackets/laws.FnSteps" = some 12 by kernel_rfl).symm.trans hf) |>.symm
  obtain rfl : fn = Tryd.f12 := (Option.some.inj (Tryd.func12.symm.trans hfn)).symm
  refine ⟨by kernel_rfl, fun j t ht => ?_⟩
  rw [Tryd.params12] at ht
  have hm : t ∈ #[27, 68] := Array.mem_of_getElem? ht
  have hd : t = 27 ∨ t = 68 := by simpa using hm
  rcases hd with rfl | rfl
  · exact (show Tryd.prog.wantsStandIn 27 = false by kernel_rfl)
  · exact (show Tryd.prog.wantsStandIn 68 = false by kernel_rfl)

theorem card : Rows.FnStepsCardSaid :=
  Claim7.holds_tied_plain_at .later [] _ _ _ _ said (fun _ h => by cases h) (by kernel_rfl) (fun _ h => by cases h) fnSteps_row_tie rfl ⟨rfl, rfl⟩ (by kernel_rfl) rfl plain (by kernel_rfl)
end Go.Proofs.YtdmnflngafbobaaDoor.fnSteps
