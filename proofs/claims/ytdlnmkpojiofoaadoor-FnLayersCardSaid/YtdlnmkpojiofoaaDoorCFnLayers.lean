/-
  The law FnLayers returns true for every input and leaves its arguments as they were: the tied card. Conditions: those of its row (the listed package-level errors read as the program's text lays them).
-/
import Derived.Test.YtdlnmkpojiofoaaDoorCards
import Derived.Test.YtdlnmkpojiofoaaDoorTie
import Derived.Test.YtdlnmkpojiofoaaDoorLaid
import Derived.Test.YtdlnmkpojiofoaaDoorFnLayers
namespace Go.Proofs.YtdlnmkpojiofoaaDoor.fnLayers
open Go.ChangeShapes Go.WideShapes Go.ChangeAt Go.RowKit
set_option linter.unusedVariables false
set_option maxRecDepth 100000

theorem g0 : Tryd.prog.globalNamed "rtppackets/pub/rtpobu.ErrFailedToReadLEB128" = some 2 := by kernel_rfl
theorem t0 : (Tryd.prog.globals[2]?).map (·.type) = some 58 := by kernel_rfl
theorem g1 : Tryd.prog.globalNamed "rtppackets/pub/rtp.ErrVLATooShort" = some 1 := by kernel_rfl
theorem t1 : (Tryd.prog.globals[1]?).map (·.type) = some 58 := by kernel_rfl

theorem contract (H : Type) (enc : TypeId × Value → H) (W : World) (base : Nat) (args : Array Value) (ds gs : List (DataW H)) (before : List MemPlace)
    (hval0 : ∀ (j : Nat) t v, Tryd.f6.params[j]? = some t → args[j]? = some v → Value.okWide Tryd.prog W .any base t v)
    (hW : DataW.Whole enc Tryd.prog Tryd.f6.params.toList Rows.fnLayersSpec.vars false W args.toList ds gs before) (hL : laidMetH Tryd.prog Rows.fnLayersRow.laid W) :
    Calls Tryd.prog 6 args W fun e W' => ∃ v, e = .returned v ∧ Rows.fnLayersSpec.post enc Tryd.prog Tryd.f6 false true false false W args v W' := by
  have hval : ∀ (j : Nat) t v, Tryd.f6.params[j]? = some t → args[j]? = some v → Value.okWide Tryd.prog W .any base t v := hval0
  have hW' := hW
  obtain ⟨p, q, hA0, hV, rfl, hfz, hnd⟩ := hW
  have hA : DataW.TrodAll enc Tryd.prog W 0 (fun _ => true) true Tryd.f6.params.toList args.toList ds p := hA0
  rw [Tryd.params6] at hA hval
  obtain ⟨v0, vs0, d0, ds0, p0, q0, hargs, rfl, rfl, h0, r0⟩ := trodAll_cons hA
  obtain ⟨v1, vs1, d1, ds1, p1, q1, rfl, rfl, rfl, h1, r1⟩ := trodAll_cons r0
  obtain ⟨v2, vs2, d2, ds2, p2, q2, rfl, rfl, rfl, h2, r2⟩ := trodAll_cons r1
  obtain ⟨v3, vs3, d3, ds3, p3, q3, rfl, rfl, rfl, h3, r3⟩ := trodAll_cons r2
  obtain ⟨v4, vs4, d4, ds4, p4, q4, rfl, rfl, rfl, h4, r4⟩ := trodAll_cons r3
  obtain ⟨rfl, rfl, rfl⟩ := trodAll_nil r4
  obtain rfl : args = #[v0, v1, v2, v3, v4] := by cases args; simp_all
  obtain ⟨rfl, rfl⟩ := trodVars_none hV
  have k0 := h0
  have lt0 : ∀ x ∈ p0, x.block < W.heap.size := by obtain ⟨m, hm⟩ := k0; exact DataW.trod_lt m _ _ _ hm
  have k1 := h1
  have lt1 : ∀ x ∈ p1, x.block < W.heap.size := by obtain ⟨m, hm⟩ := k1; exact DataW.trod_lt m _ _ _ hm
  have k2 := h2
  have lt2 : ∀ x ∈ p2, x.block < W.heap.size := by obtain ⟨m, hm⟩ := k2; exact DataW.trod_lt m _ _ _ hm
  have k3 := h3
  have lt3 : ∀ x ∈ p3, x.block < W.heap.size := by obtain ⟨m, hm⟩ := k3; exact DataW.trod_lt m _ _ _ hm
  have k4 := h4
  have lt4 : ∀ x ∈ p4, x.block < W.heap.size := by obtain ⟨m, hm⟩ := k4; exact DataW.trod_lt m _ _ _ hm
  obtain ⟨a0, rfl, rfl, rfl, w0⟩ := open_int Tryd.underlying3 (hval 0 3 v0 rfl rfl) h0
  obtain ⟨a1, rfl, rfl, rfl, w1⟩ := open_int Tryd.underlying3 (hval 1 3 v1 rfl rfl) h1
  obtain ⟨n2, z2, rd2, len2, wz2⟩ := arg_ints Tryd.underlying41 Tryd.underlying48 (by kernel_rfl) (hval 2 41 v2 rfl rfl) h2
  have ib2 : ∀ d ∈ z2, 0 ≤ d ∧ d < 4294967296 := fun d hd => by have h : 0 ≤ d ∧ d ≤ 4294967295 := (by simpa [Lit.wf, IntKind.min, IntKind.max, IntKind.signed, IntKind.bits] using wz2 d hd); omega
  obtain ⟨a3, rfl, rfl, rfl⟩ := open_bool Tryd.underlying4 (hval 3 4 v3 rfl rfl) h3
  obtain ⟨a4, rfl, rfl, rfl, w4⟩ := open_int Tryd.underlying3 (hval 4 3 v4 rfl rfl) h4
  obtain ⟨te0, ve0, he0⟩ := laid_at hL (by rfl) (name := "rtppackets/pub/rtpobu.ErrFailedToReadLEB128") (List.mem_of_getElem? (i := 0) rfl) g0 t0 Tryd.underlying58
  obtain ⟨te1, ve1, he1⟩ := laid_at hL (by rfl) (name := "rtppackets/pub/rtp.ErrVLATooShort") (List.mem_of_getElem? (i := 1) rfl) g1 t1 Tryd.underlying58
  clear hA0 hval0
  refine (fl_law W a0 a1 a3 a4 rd2 ib2).mono fun e W' ⟨he, bel⟩ => ?_
  subst he
  exact ⟨_, rfl, _, _, _, [], _, [], hW', trodAll_mk1 (shut_bool Tryd.underlying4 _), (trodAll_cons_mk (Below.trod laid_out (by kernel_rfl) (of_decide_eq_true (by kernel_rfl)) k0 bel lt0) (trodAll_cons_mk (Below.trod laid_out (by kernel_rfl) (of_decide_eq_true (by kernel_rfl)) k1 bel lt1) (trodAll_cons_mk (Below.trod laid_out (by kernel_rfl) (of_decide_eq_true (by kernel_rfl)) k2 bel lt2) (trodAll_cons_mk (Below.trod laid_out (by kernel_rfl) (of_decide_eq_true (by kernel_rfl)) k3 bel lt3) (trodAll_cons_mk (Below.trod laid_out (by kernel_rfl) (of_decide_eq_true (by kernel_rfl)) k4 bel lt4) trodAll_mk0))))), rfl, bel.frame _, fun h => by cases h⟩

noncomputable def low : Nat := (World.holding Tryd.prog default ⟨#[], #[], []⟩).heap.size
/-- A world for the witness: the listed errors hold what their initialisers lay. -/
noncomputable def laidWorld (os : Os) : World :=
  let w0 := World.holding Tryd.prog os ⟨#[.cells #[.string { data := #[112, 97, 121, 108, 111, 97, 100, 32, 101, 110, 100, 101, 100, 32, 98, 101, 102, 111, 114, 101, 32, 76, 69, 66, 49, 50, 56, 32, 119, 97, 115, 32, 102, 105, 110, 105, 115, 104, 101, 100] }] 128, .cells #[.string { data := #[86, 76, 65, 32, 112, 97, 121, 108, 111, 97, 100, 32, 116, 111, 111, 32, 115, 104, 111, 114, 116] }] 128], #[], []⟩
  { w0 with heap := ((w0.heap.modify 2 fun
      | .cells _ t frozen => .cells #[.iface 95 (.pointer (some ⟨low + 0, 0, none⟩))] t frozen
      | o => o).modify 1 fun
      | .cells _ t frozen => .cells #[.iface 95 (.pointer (some ⟨low + 1, 0, none⟩))] t frozen
      | o => o) }
theorem laid_met (os : Os) : laidMet Tryd.prog Rows.fnLayersRow.laid ((laidWorld os).forCall (fun _ _ => 0) ⟨#[], #[.int .i64 0, .int .i64 0, .slice none 0 0, .bool false, .int .i64 0], []⟩).memory :=
  laidMet_of_run' 8 (by kernel_rfl) (by kernel_rfl)
theorem reads (os : Os) {H : Type} (enc : TypeId × Value → H) : ∃ places, DataW.whole enc Tryd.prog ((laidWorld os).forCall (fun _ _ => 0) ⟨#[], #[.int .i64 0, .int .i64 0, .slice none 0 0, .bool false, .int .i64 0], []⟩).memory Tryd.f6.params.toList Rows.fnLayersSpec.vars false (#[.int .i64 0, .int .i64 0, .slice none 0 0, .bool false, .int .i64 0] : Array Value).toList 8 = some ([.lit (.int .i64 0), .lit (.int .i64 0), .nil, .lit (.bool false), .lit (.int .i64 0)], [], places) :=
  ⟨[], by kernel_rfl⟩

set_option maxRecDepth 100000 in
theorem lifted (os : Os) (started : os.Started) (H : Type) (enc : TypeId × Value → H) (F : Stop.Interp) :
    ReturnsInHanded {} Tryd.checked os 6 .any ((OpenSpec.ofChange Rows.fnLayersSpec).preRow enc Tryd.prog Tryd.f6 Rows.fnLayersRow.domain false Rows.fnLayersRow.laid) (((OpenSpec.ofChange Rows.fnLayersSpec).at F).post enc Tryd.prog Tryd.f6 false true false false) := by
  obtain ⟨places, hx⟩ := reads os enc
  refine returnsInHanded_of_row (C := Tryd.checked) (s := OpenSpec.ofChange Rows.fnLayersSpec) own_knob started (by kernel_rfl) Tryd.func6
    (witness_row_at (enc := enc) (C := Tryd.checked) false (laidWorld os) #[.int .i64 0, .int .i64 0, .slice none 0 0, .bool false, .int .i64 0] rfl (by kernel_rfl) (by kernel_rfl) (by kernel_rfl)
      (OpenSpec.preRow_of_cond 8 hx (by kernel_rfl) (fun k hk => by cases hk) (by kernel_rfl) (laid_met os))) ?_
  intro W base args ds gs before hval hW _ _ _ hL _ _
  exact contract H enc W base args ds gs before hval hW hL

theorem said : Rows.FnLayersSaid :=
  OpenClaim.holds_of_cond 6 Tryd.f6 rfl rfl rfl rfl rfl rfl rfl ⟨rfl, rfl, rfl, rfl, rfl⟩ rfl rfl rfl rfl rfl (by kernel_rfl) Tryd.func6 (by kernel_rfl)
    (of_decide_eq_true (by kernel_rfl)) (by unfold Func.isWrapper; first | (rw [if_pos (by decide +kernel)]; kernel_rfl) | (rw [if_neg (by decide +kernel)]; exact ⟨rfl, rfl⟩))
    (fun os started H enc _ F => by rw [OpenClaim.pre_eq_preRow]; exact lifted os started H enc F)

theorem plain (f : FuncId) (fn : Func) (hf : Tryd.pinned.checked.prog.funcNamed "rtppackets/laws.FnLayers" = some f) (hfn : Tryd.pinned.checked.prog.funcs[f]? = some fn) :
    false = Tryd.pinned.checked.prog.looks [] ∧ ∀ (j : Nat) t, fn.params[j]? = some t → Tryd.pinned.checked.prog.wantsStandIn t = false := by
  obtain rfl : f = 6 := Option.some.inj ((show Tryd.prog.funcNamed "rtppackets/laws.FnLayers" = some 6 by kernel_rfl).symm.trans hf) |>.symm
  obtain rfl : fn = Tryd.f6 := (Option.some.inj (Tryd.func6.symm.trans hfn)).symm
  refine ⟨by kernel_rfl, fun j t ht => ?_⟩
  rw [Tryd.params6] at ht
  have hm : t ∈ #[3, 3, 41, 4, 3] := Array.mem_of_getElem? ht
  have hd : t = 3 ∨ t = 3 ∨ t = 41 ∨ t = 4 ∨ t = 3 := by simpa using hm
  rcases hd with rfl | rfl | rfl | rfl | rfl
  · exact (show Tryd.prog.wantsStandIn 3 = false by kernel_rfl)
  · exact (show Tryd.prog.wantsStandIn 3 = false by kernel_rfl)
  · exact (show Tryd.prog.wantsStandIn 41 = false by kernel_rfl)
  · exact (show Tryd.prog.wantsStandIn 4 = false by kernel_rfl)
  · exact (show Tryd.prog.wantsStandIn 3 = false by kernel_rfl)

theorem card : Rows.FnLayersCardSaid :=
  Claim7.holds_tied_plain_at .later [] _ _ _ _ said (fun _ h => by cases h) (by kernel_rfl) (fun _ h => by cases h) fnLayers_row_tie rfl ⟨rfl, rfl⟩ (by kernel_rfl) rfl plain (by kernel_rfl)
end Go.Proofs.YtdlnmkpojiofoaaDoor.fnLayers
