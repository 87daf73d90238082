/-
  make and copy, in the words of the seat's memory. Conditions: those that stand in each theorem.
-/
import Derived.Test.YtdlnmkpojiofoaaDoorGMem
import Derived.Laws.MakeOwn
namespace Go.Proofs.YtdlnmkpojiofoaaDoor
open Go.RowKit
set_option linter.unusedVariables false
set_option maxRecDepth 20000

section
variable {P : Program} {w : World}
/-- make of n elements. -/
theorem run_mk {t e : TypeId} {z : Value} {sz bytes : Nat} (T : ET P t e z sz bytes) (n : Nat) (hb : bytes * n ≤ 281474976710656) (hm : n ≤ 9223372036854775807) (w : World) :
    (Instr.makeSlice t (.int .i64 (n : Int)) (.int .i64 (n : Int))).run P w = .ok (.slice (some ⟨w.heap.size, 0, none⟩) n n) (w.alloc (.cells (madeCells z.cells (n * sz)) e)) := by
  obtain ⟨ht, hi, hzs, hsz⟩ := T
  cases hI : P.info? e with
  | none => rw [hI] at hi; cases hi
  | some i =>
    rw [hI] at hi
    simp at hi
    have := run_make (P := P) w t e i z ht hI hi.1 .i64 .i64 (n : Int) (n : Int) (by omega) (Int.le_refl _) (by rw [hi.2.2]; omega) (by omega)
    rw [hi.2.1] at this
    simpa using this
theorem made_len (z : Array Value) (n : Nat) : (madeCells z n).toList.length = n := by simp [size_madeCells]
theorem made_one (z : Value) (n : Nat) : madeCells #[z] n = (List.replicate n z).toArray := by
  apply Array.ext
  · simp [size_madeCells]
  · intro i h1 h2
    simp [madeCells, Nat.mod_one]

theorem splice_nil {α : Type} (L : List α) (off : Nat) : splice L off [] = L := by simp [splice]
theorem splice_all {α : Type} (L cs : List α) (h : L.length = cs.length) : splice L 0 cs = cs := by simp [splice, ← h]

/-- copy into a block that is known whole. -/
theorem run_copyB {dT sT ty elem t : TypeId} (hu : P.underlying dT = some (.slice elem)) (hsz : (P.info? elem).map (·.size) = some 1) {g off dn dc : Nat} {dp : Option Addr} {cur : Array Value} (hg : Blk w g t cur)
    {p : Nat → Prop} {s : Value} {m : Nat} {ys : List Value} (hs : Rd w p 1 s m ys) (h1 : ∀ u ∈ ys, u.oneCell' = true) (hdp : 0 < min m dn → dp = some ⟨g, off, none⟩) (hfit : off + min m dn ≤ cur.size) :
    ∃ w', (Builtin.copy_ #[dT, sT] ty #[.slice dp dn dc, s]).run P w = .ok (goInt ((min m dn : Nat) : Int)) w' ∧ Blk w' g t (splice cur.toList off (ys.take (min m dn))).toArray ∧ Keep w w' (· = g) := by
  obtain ⟨hl, A, c, rfl, h2, h3, h4, h5⟩ := hs
  by_cases h0 : min m dn = 0
  · refine ⟨w, ?_, ?_, Keep.refl _ _⟩
    · have := run_copy_none (P := P) w dT sT ty elem dp A dn dc m c hu hsz h0
      rw [this, h0]; rfl
    · rw [h0, List.take_zero, splice_nil]
      simpa using hg
  · have hp : 0 < min m dn := by omega
    obtain rfl := hdp hp
    have hlt : (ys.take (min m dn)).length = Nat.min m dn := by rw [List.length_take, hl]; show min _ _ = min m dn; omega
    have hx : ys[0]? = some (ys[0]'(by omega)) := List.getElem?_eq_getElem (by omega)
    obtain ⟨ad, rfl, -, -⟩ := h5 0 _ hx
    have hrun := run_copy_row (P := P) w dT sT ty elem g off dn dc ad m c cur t (ys.take (min m dn)) hu hsz hg hlt (fun j v hv => by
      rw [List.getElem?_take] at hv
      split at hv
      · obtain ⟨ad', e, _, hc⟩ := h5 j v hv
        injection e with e
        subst e
        exact hc
      · cases hv) (by rw [hlt]; exact hfit) (fun u hu => h1 u (List.mem_of_mem_take hu))
    refine ⟨_, by rw [hrun, hlt], ?_, ?_⟩
    · have := setRow_heap w g cur (cur.toList.take off ++ (ys.take (min m dn)) ++ cur.toList.drop (off + (ys.take (min m dn)).length)).toArray t _ hg
      unfold Blk splice
      rw [← List.append_assoc]
      rw [hlt] at this ⊢
      exact this
    · exact ⟨rfl, rfl, rfl, by simp [World.setRow], fun k hk hne => setRow_other w g k _ (fun e => hne e)⟩
variable {ops : Array Oper} {rest : List Oper} {o : Oper} {a : Act} {Q : Exit → Act → World → Prop}
theorem wpList_copyB (hgd : o.guard = none) (d x : Operand) {dT sT elem t : TypeId} (ho : o.op = .call { callee := .builtin .copy, args := #[d, x], argTypes := #[dT, sT] })
    (hu : P.underlying dT = some (.slice elem)) (hsz : (P.info? elem).map (·.size) = some 1) (g off : Nat) {dn dc : Nat} {dp : Option Addr} {cur : Array Value} (hg : Blk w g t cur)
    {p : Nat → Prop} {s : Value} {m : Nat} {ys : List Value} (hs : Rd w p 1 s m ys) (h1 : ∀ u ∈ ys, u.oneCell' = true) (hd : a.eval d = .slice dp dn dc) (hx : a.eval x = s) (hdp : 0 < min m dn → dp = some ⟨g, off, none⟩) (hfit : off + min m dn ≤ cur.size)
    (h : ∀ w', Blk w' g t (splice cur.toList off (ys.take (min m dn))).toArray → Keep w w' (· = g) → wpList P ops Q rest (a.put o.dst (goInt ((min m dn : Nat) : Int))) w') :
    wpList P ops Q (o :: rest) a w := by
  obtain ⟨w', hr, h3, h4⟩ := run_copyB (P := P) (ty := o.type) (sT := sT) (dc := dc) hu hsz hg hs h1 hdp hfit
  refine wpList_run hgd ?_ (h w' h3 h4)
  unfold execOp
  simp only [ho, resolve, invoke, builtin, Sem.run_bind, Sem.run_pure, Result.andThen_ok, List.map_toArray, List.map_cons, List.map_nil, hd, hx, hr]
/-- The same, as a step of a region that draws its order. -/
theorem step_copyB {K : Act → World → Prop} {E : Prop} (hgd : o.guard = none) (d x : Operand) {dT sT elem t : TypeId} (ho : o.op = .call { callee := .builtin .copy, args := #[d, x], argTypes := #[dT, sT] })
    (hu : P.underlying dT = some (.slice elem)) (hsz : (P.info? elem).map (·.size) = some 1) (g off : Nat) {dn dc : Nat} {dp : Option Addr} {cur : Array Value} (hg : Blk w g t cur)
    {p : Nat → Prop} {s : Value} {m : Nat} {ys : List Value} (hs : Rd w p 1 s m ys) (h1 : ∀ u ∈ ys, u.oneCell' = true) (hd : a.eval d = .slice dp dn dc) (hx : a.eval x = s) (hdp : 0 < min m dn → dp = some ⟨g, off, none⟩) (hfit : off + min m dn ≤ cur.size)
    (h : ∀ w', Blk w' g t (splice cur.toList off (ys.take (min m dn))).toArray → Keep w w' (· = g) → K (a.put o.dst (goInt ((min m dn : Nat) : Int))) w') :
    if Region.wanted o (yielded ops a.tmps) = true then Oper.wp P o a w K Q else E := by
  have hw : Region.wanted o (yielded ops a.tmps) = true := by simp [Region.wanted, hgd]
  rw [if_pos hw]
  obtain ⟨w', hr, h3, h4⟩ := run_copyB (P := P) (ty := o.type) (sT := sT) (dc := dc) hu hsz hg hs h1 hdp hfit
  unfold Oper.wp execOp
  simp only [ho, resolve, invoke, builtin, Sem.run_bind, Sem.run_pure, Result.andThen_ok, List.map_toArray, List.map_cons, List.map_nil, hd, hx, hr]
  exact h w' h3 h4
end
end Go.Proofs.YtdlnmkpojiofoaaDoor
