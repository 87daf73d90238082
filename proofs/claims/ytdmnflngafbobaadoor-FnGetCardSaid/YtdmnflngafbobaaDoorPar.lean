/-
  The thin package's Parse of a packet, over Unmarshal of its header. Conditions: those that stand in each theorem.
-/
import Derived.Test.YtdmnflngafbobaaDoorPuw
import Derived.Test.YtdmnflngafbobaaDoorPfo
import Derived.Test.YtdmnflngafbobaaDoorIplain
namespace Go.Proofs.YtdmnflngafbobaaDoor
open Go.RowKit
set_option linter.unusedVariables false
set_option linter.unusedSimpArgs false
set_option maxRecDepth 100000

/-- Unmarshal of these bytes does what the reference says. -/
def UnSpec (bs : List Int) : Prop :=
  ∀ (p : Nat → Prop) (w : World) (n c g : Nat) (A : Option Addr) (t : TypeId) (rest : List Value), Rd w p 1 (.slice A n c) n (B8 bs) → n ≤ 2147483647 → (∀ i, p i → i ≠ g ∧ i < w.heap.size) → BL w g t (uc hd0 (.slice none 0 0) (.slice none 0 0) rest) → Errs w → ¬ Glob g →
    Calls Tryd.prog 71 #[.pointer (some ⟨g, 0, none⟩), .slice A n c] w (UnPost bs w g t rest (fun k => w.heap.size ≤ k ∨ p k))
/-- What a read header's sizes are. -/
def HsSpec (bs : List Int) : Prop := ∀ h m, readB bs = .good h m → Hs h ∧ m ≤ bs.length ∧ 12 ≤ m ∧ h.padn = 0

theorem UH.mono {w : World} {q q' : Nat → Prop} {g : Nat} {t : TypeId} {rest : List Value} {h : Hd} (u : UH w q g t rest h) (hq : ∀ k, k < w.heap.size → q k → q' k) : UH w q' g t rest h := by
  obtain ⟨sv, xv, h1, h2, h3⟩ := u
  exact ⟨sv, xv, h1, h2.mono hq, h3.mono hq⟩
theorem UnPost.mono {bs : List Int} {w w' : World} {g : Nat} {t : TypeId} {rest : List Value} {q q' : Nat → Prop} {e : Ending} (h : UnPost bs w g t rest q e w') (hq : ∀ k, q k → q' k) : UnPost bs w g t rest q' e w' := by
  rcases h with ⟨h, m, h1, h2, h3, h4⟩ | ⟨h1, m, te, ve, hd, h2, h3, h4, h5, h6⟩
  · exact .inl ⟨h, m, h1, h2, h3.mono (fun k _ => hq k), h4⟩
  · exact .inr ⟨h1, m, te, ve, hd, h2, h3, h4, h5.mono (fun k _ => hq k), h6⟩
theorem unSpec0 {bs : List Int} (hI : IsB bs) (hx : 4 ≤ bs.length → g8 bs 0 / 16 % 2 ≠ 1) (hv : readB bs ≠ .wide) : UnSpec bs := by
  intro p w n c g A t rest hR hn hp hB he hg
  have hl : bs.length = n := by have := hR.len; rwa [B8_len] at this
  exact (un0_walk w hR hI hn (fun i hi => (hp i hi).1) (fun i hi => (hp i hi).2) hB he hg (by rw [← hl]; exact hx) hv).mono fun e w' h => h.mono fun k hk => .inl hk
theorem hsSpec0 {bs : List Int} (hx : 4 ≤ bs.length → g8 bs 0 / 16 % 2 ≠ 1) : HsSpec bs := by
  intro h m hr
  unfold readB at hr
  split at hr
  · cases hr
  · rename_i h12
    have hE : (headR bs).ext = false := by show decide (g8 bs 0 / 16 % 2 = 1) = false; simp [hx (by omega)]
    split at hr
    · cases hr
    · split at hr
      · cases hr
      · cases hr
        have hc : cc bs ≤ 15 := by unfold cc; omega
        exact ⟨⟨by show (srcsR bs).length ≤ _; rw [srcsR_len]; omega, by show (0 : Nat) ≤ _; omega, fun x hx => by cases hx⟩, by omega, by omega, rfl⟩

/-- A whole value into a block that is known whole. -/
theorem wp_stRow {P : Program} {w : World} {o : Oper} {a : Act} {K : Act → World → Prop} {Q : Exit → Act → World → Prop} {ty t : TypeId} {p x : Operand} {g : Nat} {old cs : Array Value} (ho : o.op = .store ty p x) (hp : a.eval p = .pointer (some ⟨g, 0, none⟩)) (hx : a.eval x = .agg cs) (hb : Blk w g t old)
    (hi : (P.info? ty).map (·.size) = some cs.size) (hs : old.size = cs.size) (h1 : cs.all (·.oneCell') = true) (h : ∀ w', Blk w' g t cs → Keep w w' (· = g) → K (a.put o.dst undef) w') : Oper.wp P o a w K Q := by
  have hr := run_storeVar_row (P := P) w g t ty old cs hb hi hs h1
  have hrr : (execOp a.eval o).run P w = .ok .skip (w.setRow g cs) := by
    unfold execOp
    simp only [ho, hp, hx, Instr.storeAt, Instr.sureAddr, Sem.run_bind, Sem.run_pure, Result.andThen_ok, hr]
  unfold Oper.wp
  rw [hrr]
  exact h _ (setRow_heap w g old cs t _ hb) ⟨rfl, rfl, rfl, by simp [World.setRow], fun k hk hne => setRow_other w g k _ (fun e => hne e)⟩
/-- A packet of the thin package stored over a block, cell by cell. -/
def st13 (w : World) (g : Nat) (h : Hd) (sv xv pv : Value) : World :=
  ((((((((((((w.setCell ⟨g, 0, none⟩ (.int .u8 h.v)).setCell ⟨g, 1, none⟩ (.bool h.pad)).setCell ⟨g, 2, none⟩ (.bool h.ext)).setCell ⟨g, 3, none⟩ (.bool h.mark)).setCell ⟨g, 4, none⟩ (.int .u8 h.ty)).setCell ⟨g, 5, none⟩ (.int .u16 h.seq)).setCell ⟨g, 6, none⟩ (.int .u32 h.time)).setCell ⟨g, 7, none⟩ (.int .u32 h.ssrc)).setCell ⟨g, 8, none⟩ sv).setCell ⟨g, 9, none⟩ (.int .u16 h.prof)).setCell ⟨g, 10, none⟩ xv).setCell ⟨g, 11, none⟩ (.int .u8 h.padn)).setCell ⟨g, 12, none⟩ pv
theorem st13_keep (w : World) (g : Nat) (h : Hd) (sv xv pv : Value) : Keep w (st13 w g h sv xv pv) (· = g) :=
  (((((((((((((Keep.refl w (· = g)).setg 0 (fun _ => rfl) _).setg 1 (fun _ => rfl) _).setg 2 (fun _ => rfl) _).setg 3 (fun _ => rfl) _).setg 4 (fun _ => rfl) _).setg 5 (fun _ => rfl) _).setg 6 (fun _ => rfl) _).setg 7 (fun _ => rfl) _).setg 8 (fun _ => rfl) _).setg 9 (fun _ => rfl) _).setg 10 (fun _ => rfl) _).setg 11 (fun _ => rfl) _).setg 12 (fun _ => rfl) _
theorem set13 (b0 b1 b2 b3 b4 b5 b6 b7 b8 b9 b10 b11 b12 a0 a1 a2 a3 a4 a5 a6 a7 a8 a9 a10 a11 a12 : Value) : (((((((((((((#[b0, b1, b2, b3, b4, b5, b6, b7, b8, b9, b10, b11, b12].setIfInBounds 0 a0).setIfInBounds 1 a1).setIfInBounds 2 a2).setIfInBounds 3 a3).setIfInBounds 4 a4).setIfInBounds 5 a5).setIfInBounds 6 a6).setIfInBounds 7 a7).setIfInBounds 8 a8).setIfInBounds 9 a9).setIfInBounds 10 a10).setIfInBounds 11 a11).setIfInBounds 12 a12) = #[a0, a1, a2, a3, a4, a5, a6, a7, a8, a9, a10, a11, a12] := by kernel_rfl
theorem st13_blk {w : World} {g : Nat} {t : TypeId} {h0 : Hd} {s0 x0 p0 : Value} (hb : Blk w g t (kcells h0 s0 x0 p0)) (h : Hd) (sv xv pv : Value) : Blk (st13 w g h sv xv pv) g t (kcells h sv xv pv) := by
  have H := ((((((((((((hb.set_ 0 (.int .u8 h.v)).set_ 1 (.bool h.pad)).set_ 2 (.bool h.ext)).set_ 3 (.bool h.mark)).set_ 4 (.int .u8 h.ty)).set_ 5 (.int .u16 h.seq)).set_ 6 (.int .u32 h.time)).set_ 7 (.int .u32 h.ssrc)).set_ 8 sv).set_ 9 (.int .u16 h.prof)).set_ 10 xv).set_ 11 (.int .u8 h.padn)).set_ 12 pv
  unfold kcells at H
  rw [set13] at H
  exact H
end Go.Proofs.YtdmnflngafbobaaDoor
