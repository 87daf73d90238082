/-
  VLA.MarshalTo: what it writes, plainly. Conditions: those that stand in each theorem.
-/
import Derived.Test.YtdlnmkpojiofoaaDoorVl8
import Derived.Test.YtdlnmkpojiofoaaDoorNav
namespace Go.Proofs.YtdlnmkpojiofoaaDoor
open Go.RowKit
set_option linter.unusedVariables false
set_option linter.unusedSimpArgs false
set_option maxRecDepth 100000

theorem Buf.seti {w : World} {g : Nat} {done : List Int} {rest : List Value} (h : Buf w g done rest) {i : Nat} (hi : i < done.length) (u : Int) : Buf (w.setCell ⟨g, i, none⟩ (.int .u8 u)) g (done.set i u) rest := by
  have h1 := Blk.set_ h i (.int .u8 u)
  unfold Buf
  rw [List.setIfInBounds_toArray, List.set_append_left _ _ (by rw [B8_len]; exact hi)] at h1
  have e : (B8 done).set i (.int .u8 u) = B8 (done.set i u) := by unfold B8; rw [List.map_set]
  rw [e] at h1
  exact h1

def wgt : Nat → Nat
  | 0 => 0
  | 1 => 64
  | 2 => 80
  | 3 => 84
  | _ => 85
/-- The bytes of the numbers of rates, when n layers are in. -/
def tbL (T1 n tl : Nat) : List Int := (List.range tl).map fun q => ((T1 * wgt (min 4 (n - 4 * q)) : Nat) : Int)
theorem tbL_len (T1 n tl : Nat) : (tbL T1 n tl).length = tl := by simp [tbL]
theorem tbL_all : ((List.range 4).all fun T => (List.range 16).all fun n => (List.range 5).all fun tl => decide (tl ≤ n / 4) || ((tbL T (n + 1) tl == (tbL T n tl).set (n / 4) ((T * wgt (n % 4 + 1) : Nat) : Int)) && (tbL T n tl)[n / 4]? == some ((T * wgt (n % 4) : Nat) : Int))) = true := by decide +kernel
theorem tbL_next {T n tl : Nat} (hT : T < 4) (hn : n < 16) (ht : tl ≤ 4) (h : n / 4 < tl) : tbL T (n + 1) tl = (tbL T n tl).set (n / 4) ((T * wgt (n % 4 + 1) : Nat) : Int) ∧ (tbL T n tl)[n / 4]? = some ((T * wgt (n % 4) : Nat) : Int) := by
  have h0 := tbL_all
  rw [List.all_eq_true] at h0
  have h1 := h0 T (List.mem_range.2 hT)
  rw [List.all_eq_true] at h1
  have h2 := h1 n (List.mem_range.2 hn)
  rw [List.all_eq_true] at h2
  have h3 := h2 tl (List.mem_range.2 (by omega))
  have e : decide (tl ≤ n / 4) = false := by simpa using h
  rw [e] at h3
  simp only [Bool.false_or, Bool.and_eq_true, beq_iff_eq] at h3
  exact h3
theorem tbL_zero (T tl : Nat) : tbL T 0 tl = List.replicate tl 0 := by
  unfold tbL
  apply List.ext_getElem
  · simp
  · intro i h1 h2
    simp [wgt]
theorem orT_all : ((List.range 4).all fun T => (List.range 4).all fun r => bits .or .u8 ((T * wgt r : Nat) : Int) ((T * 4 ^ (3 - r) : Nat) : Int) == ((T * wgt (r + 1) : Nat) : Int)) = true := by decide +kernel
theorem orT {T r : Nat} (hT : T < 4) (hr : r < 4) : bits .or .u8 ((T * wgt r : Nat) : Int) ((T * 4 ^ (3 - r) : Nat) : Int) = ((T * wgt (r + 1) : Nat) : Int) := by
  have h0 := orT_all
  rw [List.all_eq_true] at h0
  have h1 := h0 T (List.mem_range.2 hT)
  rw [List.all_eq_true] at h1
  have h2 := h1 r (List.mem_range.2 hr)
  simpa using h2

/-- The first byte. -/
def Pv.b0 (P : Pv) : Int := ((P.st * 64 + (P.S - 1) * 16 : Nat) : Int) + P.cm
/-- The bytes of a layer's rates. -/
def rb (l : List Nat) : List Int := l.flatMap leb
theorem rb_snoc (l : List Nat) (x : Nat) : rb (l ++ [x]) = rb l ++ leb x := by simp [rb]
theorem rb_len : ∀ (l : List Nat), (rb l).length = sumN l
  | [] => rfl
  | x :: l => by
    have h1 := rb_len l
    simp only [rb, sumN, List.flatMap_cons, List.length_append, List.map_cons, List.sum_cons, leb_len] at *
    omega
def rbs (n : Nat) (l : List Nat) : List Int := (List.replicate n (rb l)).flatten
theorem rbs_succ (n : Nat) (l : List Nat) : rbs (n + 1) l = rbs n l ++ rb l := by
  unfold rbs
  rw [List.replicate_succ', List.flatten_append]
  simp
theorem rbs_len (n : Nat) (l : List Nat) : (rbs n l).length = n * sumN l := by
  induction n with
  | zero => simp [rbs]
  | succ n ih => rw [rbs_succ, List.length_append, ih, rb_len, Nat.succ_mul]
/-- The five bytes of a layer's sizes. -/
def Pv.sz5 (P : Pv) (l : Nat) : List Int := [(((P.W l - 1) / 256 : Nat) : Int), (((P.W l - 1) % 256 : Nat) : Int), (((P.H l - 1) / 256 : Nat) : Int), (((P.H l - 1) % 256 : Nat) : Int), ((P.F : Nat) : Int)]
def Pv.szs (P : Pv) (n : Nat) : List Int := (List.range n).flatMap P.sz5
theorem Pv.szs_succ (P : Pv) (n : Nat) : P.szs (n + 1) = P.szs n ++ P.sz5 n := by simp [Pv.szs, List.range_succ]
theorem Pv.szs_len (P : Pv) (n : Nat) : (P.szs n).length = n * 5 := by
  induction n with
  | zero => rfl
  | succ n ih => rw [Pv.szs_succ, List.length_append, ih]; simp [Pv.sz5]; omega
/-- What is written in front of the sizes. -/
def Pv.front (P : Pv) : List Int := (P.b0 :: tbL (P.rs.length - 1) P.L P.tl) ++ rbs P.L P.rs
/-- All that is written. -/
def Pv.out (P : Pv) : List Int := P.front ++ (if P.sized then P.szs P.L else [])
theorem Pv.front_len (P : Pv) : P.front.length = 1 + P.tl + P.L * sumN P.rs := by
  unfold Pv.front
  rw [List.length_append, List.length_cons, tbL_len, rbs_len]; omega
theorem Pv.out_len (P : Pv) : P.out.length = P.len := by
  unfold Pv.out Pv.len
  rw [List.length_append, Pv.front_len]
  split
  · rw [Pv.szs_len]
  · rfl

/-- What stands in memory while it is written. -/
structure MS (p : Nat → Prop) (P : Pv) (b o c : Nat) (ds : List Value) (T : TypeId) (g2 g6 gb : Nat) (w : World) : Prop where
  ok : P.Ok
  lc : P.L ≤ c
  k2 : Blk w g2 69 (P.vla b o c)
  k6 : Blk w g6 T P.ctx
  lr : LR w p P b o ds
  pl : ∀ i, p i → i < gb
  n2 : g2 ≠ gb
  n6 : g6 ≠ gb
theorem MS.keep {p : Nat → Prop} {P : Pv} {b o c : Nat} {ds : List Value} {T : TypeId} {g2 g6 gb : Nat} {w w' : World} (h : MS p P b o c ds T g2 g6 gb w) (k : Keep w w' (· = gb)) : MS p P b o c ds T g2 g6 gb w' :=
  ⟨h.ok, h.lc, h.k2.keep k (fun e => h.n2 e), h.k6.keep k (fun e => h.n6 e), h.lr.keep k (fun i _ hi e => by have := h.pl i hi; have : i = gb := e; omega), h.pl, h.n2, h.n6⟩
theorem MS.bne {p : Nat → Prop} {P : Pv} {b o c : Nat} {ds : List Value} {T : TypeId} {g2 g6 gb : Nat} {w : World} (h : MS p P b o c ds T g2 g6 gb w) : ¬ b = gb := fun e => by have := h.pl b h.lr.pb; omega
end Go.Proofs.YtdlnmkpojiofoaaDoor
