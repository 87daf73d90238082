/-
  Layers of a video: what stands in memory when they are written. Conditions: those that stand in each theorem.
-/
import Derived.Test.YtdlnmkpojiofoaaDoorVl3
namespace Go.Proofs.YtdlnmkpojiofoaaDoor
open Go.RowKit
set_option linter.unusedVariables false
set_option linter.unusedSimpArgs false
set_option maxRecDepth 20000

/-- The cells of the context of a writing. -/
def ctxV (mbs ixs : List Int) (cm rl : Int) : Array Value := (mbs.map (Value.int .u8) ++ ixs.map (Value.int .i64) ++ [Value.int .u8 cm, Value.int .i64 rl]).toArray
section
variable {mbs ixs : List Int} {cm rl : Int}
theorem ctx_mb (h4 : mbs.length = 4) {s : Nat} {m : Int} (h : mbs[s]? = some m) : (ctxV mbs ixs cm rl)[s]? = some (.int .u8 m) := by
  have hl := (List.getElem?_eq_some_iff.1 h).1
  unfold ctxV
  rw [List.getElem?_toArray, List.getElem?_append_left (by simp; omega), List.getElem?_append_left (by simp; omega), List.getElem?_map, h]
  rfl
theorem ctx_ix (h4 : mbs.length = 4) (h16 : ixs.length = 16) {q : Nat} {m : Int} (h : ixs[q]? = some m) : (ctxV mbs ixs cm rl)[4 + q]? = some (.int .i64 m) := by
  have hl := (List.getElem?_eq_some_iff.1 h).1
  unfold ctxV
  rw [List.getElem?_toArray, List.getElem?_append_left (by simp; omega), List.getElem?_append_right (by simp; omega), List.length_map, h4, show 4 + q - 4 = q by omega, List.getElem?_map, h]
  rfl
theorem ctx_cm (h4 : mbs.length = 4) (h16 : ixs.length = 16) : (ctxV mbs ixs cm rl)[20]? = some (.int .u8 cm) := by
  unfold ctxV
  rw [List.getElem?_toArray, List.getElem?_append_right (by simp; omega)]
  simp [h4, h16]
theorem ctx_rl (h4 : mbs.length = 4) (h16 : ixs.length = 16) : (ctxV mbs ixs cm rl)[21]? = some (.int .i64 rl) := by
  unfold ctxV
  rw [List.getElem?_toArray, List.getElem?_append_right (by simp; omega)]
  simp [h4, h16]
theorem ctx_smb (h4 : mbs.length = 4) {s : Nat} (hs : s < 4) (u : Int) : (ctxV mbs ixs cm rl).setIfInBounds s (.int .u8 u) = ctxV (mbs.set s u) ixs cm rl := by
  unfold ctxV
  rw [List.setIfInBounds_toArray, List.set_append_left _ _ (by simp; omega), List.set_append_left _ _ (by simp; omega), List.map_set]
theorem ctx_six (h4 : mbs.length = 4) (h16 : ixs.length = 16) {q : Nat} (hq : q < 16) (u : Int) : (ctxV mbs ixs cm rl).setIfInBounds (4 + q) (.int .i64 u) = ctxV mbs (ixs.set q u) cm rl := by
  unfold ctxV
  rw [List.setIfInBounds_toArray, List.set_append_left _ _ (by simp; omega), List.set_append_right _ _ (by simp; omega), List.length_map, h4, show 4 + q - 4 = q by omega, List.map_set]
theorem ctx_scm (h4 : mbs.length = 4) (h16 : ixs.length = 16) (u : Int) : (ctxV mbs ixs cm rl).setIfInBounds 20 (.int .u8 u) = ctxV mbs ixs u rl := by
  unfold ctxV
  rw [List.setIfInBounds_toArray, List.set_append_right _ _ (by simp; omega)]
  simp [h4, h16]
theorem ctx_srl (h4 : mbs.length = 4) (h16 : ixs.length = 16) (u : Int) : (ctxV mbs ixs cm rl).setIfInBounds 21 (.int .i64 u) = ctxV mbs ixs cm u := by
  unfold ctxV
  rw [List.setIfInBounds_toArray, List.set_append_right _ _ (by simp; omega)]
  simp [h4, h16]
end

/-- The bits of a stream's layers, and the places of all layers, when i of them are known; K of each stream. -/
def mbN (K i s : Nat) : Nat := 2 ^ (min K (i - s * K)) - 1
def mbL (K i : Nat) : List Int := (List.range 4).map (fun s => ((mbN K i s : Nat) : Int))
def ixN (K i q : Nat) : Int := if q % 4 < K ∧ q / 4 * K + q % 4 < i then ((q / 4 * K + q % 4 : Nat) : Int) else -1
def ixL (K i : Nat) : List Int := (List.range 16).map (ixN K i)
theorem mbL_len (K i : Nat) : (mbL K i).length = 4 := by simp [mbL]
theorem ixL_len (K i : Nat) : (ixL K i).length = 16 := by simp [ixL]
def mbChk (K i : Nat) : Bool := K == 0 || decide (4 ≤ i / K) || ((mbL K (i + 1) == (mbL K i).set (i / K) (2 ^ (i % K + 1) - 1)) && ((mbL K i)[i / K]? == some (2 ^ (i % K) - 1)) && (ixL K (i + 1) == (ixL K i).set (i / K * 4 + i % K) (i : Int)) && ((ixL K i)[i / K * 4 + i % K]? == some (-1)))
theorem mbChk_all : ((List.range 5).all fun K => (List.range 16).all fun i => mbChk K i) = true := by decide +kernel
theorem mbL_next (K : Nat) (hK : K < 5) (i : Nat) (hi : i < 16) (h0 : K ≠ 0) (h4 : i / K < 4) : mbL K (i + 1) = (mbL K i).set (i / K) (2 ^ (i % K + 1) - 1) ∧ (mbL K i)[i / K]? = some (2 ^ (i % K) - 1) ∧ ixL K (i + 1) = (ixL K i).set (i / K * 4 + i % K) (i : Int) ∧ (ixL K i)[i / K * 4 + i % K]? = some (-1) := by
  have h := mbChk_all
  rw [List.all_eq_true] at h
  have h1 := h K (List.mem_range.2 hK)
  rw [List.all_eq_true] at h1
  have h2 := h1 i (List.mem_range.2 hi)
  unfold mbChk at h2
  have e0 : (K == 0) = false := by simpa using h0
  have e4 : decide (4 ≤ i / K) = false := by simp; omega
  rw [e0, e4] at h2
  simp only [Bool.false_or, Bool.and_eq_true, beq_iff_eq] at h2
  exact ⟨h2.1.1.1, h2.1.1.2, h2.1.2, h2.2⟩
theorem mbL_zero (K : Nat) : mbL K 0 = List.replicate 4 0 ∧ ixL K 0 = List.replicate 16 (-1) := by
  constructor
  · simp [mbL, mbN, List.range, List.range.loop]
  · simp [ixL, ixN, List.range, List.range.loop]

/-- What is written: S streams, K layers in each, the rates of each, and the sizes. -/
structure Pv where
  S : Nat
  K : Nat
  st : Nat
  rs : List Nat
  sized : Bool
  size : Nat
structure Pv.Ok (P : Pv) : Prop where
  s1 : 1 ≤ P.S
  s4 : P.S ≤ 4
  k1 : 1 ≤ P.K
  k4 : P.K ≤ 4
  st : P.st < P.S
  t1 : 1 ≤ P.rs.length
  t4 : P.rs.length ≤ 4
  rs : ∀ r ∈ P.rs, r < 268435456
  z1 : 1 ≤ P.size
  z2 : P.size ≤ 4000
def Pv.L (P : Pv) : Nat := P.S * P.K
theorem Pv.Ok.L16 {P : Pv} (h : P.Ok) : 1 ≤ P.L ∧ P.L ≤ 16 := by
  have h1 := h.s1; have h2 := h.s4; have h3 := h.k1; have h4 := h.k4
  unfold Pv.L
  exact ⟨Nat.mul_pos h1 h3, Nat.le_trans (Nat.mul_le_mul h2 h4) (by decide)⟩
/-- The width, the height and the rate of a layer. -/
def Pv.W (P : Pv) (l : Nat) : Nat := if P.sized then P.size + l % P.K else 0
def Pv.H (P : Pv) (l : Nat) : Nat := if P.sized then P.size + l / P.K else 0
def Pv.F (P : Pv) : Nat := if P.sized then 1 + P.size % 255 else 0
/-- The cells of a layer. -/
def Pv.lc (P : Pv) (l : Nat) (d : Value) : List Value := [.int .i64 (l / P.K : Nat), .int .i64 (l % P.K : Nat), d, .int .i64 (P.W l : Nat), .int .i64 (P.H l : Nat), .int .i64 (P.F : Nat)]
def I64 (l : List Nat) : List Value := l.map fun (r : Nat) => Value.int .i64 (r : Int)
/-- Layers in memory: each one's cells and rates can be read. -/
structure LR (w : World) (p : Nat → Prop) (P : Pv) (b o : Nat) (ds : List Value) : Prop where
  dl : ds.length = P.L
  blt : b < w.heap.size
  pb : p b
  cell : ∀ (l : Nat) (d : Value), ds[l]? = some d → ∀ (j : Nat) (u : Value), (P.lc l d)[j]? = some u → w.cell? ⟨b, o + l * 6 + j, none⟩ = some u
  rate : ∀ (l : Nat) (d : Value), ds[l]? = some d → Rd w p 1 d P.rs.length (I64 P.rs)
theorem LR.keep {w w' : World} {p S : Nat → Prop} {P : Pv} {b o : Nat} {ds : List Value} (h : LR w p P b o ds) (k : Keep w w' S) (hp : ∀ i, i < w.heap.size → p i → ¬ S i) : LR w' p P b o ds :=
  ⟨h.dl, Nat.lt_of_lt_of_le h.blt k.size, h.pb, fun l d hd j u hu => k.cell (hp b h.blt h.pb) (h.cell l d hd j u hu), fun l d hd => (h.rate l d hd).keep k hp⟩
/-- The value of the package's VLA. -/
def Pv.vla (P : Pv) (b o c : Nat) : Array Value := #[.int .i64 (P.st : Nat), .int .i64 (P.S : Nat), .slice (some ⟨b, o, none⟩) P.L c, .bool P.sized]
theorem div_lt {P : Pv} (h : P.Ok) {l : Nat} (hl : l < P.L) : l / P.K < P.S := Nat.div_lt_of_lt_mul (by rw [Nat.mul_comm]; exact hl)
theorem mod_lt {P : Pv} (h : P.Ok) (l : Nat) : l % P.K < P.K := Nat.mod_lt _ h.k1
end Go.Proofs.YtdlnmkpojiofoaaDoor
