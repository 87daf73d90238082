/-
  A header as a plain thing, and what of it lies in memory. Conditions: those that stand in each theorem.
-/
import Derived.Test.YtdmnflngafbobaaDoorMem
namespace Go.Proofs.YtdmnflngafbobaaDoor
open Go.RowKit
set_option linter.unusedVariables false
set_option maxRecDepth 20000

structure Ex where
  id : Int
  data : List Int
structure Hd where
  v : Int
  pad : Bool
  ext : Bool
  mark : Bool
  ty : Int
  seq : Int
  time : Int
  ssrc : Int
  srcs : List Int
  prof : Int
  exts : List Ex
  padn : Int

def U32 (xs : List Int) : List Value := xs.map (Value.int .u32)
theorem U32_one (xs : List Int) : ∀ u ∈ U32 xs, u.oneCell' = true := by
  intro u hu
  obtain ⟨x, _, rfl⟩ := List.mem_map.1 hu
  rfl

/-- The cells of the extensions, of which the slices of their bytes are given. -/
def xcells : List Ex → List Value → List Value
  | x :: xs, d :: ds => .int .u8 x.id :: d :: xcells xs ds
  | _, _ => []
theorem xcells_len : ∀ (xs : List Ex) (ds : List Value), ds.length = xs.length → (xcells xs ds).length = xs.length * 2
  | [], [], _ => rfl
  | x :: xs, d :: ds, h => by simp [xcells, xcells_len xs ds (by simpa using h)]; omega
  | [], _ :: _, h => by simp at h
  | _ :: _, [], h => by simp at h
theorem xcells_get : ∀ (xs : List Ex) (ds : List Value) (k : Nat) {x : Ex} {d : Value}, xs[k]? = some x → ds[k]? = some d → (xcells xs ds)[2 * k]? = some (.int .u8 x.id) ∧ (xcells xs ds)[2 * k + 1]? = some d
  | x :: xs, d :: ds, 0, _, _, h, k => by simp at h k; subst h k; simp [xcells]
  | x :: xs, d :: ds, k + 1, _, _, h, h' => by
    have := xcells_get xs ds k (by simpa using h) (by simpa using h')
    simpa [xcells, Nat.mul_add] using this
  | [], _, _, _, _, h, _ => by simp at h
  | _ :: _, [], _, _, _, _, h => by simp at h
theorem xcells_snoc : ∀ (xs : List Ex) (ds : List Value) (x : Ex) (d : Value), ds.length = xs.length → xcells (xs ++ [x]) (ds ++ [d]) = xcells xs ds ++ [.int .u8 x.id, d]
  | [], [], _, _, _ => rfl
  | x :: xs, d :: ds, y, e, h => by simp [xcells, xcells_snoc xs ds y e (by simpa using h)]
  | [], _ :: _, _, _, h => by simp at h
  | _ :: _, [], _, _, h => by simp at h

/-- The slices of the extensions' bytes read as their bytes. -/
def Ds (w : World) (p : Nat → Prop) (xs : List Ex) (ds : List Value) : Prop :=
  ds.length = xs.length ∧ ∀ (k : Nat) (x : Ex) (d : Value), xs[k]? = some x → ds[k]? = some d → Rd w p 1 d x.data.length (B8 x.data)
/-- A slice of extensions. -/
def XR (w : World) (p : Nat → Prop) (v : Value) (xs : List Ex) : Prop :=
  ∃ ds, Ds w p xs ds ∧ Rd w p 2 v xs.length (xcells xs ds)

theorem Ds.keep {w w' : World} {p S : Nat → Prop} {xs : List Ex} {ds : List Value} (h : Ds w p xs ds) (k : Keep w w' S) (hp : ∀ i, i < w.heap.size → p i → ¬ S i) : Ds w' p xs ds :=
  ⟨h.1, fun j x d h1 h2 => (h.2 j x d h1 h2).keep k hp⟩
theorem Ds.keep0 {w w' : World} {p : Nat → Prop} {xs : List Ex} {ds : List Value} (h : Ds w p xs ds) (k : Keep w w' Nul) : Ds w' p xs ds := h.keep k fun _ _ _ e => e
theorem Ds.mono {w : World} {p q : Nat → Prop} {xs : List Ex} {ds : List Value} (h : Ds w p xs ds) (hp : ∀ k, k < w.heap.size → p k → q k) : Ds w q xs ds :=
  ⟨h.1, fun j x d h1 h2 => (h.2 j x d h1 h2).mono hp⟩
theorem XR.keep {w w' : World} {p S : Nat → Prop} {v : Value} {xs : List Ex} (h : XR w p v xs) (k : Keep w w' S) (hp : ∀ i, i < w.heap.size → p i → ¬ S i) : XR w' p v xs :=
  let ⟨ds, h1, h2⟩ := h
  ⟨ds, h1.keep k hp, h2.keep k hp⟩
theorem XR.keep0 {w w' : World} {p : Nat → Prop} {v : Value} {xs : List Ex} (h : XR w p v xs) (k : Keep w w' Nul) : XR w' p v xs := h.keep k fun _ _ _ e => e
theorem XR.mono {w : World} {p q : Nat → Prop} {v : Value} {xs : List Ex} (h : XR w p v xs) (hp : ∀ k, k < w.heap.size → p k → q k) : XR w q v xs :=
  let ⟨ds, h1, h2⟩ := h
  ⟨ds, h1.mono hp, h2.mono hp⟩
/-- One extension of a slice. -/
theorem XR.at_ {w : World} {p : Nat → Prop} {v : Value} {xs : List Ex} (h : XR w p v xs) {k : Nat} {x : Ex} (hx : xs[k]? = some x) :
    ∃ b o c d, v = .slice (some ⟨b, o, none⟩) xs.length c ∧ xs.length ≤ c ∧ c ≤ maxLen ∧ p b ∧ b < w.heap.size ∧ w.cell? ⟨b, o + k * 2, none⟩ = some (.int .u8 x.id) ∧ w.cell? ⟨b, o + k * 2 + 1, none⟩ = some d ∧ Rd w p 1 d x.data.length (B8 x.data) := by
  obtain ⟨ds, h1, h2⟩ := h
  have hk := (List.getElem?_eq_some_iff.1 hx).1
  obtain ⟨b, o, c, hv, e1, e2, e3, e4, e5⟩ := h2.lit (by omega)
  have hd : ds[k]? = some (ds[k]'(by rw [h1.1]; exact hk)) := List.getElem?_eq_getElem _
  have g := xcells_get xs ds k hx hd
  rw [Nat.mul_comm] at g
  exact ⟨b, o, c, _, hv, e1, e2, e3, e4, e5 _ _ g.1, e5 _ _ g.2, h1.2 k x _ hx hd⟩
theorem XR.shape {w : World} {p : Nat → Prop} {v : Value} {xs : List Ex} (h : XR w p v xs) : ∃ A c, v = .slice A xs.length c := by
  obtain ⟨ds, _, h⟩ := h
  exact h.shape

/-- The cells of a header. -/
def hcells (h : Hd) (sv xv : Value) : Array Value :=
  #[.int .u8 h.v, .bool h.pad, .bool h.ext, .bool h.mark, .int .u8 h.ty, .int .u16 h.seq, .int .u32 h.time, .int .u32 h.ssrc, sv, .int .u16 h.prof, xv, .int .u8 h.padn]
/-- A header of the law's or of the thin package's. -/
def HV (w : World) (p : Nat → Prop) (v : Value) (h : Hd) : Prop :=
  ∃ sv xv, v = .agg (hcells h sv xv) ∧ Rd w p 1 sv h.srcs.length (U32 h.srcs) ∧ XR w p xv h.exts
theorem HV.keep {w w' : World} {p S : Nat → Prop} {v : Value} {h : Hd} (hh : HV w p v h) (k : Keep w w' S) (hp : ∀ i, i < w.heap.size → p i → ¬ S i) : HV w' p v h :=
  let ⟨sv, xv, h1, h2, h3⟩ := hh
  ⟨sv, xv, h1, h2.keep k hp, h3.keep k hp⟩
theorem HV.keep0 {w w' : World} {p : Nat → Prop} {v : Value} {h : Hd} (hh : HV w p v h) (k : Keep w w' Nul) : HV w' p v h := hh.keep k fun _ _ _ e => e
theorem HV.mono {w : World} {p q : Nat → Prop} {v : Value} {h : Hd} (hh : HV w p v h) (hp : ∀ k, k < w.heap.size → p k → q k) : HV w q v h :=
  let ⟨sv, xv, h1, h2, h3⟩ := hh
  ⟨sv, xv, h1, h2.mono hp, h3.mono hp⟩
/-- The numbers of a header are such. -/
structure Hd.Ok (h : Hd) : Prop where
  v : 0 ≤ h.v ∧ h.v < 256
  ty : 0 ≤ h.ty ∧ h.ty < 256
  seq : 0 ≤ h.seq ∧ h.seq < 65536
  time : 0 ≤ h.time ∧ h.time < 4294967296
  ssrc : 0 ≤ h.ssrc ∧ h.ssrc < 4294967296
  srcs : ∀ x ∈ h.srcs, 0 ≤ x ∧ x < 4294967296
  prof : 0 ≤ h.prof ∧ h.prof < 65536
  exts : ∀ x ∈ h.exts, (0 ≤ x.id ∧ x.id < 256) ∧ IsB x.data
  padn : 0 ≤ h.padn ∧ h.padn < 256
end Go.Proofs.YtdmnflngafbobaaDoor
