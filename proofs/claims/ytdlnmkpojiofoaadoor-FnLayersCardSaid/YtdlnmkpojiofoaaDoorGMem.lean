/-
  Words for memory that the contracts of this seat share, over any program: what a call leaves as it was (Keep), a block that is known whole (Blk), a slice that reads as a list (Rd), a slice that the call itself made (Own), and append, conversions and make in these words. Conditions: those that stand in each theorem.
-/
import Derived.Test.YtdlnmkpojiofoaaDoorRows
import Derived.WalkKit
import Derived.WalkSpells
import Derived.Deep.AppendSrc
import Derived.Deep.Draws
import Derived.Laws.CopyOwn
import Derived.Laws.BitsAllLaws
namespace Go.Proofs.YtdlnmkpojiofoaaDoor
open Go.RowKit
set_option linter.unusedVariables false

/-- A fact kept from the walk's rules. -/
theorem hide {p : Prop} (h : p) : Hid p := h

theorem blk_add (a : Addr) (n : Nat) : (a.add n).block = a.block := by unfold Addr.add; split <;> rfl
theorem add_add' (a : Addr) (i j : Nat) : (a.add i).add j = a.add (i + j) := by
  unfold Addr.add
  by_cases hi : i = 0 <;> by_cases hj : j = 0 <;> simp [hi, hj, Nat.add_assoc]
theorem add_lit (b o n : Nat) : (⟨b, o, none⟩ : Addr).add n = ⟨b, o + n, none⟩ := by
  unfold Addr.add; split <;> simp_all

/-! ### what a call leaves as it was: all blocks that were there but those of S -/
structure Keep (w w' : World) (S : Nat → Prop) : Prop where
  os : w'.os = w.os
  tape : w'.tape = w.tape
  output : w'.output = w.output
  size : w.heap.size ≤ w'.heap.size
  block : ∀ k, k < w.heap.size → ¬ S k → w'.heap[k]? = w.heap[k]?

/-- Nothing that was there has turned. -/
def Nul : Nat → Prop := fun _ => False

section
variable {w w1 w2 : World} {S S' : Nat → Prop}
theorem Keep.refl (w : World) (S : Nat → Prop) : Keep w w S := ⟨rfl, rfl, rfl, Nat.le_refl _, fun _ _ _ => rfl⟩
theorem Keep.trans (h : Keep w w1 S) (k : Keep w1 w2 S') (hs : ∀ i, i < w.heap.size → S' i → S i) : Keep w w2 S :=
  ⟨k.os.trans h.os, k.tape.trans h.tape, k.output.trans h.output, Nat.le_trans h.size k.size, fun i hi hn => (k.block i (Nat.lt_of_lt_of_le hi h.size) (fun e => hn (hs i hi e))).trans (h.block i hi hn)⟩
theorem Keep.trans0 (h : Keep w w1 S) (k : Keep w1 w2 Nul) : Keep w w2 S := h.trans k fun _ _ e => e.elim
theorem Keep.mono (h : Keep w w1 S) (hs : ∀ i, i < w.heap.size → S i → S' i) : Keep w w1 S' := ⟨h.os, h.tape, h.output, h.size, fun i hi hn => h.block i hi fun e => hn (hs i hi e)⟩
theorem Keep.alloc (h : Keep w w1 S) (o : Obj) : Keep w (w1.alloc o) S :=
  ⟨h.os, h.tape, h.output, Nat.le_trans h.size (by simp), fun i hi hn => (Below.heap_alloc w1 o i (Nat.lt_of_lt_of_le hi h.size)).trans (h.block i hi hn)⟩
theorem Keep.drew (h : Keep w w1 S) : Keep w w1.drew S := ⟨h.os, h.tape, h.output, h.size, h.block⟩
theorem Keep.drewN (h : Keep w w1 S) (n : Nat) : Keep w (w1.drewN n) S := ⟨h.os, h.tape, h.output, h.size, h.block⟩
theorem Keep.set (h : Keep w w1 S) {p : Addr} (hp : p.block < w.heap.size → S p.block) (u : Value) : Keep w (w1.setCell p u) S :=
  ⟨h.os, h.tape, h.output, by simpa [World.setCell] using h.size, fun i hi hn => (Below.heap_setCell w1 p u i (fun e => hn (by subst e; exact hp hi))).trans (h.block i hi hn)⟩
theorem Keep.set1 (w : World) (g i : Nat) (u : Value) : Keep w (w.setCell ⟨g, i, none⟩ u) (· = g) := (Keep.refl w (· = g)).set (p := ⟨g, i, none⟩) (fun _ => rfl) u
theorem Keep.setg {g : Nat} (h : Keep w w1 S) (i : Nat) (hp : g < w.heap.size → S g) (u : Value) : Keep w (w1.setCell ⟨g, i, none⟩ u) S := h.set (p := ⟨g, i, none⟩) hp u
theorem Keep.nul (h : Keep w w1 Nul) (S : Nat → Prop) : Keep w w1 S := h.mono fun _ _ e => e.elim
theorem Keep.below (h : Keep w w1 S) (hs : ∀ i, i < w.heap.size → ¬ S i) : Below w.heap.size w w1 :=
  ⟨h.os, h.tape, h.output, h.size, fun k hk => h.block k hk (hs k hk)⟩
theorem Keep.below0 (h : Keep w w1 Nul) : Below w.heap.size w w1 := h.below fun _ _ e => e
theorem Keep.of_below (h : Below w.heap.size w w1) (S : Nat → Prop) : Keep w w1 S := ⟨h.os, h.tape, h.output, h.size, fun k hk _ => h.block k hk⟩
theorem Keep.cell (h : Keep w w1 S) {a : Addr} {v : Value} (hn : ¬ S a.block) (hc : w.cell? a = some v) : w1.cell? a = some v :=
  (World.cell?_of_block (h.block _ (block_lt_of_cell hc) hn)).trans hc
end

/-! ### a block that is known whole -/
def Blk (w : World) (g : Nat) (t : TypeId) (cs : Array Value) : Prop := w.heap[g]? = some (.cells cs t (0, 0))

section
variable {w w' : World} {g : Nat} {t : TypeId} {cs : Array Value} {S : Nat → Prop}
theorem Blk.lt (h : Blk w g t cs) : g < w.heap.size := (Array.getElem?_eq_some_iff.1 h).1
theorem Blk.cell (h : Blk w g t cs) (i : Nat) {v : Value} (hv : cs[i]? = some v) : w.cell? ⟨g, i, none⟩ = some v := (cell_of_row w g i cs t (0, 0) h).trans hv
theorem Blk.free (h : Blk w g t cs) (i : Nat) : w.frozen? ⟨g, i, none⟩ = false := frozen_of_row w g i cs t h
theorem Blk.new (w : World) (t : TypeId) (cs : Array Value) : Blk (w.alloc (.cells cs t)) w.heap.size t cs := heap_alloc_new w _
theorem Blk.keep (h : Blk w g t cs) (k : Keep w w' S) (hg : ¬ S g) : Blk w' g t cs := (k.block g h.lt hg).trans h
theorem Blk.alloc (h : Blk w g t cs) (o : Obj) : Blk (w.alloc o) g t cs := (Below.heap_alloc w o g h.lt).trans h
theorem Blk.drew (h : Blk w g t cs) : Blk w.drew g t cs := h
theorem Blk.set_ (h : Blk w g t cs) (i : Nat) (u : Value) : Blk (w.setCell ⟨g, i, none⟩ u) g t (cs.setIfInBounds i u) := by
  unfold Blk at h ⊢
  simp [World.setCell, Array.getElem?_modify, h]
theorem Blk.far (h : Blk w g t cs) {p : Addr} (hp : g ≠ p.block) (u : Value) : Blk (w.setCell p u) g t cs := (Below.heap_setCell w p u g hp).trans h
theorem Blk.ne_ {g' : Nat} {t' : TypeId} {cs' : Array Value} (h : Blk w g t cs) (h' : Blk w g' t' cs') (hne : t ≠ t') : g ≠ g' := by
  rintro rfl
  unfold Blk at h h'
  rw [h] at h'
  injection h' with h'
  injection h' with _ ht
  exact hne ht
end

/-! ### a slice that reads as a list of cells: n elements of sz cells each, in blocks of which p holds -/
def Rd (w : World) (p : Nat → Prop) (sz : Nat) (v : Value) (n : Nat) (xs : List Value) : Prop :=
  xs.length = n * sz ∧ ∃ A c, v = .slice A n c ∧ n ≤ c ∧ c ≤ maxLen ∧ (A = none → c = 0) ∧ ∀ j u, xs[j]? = some u → ∃ ad, A = some ad ∧ p ad.block ∧ w.cell? (ad.add j) = some u

section
variable {w w' : World} {p q : Nat → Prop} {sz n : Nat} {v : Value} {xs : List Value} {S : Nat → Prop} {A : Option Addr} {c : Nat}
theorem Rd.nil_ (w : World) (p : Nat → Prop) (sz : Nat) : Rd w p sz (.slice none 0 0) 0 [] :=
  ⟨by simp, none, 0, rfl, Nat.le_refl _, by simp [maxLen], fun _ => rfl, fun _ _ h => by simp at h⟩
theorem Rd.mono (h : Rd w p sz v n xs) (hp : ∀ k, k < w.heap.size → p k → q k) : Rd w q sz v n xs := by
  obtain ⟨hl, A, c, rfl, h1, h2, h3, h4⟩ := h
  refine ⟨hl, A, c, rfl, h1, h2, h3, fun j u hu => ?_⟩
  obtain ⟨ad, e, hb, hc⟩ := h4 j u hu
  have := block_lt_of_cell hc
  rw [blk_add] at this
  exact ⟨ad, e, hp _ this hb, hc⟩
theorem Rd.keep (h : Rd w p sz v n xs) (k : Keep w w' S) (hp : ∀ i, i < w.heap.size → p i → ¬ S i) : Rd w' p sz v n xs := by
  obtain ⟨hl, A, c, rfl, h1, h2, h3, h4⟩ := h
  refine ⟨hl, A, c, rfl, h1, h2, h3, fun j u hu => ?_⟩
  obtain ⟨ad, e, hb, hc⟩ := h4 j u hu
  have := block_lt_of_cell hc
  rw [blk_add] at this
  exact ⟨ad, e, hb, k.cell (by rw [blk_add]; exact hp _ this hb) hc⟩
theorem Rd.keep0 (h : Rd w p sz v n xs) (k : Keep w w' Nul) : Rd w' p sz v n xs := h.keep k fun _ _ _ e => e
theorem Rd.alloc (h : Rd w p sz v n xs) (o : Obj) : Rd (w.alloc o) p sz v n xs := h.keep0 ((Keep.refl w Nul).alloc o)
theorem Rd.drew (h : Rd w p sz v n xs) : Rd w.drew p sz v n xs := h
/-- One that holds something: its address, written out. -/
theorem Rd.lit (h : Rd w p sz v n xs) (hn : 0 < n * sz) : ∃ b o c, v = .slice (some ⟨b, o, none⟩) n c ∧ n ≤ c ∧ c ≤ maxLen ∧ p b ∧ b < w.heap.size ∧ ∀ j u, xs[j]? = some u → w.cell? ⟨b, o + j, none⟩ = some u := by
  obtain ⟨hl, A, c, rfl, h1, h2, h3, h4⟩ := h
  have hx : xs[0]? = some (xs[0]'(by omega)) := List.getElem?_eq_getElem (by omega)
  obtain ⟨ad, rfl, hb, hc⟩ := h4 0 _ hx
  obtain ⟨b, o, sp⟩ := ad
  have hs : sp = none := by simpa [Addr.add] using World.cell?_spot hc
  subst hs
  refine ⟨b, o, c, rfl, h1, h2, hb, ?_, fun j u hu => ?_⟩
  · have := block_lt_of_cell hc
    rwa [blk_add] at this
  · obtain ⟨ad', e, _, hc'⟩ := h4 j u hu
    injection e with e
    subst e
    rwa [add_lit] at hc'
theorem Rd.take (h : Rd w p sz (.slice A n c) n xs) (k : Nat) (hk : k ≤ n) : Rd w p sz (.slice A k c) k (xs.take (k * sz)) := by
  obtain ⟨hl, A', c', hv, h1, h2, h3, h4⟩ := h
  injection hv with e1 e2 e3
  subst e1 e3
  have hm : k * sz ≤ n * sz := Nat.mul_le_mul_right _ hk
  refine ⟨by rw [List.length_take, hl]; omega, A, c, rfl, by omega, h2, h3, fun j u hu => h4 j u ?_⟩
  rw [List.getElem?_take] at hu
  split at hu
  · exact hu
  · cases hu
theorem Rd.len (h : Rd w p 1 v n xs) : xs.length = n := by rw [h.1]; omega
theorem Rd.shape (h : Rd w p sz v n xs) : ∃ A c, v = .slice A n c := by
  obtain ⟨_, A, c, e, _⟩ := h
  exact ⟨A, c, e⟩
theorem Rd.le (h : Rd w p sz v n xs) : n ≤ 9223372036854775807 := by
  obtain ⟨_, A, c, _, h1, h2, _⟩ := h
  have : maxLen = 9223372036854775807 := rfl
  omega
end

/-! ### a slice that the call itself made: it starts at the head of a block from B on, which has no other element than its own -/
def Own (w : World) (B : Nat) (e : TypeId) (sz : Nat) (v : Value) (n : Nat) (xs : List Value) : Prop :=
  xs.length = n * sz ∧ ((v = .slice none 0 0 ∧ n = 0) ∨
    ∃ g cap cur fr, v = .slice (some ⟨g, 0, none⟩) n cap ∧ B ≤ g ∧ w.heap[g]? = some (.cells cur e fr) ∧ n ≤ cap ∧ cap ≤ maxLen ∧ cur.size = cap * sz ∧ (∀ j, j < cur.size → ¬ (fr.1 ≤ j ∧ j < fr.2)) ∧ cur.toList.take (n * sz) = xs)

section
variable {w w' : World} {B B' : Nat} {e : TypeId} {sz n : Nat} {v : Value} {xs : List Value} {S : Nat → Prop}
theorem Own.nil_ (w : World) (B : Nat) (e : TypeId) (sz : Nat) : Own w B e sz (.slice none 0 0) 0 [] := ⟨by simp, .inl ⟨rfl, rfl⟩⟩
theorem Own.keep (h : Own w B e sz v n xs) (k : Keep w w' S) (hs : ∀ g, v.ownBlock = some g → ¬ S g) : Own w' B e sz v n xs := by
  refine ⟨h.1, ?_⟩
  rcases h.2 with h0 | ⟨g, cap, cur, fr, rfl, h1, h2, h3⟩
  · exact .inl h0
  · exact .inr ⟨g, cap, cur, fr, rfl, h1, (k.block g (Array.getElem?_eq_some_iff.1 h2).1 (hs g rfl)).trans h2, h3⟩
theorem Own.keep0 (h : Own w B e sz v n xs) (k : Keep w w' Nul) : Own w' B e sz v n xs := h.keep k fun _ _ e => e
theorem Own.alloc (h : Own w B e sz v n xs) (o : Obj) : Own (w.alloc o) B e sz v n xs := h.keep0 ((Keep.refl w Nul).alloc o)
theorem Own.low (h : Own w B e sz v n xs) (hB : B' ≤ B) : Own w B' e sz v n xs := by
  refine ⟨h.1, ?_⟩
  rcases h.2 with h0 | ⟨g, cap, cur, fr, rfl, h1, h2⟩
  · exact .inl h0
  · exact .inr ⟨g, cap, cur, fr, rfl, by omega, h2⟩
theorem Own.at_ (h : Own w B e sz v n xs) : ∀ g, v.ownBlock = some g → B ≤ g ∧ g < w.heap.size ∧ ∃ cur fr, w.heap[g]? = some (.cells cur e fr) := by
  intro g hg
  rcases h.2 with ⟨rfl, _⟩ | ⟨g', cap, cur, fr, rfl, h1, h2, _⟩
  · simp [Value.ownBlock] at hg
  · simp [Value.ownBlock] at hg
    subst hg
    exact ⟨h1, (Array.getElem?_eq_some_iff.1 h2).1, cur, fr, h2⟩
theorem Own.rd (h : Own w B e sz v n xs) : Rd w (fun k => v.ownBlock = some k) sz v n xs := by
  refine ⟨h.1, ?_⟩
  rcases h.2 with ⟨rfl, rfl⟩ | ⟨g, cap, cur, fr, rfl, h1, h2, h3, h4, h5, h6, h7⟩
  · refine ⟨none, 0, rfl, Nat.le_refl _, by simp [maxLen], fun _ => rfl, fun j u hu => ?_⟩
    have h1 := h.1
    simp at h1
    subst h1
    simp at hu
  · refine ⟨_, cap, rfl, h3, h4, fun h => (by cases h), fun j u hu => ⟨_, rfl, rfl, ?_⟩⟩
    rw [add_lit, Nat.zero_add, cell_of_row w g j cur e fr h2]
    rw [← h7, List.getElem?_take] at hu
    split at hu
    · simpa using hu
    · cases hu
theorem Own.rdB (h : Own w B e sz v n xs) : Rd w (B ≤ ·) sz v n xs := h.rd.mono fun k _ hk => (h.at_ k hk).1
/-- Its block is no block whose elements are of another type. -/
theorem Own.ne_ {g : Nat} {t : TypeId} {cs : Array Value} (h : Own w B e sz v n xs) (hg : Blk w g t cs) (hne : e ≠ t) : v.ownBlock ≠ some g := by
  intro he
  obtain ⟨_, _, cur, fr, h2⟩ := h.at_ g he
  unfold Blk at hg
  rw [hg] at h2
  injection h2 with h2
  injection h2 with _ ht
  exact hne ht.symm
theorem Own.ne_own {B' : Nat} {e' : TypeId} {sz' n' : Nat} {v' : Value} {xs' : List Value} (h : Own w B e sz v n xs) (h' : Own w B' e' sz' v' n' xs') (hne : e ≠ e') {g : Nat} (hg : v.ownBlock = some g) : v'.ownBlock ≠ some g := by
  intro he
  obtain ⟨_, _, cur, fr, h2⟩ := h.at_ g hg
  obtain ⟨_, _, cur', fr', h3⟩ := h'.at_ g he
  rw [h2] at h3
  injection h3 with h3
  injection h3 with _ ht
  exact hne ht
theorem Own.of_blk {g n cap : Nat} {cs : Array Value} (h : Blk w g e cs) (hB : B ≤ g) (hn : n ≤ cap) (hm : cap ≤ maxLen) (hs : cs.size = cap * sz) : Own w B e sz (.slice (some ⟨g, 0, none⟩) n cap) n (cs.toList.take (n * sz)) :=
  ⟨by have : n * sz ≤ cap * sz := Nat.mul_le_mul_right _ hn; simp; omega, .inr ⟨g, cap, cs, (0, 0), rfl, hB, h, hn, hm, hs, fun j _ => by simp, rfl⟩⟩
theorem Own.of_lit (w : World) (cs : Array Value) (n : Nat) (hm : n ≤ maxLen) (hs : cs.size = n * sz) : Own (w.alloc (.cells cs e)) w.heap.size e sz (.slice (some ⟨w.heap.size, 0, none⟩) n n) n cs.toList :=
  ⟨by simpa using hs, .inr ⟨w.heap.size, n, cs, (0, 0), rfl, Nat.le_refl _, heap_alloc_new w _, Nat.le_refl _, hm, hs, fun j _ => by simp, by rw [List.take_of_length_le (by simp; omega)]⟩⟩
end

/-! ### append -/
theorem heap_setCells {b : Nat} {t : TypeId} {fr : Nat × Nat} : ∀ (vs : List Value) (o : Nat) (cur : Array Value) (w : World), w.heap[b]? = some (.cells cur t fr) → o + vs.length ≤ cur.size →
    (w.setCells b o vs).heap[b]? = some (.cells (cur.toList.take o ++ vs ++ cur.toList.drop (o + vs.length)).toArray t fr)
  | [], o, cur, w, h, _ => by simp [World.setCells, h]
  | v :: r, o, cur, w, h, hl => by
    have h1 : (w.setCell ⟨b, o, none⟩ v).heap[b]? = some (.cells (cur.setIfInBounds o v) t fr) := by simp [World.setCell, Array.getElem?_modify, h]
    rw [World.setCells, heap_setCells r (o + 1) _ _ h1 (by simp at hl ⊢; omega)]
    congr 3
    simp only [Array.toList_setIfInBounds, List.length_cons]
    have ho : o < cur.toList.length := by simp at hl ⊢; omega
    rw [List.take_set, List.drop_set_of_lt (by omega)]
    have : (cur.toList.take (o + 1)).set o v = cur.toList.take o ++ [v] := by
      have hm : min o cur.size = o := Nat.min_eq_left (by simp at ho; omega)
      rw [List.take_succ_eq_append_getElem ho, List.set_append_right _ _ (by simp; omega)]
      simp [hm]
    rw [this, show o + 1 + r.length = o + (r.length + 1) by omega]
    simp
theorem size_setCells {b : Nat} : ∀ (vs : List Value) (o : Nat) (w : World), (w.setCells b o vs).heap.size = w.heap.size
  | [], _, _ => rfl
  | v :: r, o, w => by rw [World.setCells, size_setCells r]; simp
theorem keep_setCells {b : Nat} : ∀ (vs : List Value) (o : Nat) (w : World), Keep w (w.setCells b o vs) (· = b)
  | [], _, w => Keep.refl w _
  | v :: r, o, w => ((Keep.refl w (· = b)).set (p := ⟨b, o, none⟩) (fun _ => rfl) v).trans (keep_setCells r (o + 1) _) fun _ _ e => e

section
variable {P : Program} (w : World)
theorem src_of_rd {sz : Nat} {tx e' : TypeId} (hk : P.underlying tx = some (.slice e')) {p : Nat → Prop} {y : Value} {m : Nat} {ys : List Value} (h : Rd w p sz y m ys) (h1 : ∀ u ∈ ys, u.oneCell' = true) : Src P sz tx y m ys w := by
  obtain ⟨hl, A, c, rfl, h2, h3, h4, h5⟩ := h
  rcases A with _ | ad
  · have hm : m = 0 := by have := h4 rfl; omega
    subst hm
    have : ys = [] := List.eq_nil_of_length_eq_zero (by simpa using hl)
    subst this
    exact Src.ofNil w hk c
  · refine Src.ofSlice w hk ad m c ys hl (fun j u hu => ?_) h1
    obtain ⟨ad', e, _, hc⟩ := h5 j u hu
    injection e with e
    subst e
    exact hc

theorem run_app {t tx ty e e' : TypeId} {i : TypeInfo} {z : Value} {sz bytes : Nat} (ht : P.underlying t = some (.slice e)) (hi : P.info? e = some i) (hz : i.zero = some z) (hsize : i.size = sz) (hby : i.bytes = bytes) (hzs : z.cells.size = sz) (hsz : 0 < sz)
    {B : Nat} {v : Value} {n : Nat} {xs : List Value} (hown : Own w B e sz v n xs) {y : Value} {m : Nat} {ys : List Value} (hs : Src P sz tx y m ys w)
    (h63 : n + m ≤ maxLen) (hbytes : (n + m) * bytes ≤ 140737488355328) (hB : B ≤ w.heap.size) :
    ∃ v' w', (Builtin.append_ #[t, tx] ty #[v, y]).run P w = .ok v' w' ∧ Own w' B e sz v' (n + m) (xs ++ ys) ∧ Keep w w' (fun k => v.ownBlock = some k) ∧
      (v'.ownBlock = v.ownBlock ∨ v'.ownBlock = some w.heap.size) ∧ w'.heap.size ≤ w.heap.size + 1 ∧ Own w' B e sz v n xs := by
  subst hsize
  subst hby
  have hml : maxLen = 9223372036854775807 := rfl
  have hlen : (xs ++ ys).length = (n + m) * i.size := by rw [List.length_append, hown.1, hs.newsLen, Nat.add_mul]
  -- no room: a new row
  have grow : ∀ (A : Option Addr) (cap : Nat), v = .slice A n cap → (Builtin.firstCells i.size n v).run P w.drew = .ok xs.toArray w.drew → cap < n + m →
      ∃ v' w', (Builtin.append_ #[t, tx] ty #[v, y]).run P w = .ok v' w' ∧ Own w' B e i.size v' (n + m) (xs ++ ys) ∧ Keep w w' (fun k => v.ownBlock = some k) ∧
        (v'.ownBlock = v.ownBlock ∨ v'.ownBlock = some w.heap.size) ∧ w'.heap.size ≤ w.heap.size + 1 ∧ Own w' B e i.size v n xs := by
    rintro A cap rfl hf hlt
    have hr := run_append_grow_src (P := P) w t tx ty e i z ht hi hz A n cap xs hf y m ys hs hlt (by omega) (growslice_fits (by omega) hbytes)
    have hge := grownCap_ge w (n + m) cap e
    have hcm := grownCap_le_maxLen w (n + m) cap e h63
    refine ⟨_, _, hr, ⟨hlen, .inr ⟨w.heap.size, _, _, (0, 0), rfl, hB, heap_alloc_new w.drew _, hge, hcm, ?_, fun j _ => by simp, ?_⟩⟩, ((Keep.refl w _).drew).alloc _, .inr rfl, by simp, hown.keep0 (((Keep.refl w Nul).drew).alloc _)⟩
    · simp only [Array.size_append, List.size_toArray, size_zeroCells, hzs, hlen, ← Nat.add_mul]
      congr 1
      omega
    · simp only [Array.toList_append]
      rw [← hlen]
      exact List.take_left
  rcases hown.2 with ⟨rfl, rfl⟩ | ⟨g, cap, cur, fr, rfl, hBg, hg, hnc, hcm, hcs, hfr, htake⟩
  · have hx : xs = [] := List.eq_nil_of_length_eq_zero (by simpa using hown.1)
    subst hx
    by_cases hm : m = 0
    · subst hm
      have hn : ys = [] := List.eq_nil_of_length_eq_zero (by simpa using hs.newsLen)
      subst hn
      refine ⟨.slice none 0 0, w, ?_, Own.nil_ w B e i.size, Keep.refl w _, .inl rfl, by omega, Own.nil_ w B e i.size⟩
      rcases hs.kind with ⟨e', hk⟩ | hk <;> simp [Builtin.append_, run_underlying ht, run_underlying hk, sizeOf, typeInfo, hi, hs.len, hs.cells]
    · exact grow none 0 rfl (run_firstCells_none w.drew i.size 0 0 0) (by omega)
  · by_cases hroom : n + m ≤ cap
    · have hfit : n * i.size + ys.length ≤ cur.size := by rw [hs.newsLen, hcs, ← Nat.add_mul]; exact Nat.mul_le_mul_right _ hroom
      have hr := run_append_room_src (P := P) w t tx ty e i ht hi g 0 n cap y m ys hs hroom
        (fun j hj => by
          rw [cell_of_row w g _ cur e fr hg]
          have : 0 + n * i.size + j < cur.size := by omega
          rw [Array.getElem?_eq_getElem this]; rfl)
        (fun j hj => by
          have h := hfr (0 + n * i.size + j) (by omega)
          obtain ⟨lo, hi'⟩ := fr
          unfold World.frozen?
          rw [hg]
          simp only [Bool.and_eq_false_iff, decide_eq_false_iff_not] at h ⊢
          omega)
      have hh := heap_setCells (b := g) ys (0 + n * i.size) cur w hg (by omega)
      refine ⟨_, _, hr, ⟨hlen, .inr ⟨g, cap, _, fr, rfl, hBg, hh, hroom, hcm, ?_, ?_, ?_⟩⟩, (keep_setCells ys _ w).mono fun k _ e => (by rw [e]; rfl), .inl rfl, ?_, ⟨hown.1, .inr ⟨g, cap, _, fr, rfl, hBg, hh, hnc, hcm, ?_, ?_, ?_⟩⟩⟩
      · simp only [List.size_toArray, List.length_append, List.length_take, List.length_drop, Array.length_toList]
        omega
      · intro j hj
        refine hfr j ?_
        simp only [List.size_toArray, List.length_append, List.length_take, List.length_drop, Array.length_toList] at hj
        omega
      · simp only [Nat.zero_add]
        rw [htake, ← hlen]
        exact List.take_left
      · rw [size_setCells]; omega
      · simp only [List.size_toArray, List.length_append, List.length_take, List.length_drop, Array.length_toList]
        omega
      · intro j hj
        refine hfr j ?_
        simp only [List.size_toArray, List.length_append, List.length_take, List.length_drop, Array.length_toList] at hj
        omega
      · simp only [Nat.zero_add]
        rw [htake, List.append_assoc, List.take_left' hown.1]
    · refine grow (some ⟨g, 0, none⟩) cap rfl ?_ (by omega)
      have hr := hown.rd
      refine run_firstCells_some w.drew i.size n ⟨g, 0, none⟩ n cap xs hown.1 fun j u hu => ?_
      obtain ⟨_, A, c, hv, _, _, _, h5⟩ := hr
      obtain ⟨ad, e1, _, hc⟩ := h5 j u hu
      injection hv with hv
      rw [e1] at hv
      injection hv with hv
      subst hv
      exact hc
end

/-- A slice type t over the element type e: what the table of types says of e. -/
structure ET (P : Program) (t e : TypeId) (z : Value) (sz bytes : Nat) : Prop where
  ht : P.underlying t = some (.slice e)
  hi : (P.info? e).map (fun i => (i.zero, i.size, i.bytes)) = some (some z, sz, bytes)
  hzs : z.cells.size = sz
  hsz : 0 < sz

section
variable {P : Program} {w : World} {ops : Array Oper} {rest : List Oper} {o : Oper} {a : Act} {Q : Exit → Act → World → Prop}
theorem wpList_run {w' : World} {v : Value} (hgd : o.guard = none) (hr : (execOp a.eval o).run P w = .ok (.value v) w') (h : wpList P ops Q rest (a.put o.dst v) w') : wpList P ops Q (o :: rest) a w :=
  wpList_plain hgd fun K hK => by unfold Oper.wp; rw [hr]; exact hK _ _ h

theorem run_app' {t tx e : TypeId} {z : Value} {sz bytes : Nat} (T : ET P t e z sz bytes) (ty : TypeId)
    {B : Nat} {v : Value} {n : Nat} {xs : List Value} (hown : Own w B e sz v n xs) {y : Value} {m : Nat} {ys : List Value} (hs : Src P sz tx y m ys w)
    (h63 : n + m ≤ maxLen) (hbytes : (n + m) * bytes ≤ 140737488355328) (hB : B ≤ w.heap.size) :
    ∃ v' w', (Builtin.append_ #[t, tx] ty #[v, y]).run P w = .ok v' w' ∧ Own w' B e sz v' (n + m) (xs ++ ys) ∧ Keep w w' (fun k => v.ownBlock = some k) ∧
      (v'.ownBlock = v.ownBlock ∨ v'.ownBlock = some w.heap.size) ∧ w'.heap.size ≤ w.heap.size + 1 ∧ Own w' B e sz v n xs := by
  obtain ⟨ht, hi, hzs, hsz⟩ := T
  cases hI : P.info? e with
  | none => rw [hI] at hi; cases hi
  | some i =>
    rw [hI] at hi
    simp at hi
    exact run_app w (e' := e) ht hI hi.1 hi.2.1 hi.2.2 hzs hsz hown hs h63 hbytes hB

theorem wpList_app {t tx e : TypeId} {z : Value} {sz bytes : Nat} (T : ET P t e z sz bytes) (hgd : o.guard = none) (s x : Operand)
    (ho : o.op = .call { callee := .builtin .append, args := #[s, x], argTypes := #[t, tx] })
    {B : Nat} {v : Value} {n : Nat} {xs : List Value} (hown : Own w B e sz v n xs) (hv : a.eval s = v) {y : Value} {m : Nat} {ys : List Value} (hs : Src P sz tx y m ys w) (hy : a.eval x = y)
    (h63 : n + m ≤ maxLen) (hbytes : (n + m) * bytes ≤ 140737488355328) (hB : B ≤ w.heap.size)
    (h : ∀ v' w', Own w' B e sz v' (n + m) (xs ++ ys) → Keep w w' (fun k => v.ownBlock = some k) → (v'.ownBlock = v.ownBlock ∨ v'.ownBlock = some w.heap.size) → w'.heap.size ≤ w.heap.size + 1 → Own w' B e sz v n xs → wpList P ops Q rest (a.put o.dst v') w') :
    wpList P ops Q (o :: rest) a w := by
  obtain ⟨v', w', hr, h1, h2, h3, h4, h5⟩ := run_app' (P := P) T o.type hown hs h63 hbytes hB
  refine wpList_run hgd ?_ (h v' w' h1 h2 h3 h4 h5)
  unfold execOp
  simp only [ho, resolve, invoke, builtin, Sem.run_bind, Sem.run_pure, Result.andThen_ok, List.map_toArray, List.map_cons, List.map_nil, hv, hy, hr]
end

/-! ### bytes -/
/-- Numbers as cells of bytes. -/
def B8 (xs : List Int) : List Value := xs.map (Value.int .u8)
def IsB (xs : List Int) : Prop := ∀ x ∈ xs, 0 ≤ x ∧ x < 256
/-- The string of these bytes. -/
def bstr (xs : List Int) : ByteArray := ⟨(xs.map fun x => UInt8.ofNat x.toNat).toArray⟩

theorem B8_one (xs : List Int) : ∀ u ∈ B8 xs, u.oneCell' = true := by
  intro u hu
  obtain ⟨x, _, rfl⟩ := List.mem_map.1 hu
  rfl
theorem B8_get {xs : List Int} {j : Nat} {y : Int} (h : xs[j]? = some y) : (B8 xs)[j]? = some (.int .u8 y) := by simp [B8, h]
theorem B8_len (xs : List Int) : (B8 xs).length = xs.length := by simp [B8]
theorem B8_app (xs ys : List Int) : B8 (xs ++ ys) = B8 xs ++ B8 ys := by simp [B8]
theorem bstr_size (xs : List Int) : (bstr xs).size = xs.length := by simp [bstr, ByteArray.size]
theorem bstr_cells {xs : List Int} (hb : IsB xs) : (bstr xs).data.toList.map (fun b => Value.int .u8 (b.toNat : Int)) = B8 xs := by
  simp only [bstr, B8, List.map_map]
  apply List.map_congr_left
  intro x hx
  obtain ⟨h0, h1⟩ := hb x hx
  have : (UInt8.ofNat x.toNat).toNat = x.toNat := by
    rw [UInt8.toNat_ofNat']; omega
  simp [this, Int.toNat_of_nonneg h0]

section
variable {P : Program} {w : World}
theorem run_str {tb ts e : TypeId} (hb : P.underlying tb = some (.slice e)) (he : P.underlying e = some (.int .u8)) (hs : P.underlying ts = some .string)
    {p : Nat → Prop} {v : Value} {n : Nat} {xs : List Int} (h : Rd w p 1 v n (B8 xs)) (hI : IsB xs) :
    (convert tb ts v).run P w = .ok (.string (bstr xs)) w := by
  have hn : xs.length = n := by rw [← B8_len, h.len]
  obtain ⟨hl, A, c, rfl, h2, h3, h4, h5⟩ := h
  rcases A with _ | ad
  · have hm : n = 0 := by have := h4 rfl; omega
    subst hm
    have : xs = [] := List.eq_nil_of_length_eq_zero hn
    subst this
    rw [run_convert_bytes_string w tb ts e none 0 c hb he hs]
    simp [Conv.bytesToString, bstr]
    rfl
  · subst hn
    have hc : ∀ j (hj : j < (bstr xs).data.toList.length), w.cell? (ad.add j) = some (.int .u8 ((bstr xs).data.toList[j].toNat : Int)) := by
      intro j hj
      have hj' : (B8 xs)[j]? = some (.int .u8 ((bstr xs).data.toList[j].toNat : Int)) := by
        rw [← bstr_cells hI, List.getElem?_map, List.getElem?_eq_getElem hj]
        rfl
      obtain ⟨ad', e1, _, hc⟩ := h5 j _ hj'
      injection e1 with e1
      subst e1
      exact hc
    have hr := run_convert_bytes_back (P := P) w tb ts e ad c (bstr xs).data.toList hb he hs hc
    simp only [Array.toArray_toList] at hr
    rw [show (bstr xs).data.toList.length = xs.length by simp [bstr]] at hr
    exact hr

theorem run_bytes {tb ts e : TypeId} (hb : P.underlying tb = some (.slice e)) (he : P.underlying e = some (.int .u8)) (hs : P.underlying ts = some .string)
    (xs : List Int) (hI : IsB xs) (hm : xs.length ≤ maxLen) (w : World) :
    ∃ cap w', xs.length ≤ cap ∧ (convert ts tb (.string (bstr xs))).run P w = .ok (.slice (some ⟨w.heap.size, 0, none⟩) xs.length cap) w' ∧ Own w' w.heap.size e 1 (.slice (some ⟨w.heap.size, 0, none⟩) xs.length cap) xs.length (B8 xs) ∧ Keep w w' Nul ∧ w'.heap.size = w.heap.size + 1 := by
  have hge := grownCap_ge w (bstr xs).size 0 e
  have hcm := grownCap_le_maxLen w (bstr xs).size 0 e (by rw [bstr_size]; exact hm)
  have hr := run_bytes_of_string (P := P) w ts tb e (bstr xs) hs hb he
  generalize grownCap w (bstr xs).size 0 e = cap at hge hcm hr
  have hz : (bstr xs).size = xs.length := bstr_size xs
  have hsz : (bytesRow (bstr xs) cap).size = cap * 1 := by
    unfold bytesRow
    simp
    have : (bstr xs).data.size = (bstr xs).size := rfl
    omega
  rw [hz] at hr hge
  refine ⟨cap, _, hge, hr, ⟨by simp [B8_len], .inr ⟨w.heap.size, cap, _, _, rfl, Nat.le_refl _, heap_alloc_new w.drew _, hge, hcm, hsz, fun j hj => by simp; omega, ?_⟩⟩, ((Keep.refl w Nul).drew).alloc _, by simp⟩
  rw [← bstr_cells hI, Nat.mul_one]
  unfold bytesRow
  simp only [Array.toList_append, Array.toList_map]
  rw [List.take_append_of_le_length (by simp [bstr])]
  apply List.take_of_length_le
  simp [bstr]
end
end Go.Proofs.YtdlnmkpojiofoaaDoor
namespace Go.Proofs.YtdlnmkpojiofoaaDoor
set_option linter.unusedVariables false

theorem or64 (i : Nat) (a b : Int) (h0 : 0 ≤ a) (ha : a < 18446744073709551616) (hb0 : 0 ≤ b) (hb : b < 2 ^ i) (hi : (2 : Int) ^ i ≤ 18446744073709551616) (hd : a % 2 ^ i = 0) : bits .or .u64 a b = a + b := by
  obtain ⟨x, rfl⟩ := Int.eq_ofNat_of_zero_le h0
  obtain ⟨y, rfl⟩ := Int.eq_ofNat_of_zero_le hb0
  rw [u64_or_nat x y (by omega) (by omega), nat_join i x y (by exact_mod_cast hd) (by exact_mod_cast hb)]
  omega
theorem or32 (i : Nat) (a b : Int) (h0 : 0 ≤ a) (ha : a < 4294967296) (hb0 : 0 ≤ b) (hb : b < 2 ^ i) (hi : (2 : Int) ^ i ≤ 4294967296) (hd : a % 2 ^ i = 0) : bits .or .u32 a b = a + b := by
  obtain ⟨x, rfl⟩ := Int.eq_ofNat_of_zero_le h0
  obtain ⟨y, rfl⟩ := Int.eq_ofNat_of_zero_le hb0
  rw [u32_or_nat x y (by omega) (by omega), nat_join i x y (by exact_mod_cast hd) (by exact_mod_cast hb)]
  omega
theorem or16 (i : Nat) (a b : Int) (h0 : 0 ≤ a) (ha : a < 65536) (hb0 : 0 ≤ b) (hb : b < 2 ^ i) (hi : (2 : Int) ^ i ≤ 65536) (hd : a % 2 ^ i = 0) : bits .or .u16 a b = a + b := by
  obtain ⟨x, rfl⟩ := Int.eq_ofNat_of_zero_le h0
  obtain ⟨y, rfl⟩ := Int.eq_ofNat_of_zero_le hb0
  rw [u16_or_nat x y (by omega) (by omega), nat_join i x y (by exact_mod_cast hd) (by exact_mod_cast hb)]
  omega
theorem or8 (i : Nat) (a b : Int) (h0 : 0 ≤ a) (ha : a < 256) (hb0 : 0 ≤ b) (hb : b < 2 ^ i) (hi : (2 : Int) ^ i ≤ 256) (hd : a % 2 ^ i = 0) : bits .or .u8 a b = a + b := by
  obtain ⟨x, rfl⟩ := Int.eq_ofNat_of_zero_le h0
  obtain ⟨y, rfl⟩ := Int.eq_ofNat_of_zero_le hb0
  rw [u8_or_nat x y (by omega) (by omega), nat_join i x y (by exact_mod_cast hd) (by exact_mod_cast hb)]
  omega
/-- '|' with the lower part ahead. -/
theorem or64' (i : Nat) (a b : Int) (h0 : 0 ≤ a) (ha : a < 2 ^ i) (hi : (2 : Int) ^ i ≤ 18446744073709551616) (hb0 : 0 ≤ b) (hb : b < 18446744073709551616) (hd : b % 2 ^ i = 0) : bits .or .u64 a b = a + b := by
  obtain ⟨x, rfl⟩ := Int.eq_ofNat_of_zero_le h0
  obtain ⟨y, rfl⟩ := Int.eq_ofNat_of_zero_le hb0
  rw [u64_or_nat x y (by omega) (by omega), Nat.or_comm, nat_join i y x (by exact_mod_cast hd) (by exact_mod_cast ha)]
  omega
theorem or32' (i : Nat) (a b : Int) (h0 : 0 ≤ a) (ha : a < 2 ^ i) (hi : (2 : Int) ^ i ≤ 4294967296) (hb0 : 0 ≤ b) (hb : b < 4294967296) (hd : b % 2 ^ i = 0) : bits .or .u32 a b = a + b := by
  obtain ⟨x, rfl⟩ := Int.eq_ofNat_of_zero_le h0
  obtain ⟨y, rfl⟩ := Int.eq_ofNat_of_zero_le hb0
  rw [u32_or_nat x y (by omega) (by omega), Nat.or_comm, nat_join i y x (by exact_mod_cast hd) (by exact_mod_cast ha)]
  omega
theorem or16' (i : Nat) (a b : Int) (h0 : 0 ≤ a) (ha : a < 2 ^ i) (hi : (2 : Int) ^ i ≤ 65536) (hb0 : 0 ≤ b) (hb : b < 65536) (hd : b % 2 ^ i = 0) : bits .or .u16 a b = a + b := by
  obtain ⟨x, rfl⟩ := Int.eq_ofNat_of_zero_le h0
  obtain ⟨y, rfl⟩ := Int.eq_ofNat_of_zero_le hb0
  rw [u16_or_nat x y (by omega) (by omega), Nat.or_comm, nat_join i y x (by exact_mod_cast hd) (by exact_mod_cast ha)]
  omega
theorem or8' (i : Nat) (a b : Int) (h0 : 0 ≤ a) (ha : a < 2 ^ i) (hi : (2 : Int) ^ i ≤ 256) (hb0 : 0 ≤ b) (hb : b < 256) (hd : b % 2 ^ i = 0) : bits .or .u8 a b = a + b := by
  obtain ⟨x, rfl⟩ := Int.eq_ofNat_of_zero_le h0
  obtain ⟨y, rfl⟩ := Int.eq_ofNat_of_zero_le hb0
  rw [u8_or_nat x y (by omega) (by omega), Nat.or_comm, nat_join i y x (by exact_mod_cast hd) (by exact_mod_cast ha)]
  omega
theorem nat_and_low (i x : Nat) : x &&& (2 ^ i - 1) = x % 2 ^ i := Nat.and_two_pow_sub_one_eq_mod x i
/-- The mask of the bits from j on, i of them. -/
theorem nat_and_mid (i j x : Nat) : x &&& ((2 ^ i - 1) * 2 ^ j) = x / 2 ^ j % 2 ^ i * 2 ^ j := by
  have h : x &&& ((2 ^ i - 1) * 2 ^ j) = (x >>> j &&& (2 ^ i - 1)) <<< j := by
    rw [← Nat.shiftLeft_eq (2 ^ i - 1) j]
    apply Nat.eq_of_testBit_eq
    intro k
    simp only [Nat.testBit_and, Nat.testBit_shiftLeft, Nat.testBit_shiftRight]
    by_cases hj : j ≤ k
    · have : j + (k - j) = k := by omega
      simp [hj, this]
    · simp [hj]
  rw [h, nat_and_low, Nat.shiftLeft_eq, Nat.shiftRight_eq_div_pow]
theorem and64 (i : Nat) (a : Int) (m : Nat) (h0 : 0 ≤ a) (ha : a < 18446744073709551616) (hm : m = 2 ^ i - 1) (hm' : m < 18446744073709551616) : bits .and .u64 a (m : Int) = a % 2 ^ i := by
  obtain ⟨x, rfl⟩ := Int.eq_ofNat_of_zero_le h0
  rw [u64_and_nat x m (by omega) hm', hm, nat_and_low]
  exact_mod_cast rfl
theorem and64m (i j : Nat) (a : Int) (m : Nat) (h0 : 0 ≤ a) (ha : a < 18446744073709551616) (hm : m = (2 ^ i - 1) * 2 ^ j) (hm' : m < 18446744073709551616) : bits .and .u64 a (m : Int) = a / 2 ^ j % 2 ^ i * 2 ^ j := by
  obtain ⟨x, rfl⟩ := Int.eq_ofNat_of_zero_le h0
  rw [u64_and_nat x m (by omega) hm', hm, nat_and_mid]
  exact_mod_cast rfl
theorem and16 (i : Nat) (a : Int) (m : Nat) (h0 : 0 ≤ a) (ha : a < 65536) (hm : m = 2 ^ i - 1) (hm' : m < 65536) : bits .and .u16 a (m : Int) = a % 2 ^ i := by
  obtain ⟨x, rfl⟩ := Int.eq_ofNat_of_zero_le h0
  rw [u16_and_nat x m (by omega) hm', hm, nat_and_low]
  exact_mod_cast rfl
theorem and8 (i : Nat) (a : Int) (m : Nat) (h0 : 0 ≤ a) (ha : a < 256) (hm : m = 2 ^ i - 1) (hm' : m < 256) : bits .and .u8 a (m : Int) = a % 2 ^ i := by
  obtain ⟨x, rfl⟩ := Int.eq_ofNat_of_zero_le h0
  rw [u8_and_nat x m (by omega) hm', hm, nat_and_low]
  exact_mod_cast rfl
theorem and8m (i j : Nat) (a : Int) (m : Nat) (h0 : 0 ≤ a) (ha : a < 256) (hm : m = (2 ^ i - 1) * 2 ^ j) (hm' : m < 256) : bits .and .u8 a (m : Int) = a / 2 ^ j % 2 ^ i * 2 ^ j := by
  obtain ⟨x, rfl⟩ := Int.eq_ofNat_of_zero_le h0
  rw [u8_and_nat x m (by omega) hm', hm, nat_and_mid]
  exact_mod_cast rfl
end Go.Proofs.YtdlnmkpojiofoaaDoor
namespace Go.Proofs.YtdlnmkpojiofoaaDoor
open Go.RowKit
set_option linter.unusedVariables false
set_option maxRecDepth 20000

structure Ex where
  id : Int
  data : List Int
structure Hd where
  v : Int
  pad : Bool
  ext : Bool
  mark : Bool
  ty : Int
  seq : Int
  time : Int
  ssrc : Int
  srcs : List Int
  prof : Int
  exts : List Ex
  padn : Int

def U32 (xs : List Int) : List Value := xs.map (Value.int .u32)
theorem U32_one (xs : List Int) : ∀ u ∈ U32 xs, u.oneCell' = true := by
  intro u hu
  obtain ⟨x, _, rfl⟩ := List.mem_map.1 hu
  rfl

/-- The cells of the extensions, of which the slices of their bytes are given. -/
def xcells : List Ex → List Value → List Value
  | x :: xs, d :: ds => .int .u8 x.id :: d :: xcells xs ds
  | _, _ => []
theorem xcells_len : ∀ (xs : List Ex) (ds : List Value), ds.length = xs.length → (xcells xs ds).length = xs.length * 2
  | [], [], _ => rfl
  | x :: xs, d :: ds, h => by simp [xcells, xcells_len xs ds (by simpa using h)]; omega
  | [], _ :: _, h => by simp at h
  | _ :: _, [], h => by simp at h
theorem xcells_get : ∀ (xs : List Ex) (ds : List Value) (k : Nat) {x : Ex} {d : Value}, xs[k]? = some x → ds[k]? = some d → (xcells xs ds)[2 * k]? = some (.int .u8 x.id) ∧ (xcells xs ds)[2 * k + 1]? = some d
  | x :: xs, d :: ds, 0, _, _, h, k => by simp at h k; subst h k; simp [xcells]
  | x :: xs, d :: ds, k + 1, _, _, h, h' => by
    have := xcells_get xs ds k (by simpa using h) (by simpa using h')
    simpa [xcells, Nat.mul_add] using this
  | [], _, _, _, _, h, _ => by simp at h
  | _ :: _, [], _, _, _, _, h => by simp at h
theorem xcells_snoc : ∀ (xs : List Ex) (ds : List Value) (x : Ex) (d : Value), ds.length = xs.length → xcells (xs ++ [x]) (ds ++ [d]) = xcells xs ds ++ [.int .u8 x.id, d]
  | [], [], _, _, _ => rfl
  | x :: xs, d :: ds, y, e, h => by simp [xcells, xcells_snoc xs ds y e (by simpa using h)]
  | [], _ :: _, _, _, h => by simp at h
  | _ :: _, [], _, _, h => by simp at h

/-- The slices of the extensions' bytes read as their bytes. -/
def Ds (w : World) (p : Nat → Prop) (xs : List Ex) (ds : List Value) : Prop :=
  ds.length = xs.length ∧ ∀ (k : Nat) (x : Ex) (d : Value), xs[k]? = some x → ds[k]? = some d → Rd w p 1 d x.data.length (B8 x.data)
/-- A slice of extensions. -/
def XR (w : World) (p : Nat → Prop) (v : Value) (xs : List Ex) : Prop :=
  ∃ ds, Ds w p xs ds ∧ Rd w p 2 v xs.length (xcells xs ds)

theorem Ds.keep {w w' : World} {p S : Nat → Prop} {xs : List Ex} {ds : List Value} (h : Ds w p xs ds) (k : Keep w w' S) (hp : ∀ i, i < w.heap.size → p i → ¬ S i) : Ds w' p xs ds :=
  ⟨h.1, fun j x d h1 h2 => (h.2 j x d h1 h2).keep k hp⟩
theorem Ds.keep0 {w w' : World} {p : Nat → Prop} {xs : List Ex} {ds : List Value} (h : Ds w p xs ds) (k : Keep w w' Nul) : Ds w' p xs ds := h.keep k fun _ _ _ e => e
theorem Ds.mono {w : World} {p q : Nat → Prop} {xs : List Ex} {ds : List Value} (h : Ds w p xs ds) (hp : ∀ k, k < w.heap.size → p k → q k) : Ds w q xs ds :=
  ⟨h.1, fun j x d h1 h2 => (h.2 j x d h1 h2).mono hp⟩
theorem XR.keep {w w' : World} {p S : Nat → Prop} {v : Value} {xs : List Ex} (h : XR w p v xs) (k : Keep w w' S) (hp : ∀ i, i < w.heap.size → p i → ¬ S i) : XR w' p v xs :=
  let ⟨ds, h1, h2⟩ := h
  ⟨ds, h1.keep k hp, h2.keep k hp⟩
theorem XR.keep0 {w w' : World} {p : Nat → Prop} {v : Value} {xs : List Ex} (h : XR w p v xs) (k : Keep w w' Nul) : XR w' p v xs := h.keep k fun _ _ _ e => e
theorem XR.mono {w : World} {p q : Nat → Prop} {v : Value} {xs : List Ex} (h : XR w p v xs) (hp : ∀ k, k < w.heap.size → p k → q k) : XR w q v xs :=
  let ⟨ds, h1, h2⟩ := h
  ⟨ds, h1.mono hp, h2.mono hp⟩
/-- One extension of a slice. -/
theorem XR.at_ {w : World} {p : Nat → Prop} {v : Value} {xs : List Ex} (h : XR w p v xs) {k : Nat} {x : Ex} (hx : xs[k]? = some x) :
    ∃ b o c d, v = .slice (some ⟨b, o, none⟩) xs.length c ∧ xs.length ≤ c ∧ c ≤ maxLen ∧ p b ∧ b < w.heap.size ∧ w.cell? ⟨b, o + k * 2, none⟩ = some (.int .u8 x.id) ∧ w.cell? ⟨b, o + k * 2 + 1, none⟩ = some d ∧ Rd w p 1 d x.data.length (B8 x.data) := by
  obtain ⟨ds, h1, h2⟩ := h
  have hk := (List.getElem?_eq_some_iff.1 hx).1
  obtain ⟨b, o, c, hv, e1, e2, e3, e4, e5⟩ := h2.lit (by omega)
  have hd : ds[k]? = some (ds[k]'(by rw [h1.1]; exact hk)) := List.getElem?_eq_getElem _
  have g := xcells_get xs ds k hx hd
  rw [Nat.mul_comm] at g
  exact ⟨b, o, c, _, hv, e1, e2, e3, e4, e5 _ _ g.1, e5 _ _ g.2, h1.2 k x _ hx hd⟩
theorem XR.shape {w : World} {p : Nat → Prop} {v : Value} {xs : List Ex} (h : XR w p v xs) : ∃ A c, v = .slice A xs.length c := by
  obtain ⟨ds, _, h⟩ := h
  exact h.shape

/-- The cells of a header. -/
def hcells (h : Hd) (sv xv : Value) : Array Value :=
  #[.int .u8 h.v, .bool h.pad, .bool h.ext, .bool h.mark, .int .u8 h.ty, .int .u16 h.seq, .int .u32 h.time, .int .u32 h.ssrc, sv, .int .u16 h.prof, xv, .int .u8 h.padn]
/-- A header of the law's or of the thin package's. -/
def HV (w : World) (p : Nat → Prop) (v : Value) (h : Hd) : Prop :=
  ∃ sv xv, v = .agg (hcells h sv xv) ∧ Rd w p 1 sv h.srcs.length (U32 h.srcs) ∧ XR w p xv h.exts
theorem HV.keep {w w' : World} {p S : Nat → Prop} {v : Value} {h : Hd} (hh : HV w p v h) (k : Keep w w' S) (hp : ∀ i, i < w.heap.size → p i → ¬ S i) : HV w' p v h :=
  let ⟨sv, xv, h1, h2, h3⟩ := hh
  ⟨sv, xv, h1, h2.keep k hp, h3.keep k hp⟩
theorem HV.keep0 {w w' : World} {p : Nat → Prop} {v : Value} {h : Hd} (hh : HV w p v h) (k : Keep w w' Nul) : HV w' p v h := hh.keep k fun _ _ _ e => e
theorem HV.mono {w : World} {p q : Nat → Prop} {v : Value} {h : Hd} (hh : HV w p v h) (hp : ∀ k, k < w.heap.size → p k → q k) : HV w q v h :=
  let ⟨sv, xv, h1, h2, h3⟩ := hh
  ⟨sv, xv, h1, h2.mono hp, h3.mono hp⟩
/-- The numbers of a header are such. -/
structure Hd.Ok (h : Hd) : Prop where
  v : 0 ≤ h.v ∧ h.v < 256
  ty : 0 ≤ h.ty ∧ h.ty < 256
  seq : 0 ≤ h.seq ∧ h.seq < 65536
  time : 0 ≤ h.time ∧ h.time < 4294967296
  ssrc : 0 ≤ h.ssrc ∧ h.ssrc < 4294967296
  srcs : ∀ x ∈ h.srcs, 0 ≤ x ∧ x < 4294967296
  prof : 0 ≤ h.prof ∧ h.prof < 65536
  exts : ∀ x ∈ h.exts, (0 ≤ x.id ∧ x.id < 256) ∧ IsB x.data
  padn : 0 ≤ h.padn ∧ h.padn < 256
end Go.Proofs.YtdlnmkpojiofoaaDoor
namespace Go.Proofs.YtdlnmkpojiofoaaDoor
open Go.RowKit
set_option linter.unusedVariables false
set_option maxRecDepth 20000

theorem etB : ET Tryd.prog 23 5 (.int .u8 0) 1 1 := ⟨Tryd.underlying23, by kernel_rfl, rfl, by decide⟩

/-- slices.Clone of bytes. -/
theorem clone_b {p : Nat → Prop} {v : Value} {n : Nat} {xs : List Value} (w : World) (h : Rd w p 1 v n xs) (h1 : ∀ u ∈ xs, u.oneCell' = true) (hn : n ≤ 140737488355328) :
    Calls Tryd.prog 19 #[v] w fun e w' => ∃ v', e = .returned v' ∧ Own w' w.heap.size 5 1 v' n xs ∧ Keep w w' Nul ∧ (v' = .slice none 0 0 ↔ v.ownBlock = none) := by
  have hS := src_of_rd (P := Tryd.prog) w Tryd.underlying23 h h1
  have hSA := fun o => src_of_rd (P := Tryd.prog) (w.alloc o) Tryd.underlying23 (h.alloc o) h1
  obtain ⟨hl, A, c, rfl, h2, h3, h4, h5⟩ := h
  have kn := fun w => Lib.run_eql_slice_nil (P := Tryd.prog) w 23 5 A n c 0 0 Tryd.underlying23
  cases A with
  | none =>
    have hn0 : n = 0 := by have := h4 rfl; omega
    subst hn0
    have hx : xs = [] := List.eq_nil_of_length_eq_zero (by simpa using hl)
    subst hx
    clear hS hSA h5 h4 hl
    go_enter Tryd.func19, Tryd.ntmps19
    go_wp2
    go_ret
    exact ⟨_, rfl, Own.nil_ _ _ _ _, Keep.refl _ _, by simp [Value.ownBlock]⟩
  | some ad =>
    clear hS h5 h4 hl
    have h0 := Own.of_lit (e := 5) (sz := 1) w #[] 0 (by simp [maxLen]) rfl
    go_enter Tryd.func19, Tryd.ntmps19
    go_wp2_with (at_builtin; refine wpList_app etB rfl _ _ rfl h0 rfl (hSA _) rfl (by omega) (by omega) (by simp) ?_; intro v' w' ho hk hb hz _)
    go_ret
    refine ⟨_, rfl, ?_, ?_, ?_⟩
    · simpa using ho
    · exact ((Keep.refl w Nul).alloc _).trans hk (fun i hi e => by simp [Value.ownBlock] at e; omega)
    · constructor
      · rintro rfl
        rcases hb with hb | hb <;> simp [Value.ownBlock] at hb
      · intro hc
        simp [Value.ownBlock] at hc
end Go.Proofs.YtdlnmkpojiofoaaDoor
