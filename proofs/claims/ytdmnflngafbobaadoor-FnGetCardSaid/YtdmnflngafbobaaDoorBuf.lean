/-
  A buffer of bytes that is written from its head on, noughts behind: what the steps of MarshalTo do to it. Conditions: those that stand in each theorem.
-/
import Derived.Test.YtdmnflngafbobaaDoorBe
import Derived.Test.YtdmnflngafbobaaDoorWr
import Derived.Test.YtdmnflngafbobaaDoorCopy
namespace Go.Proofs.YtdmnflngafbobaaDoor
open Go.RowKit
set_option linter.unusedVariables false
set_option linter.unusedSimpArgs false
set_option maxRecDepth 20000

theorem Z8_succ {m : Nat} (h : 0 < m) : Z8 m = Value.int .u8 0 :: Z8 (m - 1) := by
  cases m with
  | zero => omega
  | succ m => rfl
theorem Z8_cut (m k : Nat) (h : k ≤ m) : Z8 m = B8 (List.replicate k 0) ++ Z8 (m - k) := by
  unfold Z8 B8
  rw [List.map_replicate, List.replicate_append_replicate]
  congr 1
  omega
theorem made_z (n : Nat) : (madeCells (Value.int .u8 0).cells n) = (B8 [] ++ Z8 n).toArray := by
  rw [show (Value.int .u8 0).cells = #[.int .u8 0] from rfl, made_one]
  rfl

section
variable {w w' : World} {g : Nat} {done : List Int} {m : Nat}
theorem Buf.mk' (h : Blk w g 5 (madeCells (Value.int .u8 0).cells m)) : Buf w g [] (Z8 m) := by
  rw [made_z] at h
  exact h
theorem Buf.z1 (h : Buf w g done (Z8 m)) (hm : 0 < m) {k : Nat} (hk : k = done.length) (u : Int) : Buf (w.setCell ⟨g, k, none⟩ (.int .u8 u)) g (done ++ [u]) (Z8 (m - 1)) := by
  subst hk
  rw [Z8_succ hm] at h
  exact h.set u
theorem Buf.zero (h : Buf w g done (Z8 m)) (k : Nat) (hk : k ≤ m) : Buf w g (done ++ List.replicate k 0) (Z8 (m - k)) := by
  unfold Buf at *
  rw [Z8_cut m k hk] at h
  rw [B8_app, List.append_assoc]
  exact h
theorem Buf.mid {d1 d2 : List Int} {y : Int} {rest : List Value} (h : Buf w g (d1 ++ y :: d2) rest) {k : Nat} (hk : k = d1.length) (u : Int) : Buf (w.setCell ⟨g, k, none⟩ (.int .u8 u)) g (d1 ++ u :: d2) rest := by
  subst hk
  have h1 := Blk.set_ h d1.length (.int .u8 u)
  unfold Buf
  have e : ((B8 (d1 ++ y :: d2) ++ rest).toArray.setIfInBounds d1.length (.int .u8 u)) = (B8 (d1 ++ u :: d2) ++ rest).toArray := by
    rw [List.setIfInBounds_toArray]
    congr 1
    simp only [B8, List.map_append, List.map_cons, List.append_assoc, List.cons_append]
    rw [List.set_append_right _ _ (by simp)]
    simp
  rw [e] at h1
  exact h1
theorem Buf.zcell (h : Buf w g done (Z8 m)) {k : Nat} (hk : done.length ≤ k) (hm : k < done.length + m) : w.cell? ⟨g, k, none⟩ = some (.int .u8 0) := by
  refine Blk.cell h k ?_
  simp only [List.getElem?_toArray]
  rw [List.getElem?_append_right (by rw [B8_len]; exact hk), B8_len]
  unfold Z8
  rw [List.getElem?_replicate]
  simp
  omega
theorem Buf.copied {data : List Int} (h : Blk w' g 5 (splice (B8 done ++ Z8 m).toArray.toList done.length (B8 data)).toArray) (hl : data.length ≤ m) : Buf w' g (done ++ data) (Z8 (m - data.length)) := by
  unfold Buf
  have e : splice (B8 done ++ Z8 m).toArray.toList done.length (B8 data) = B8 (done ++ data) ++ Z8 (m - data.length) := by
    unfold splice
    simp only [List.toList_toArray]
    rw [show done.length = (B8 done).length from (B8_len done).symm, List.take_left', List.drop_append]
    · simp [B8_app, B8_len, Z8, List.drop_replicate]
    · rfl
  rw [e] at h
  exact h

theorem size_set1 (w : World) (p : Addr) (u : Value) : (w.setCell p u).heap.size = w.heap.size := by simp [World.setCell]

/-- bePutUint16, at the end of what is written. -/
theorem put16_walk (h : Buf w g done (Z8 m)) (hm : 2 ≤ m) {n c k : Nat} (hn : 2 ≤ n) (hk : k = done.length) {v : Int} (hv : 0 ≤ v ∧ v < 65536) :
    Calls Tryd.prog 104 #[.slice (some ⟨g, k, none⟩) n c, .int .u16 v] w fun e w' => e = .returned (.tuple #[]) ∧ Buf w' g (done ++ by16 v) (Z8 (m - 2)) ∧ Keep w w' (· = g) := by
  subst hk
  refine (bePut16 g done.length n c v _ _ w hn hv (h.zcell (Nat.le_refl _) (by omega)) (h.zcell (by omega) (by omega)) (h.free _) (h.free _)).mono ?_
  rintro e w1 ⟨rfl, rfl⟩
  refine ⟨rfl, ?_, keep_put16 _ _ _ _⟩
  have h2 := (h.z1 (by omega) rfl (v / 256)).z1 (by omega) (k := done.length + 1) (by simp) (v % 256)
  rw [List.append_assoc] at h2
  exact h2
/-- bePutUint32, at the end of what is written. -/
theorem put32_walk (h : Buf w g done (Z8 m)) (hm : 4 ≤ m) {n c k : Nat} (hn : 4 ≤ n) (hk : k = done.length) {v : Int} (hv : 0 ≤ v ∧ v < 4294967296) :
    Calls Tryd.prog 105 #[.slice (some ⟨g, k, none⟩) n c, .int .u32 v] w fun e w' => e = .returned (.tuple #[]) ∧ Buf w' g (done ++ by32 v) (Z8 (m - 4)) ∧ Keep w w' (· = g) := by
  subst hk
  refine (bePut32 g done.length n c v _ _ _ _ w hn hv (h.zcell (Nat.le_refl _) (by omega)) (h.zcell (by omega) (by omega)) (h.zcell (by omega) (by omega)) (h.zcell (by omega) (by omega)) (h.free _) (h.free _) (h.free _) (h.free _)).mono ?_
  rintro e w1 ⟨rfl, rfl⟩
  refine ⟨rfl, ?_, keep_put32 _ _ _ _⟩
  have e4 : Z8 m = Value.int .u8 0 :: Value.int .u8 0 :: Value.int .u8 0 :: Value.int .u8 0 :: Z8 (m - 4) := by
    rw [Z8_succ (m := m) (by omega), Z8_succ (m := m - 1) (by omega), Z8_succ (m := m - 1 - 1) (by omega), Z8_succ (m := m - 1 - 1 - 1) (by omega)]
    congr 5
  have h2 := Buf.put32 (g := g) (done := done) (e4 ▸ h) v
  have e5 : by32 v = [v / 16777216, v / 65536 % 256, v / 256 % 256, v % 256] := by
    unfold by32 by16
    rw [show v / 65536 / 256 = v / 16777216 by omega, show v % 65536 / 256 = v / 256 % 256 by omega, show v % 65536 % 256 = v % 256 by omega]
    rfl
  rw [e5]
  exact h2
/-- bePutUint16, in the midst of what is written. -/
theorem put16_mid {d1 d2 : List Int} {y0 y1 : Int} {rest : List Value} (h : Buf w g (d1 ++ y0 :: y1 :: d2) rest) {n c k : Nat} (hn : 2 ≤ n) (hk : k = d1.length) {v : Int} (hv : 0 ≤ v ∧ v < 65536) :
    Calls Tryd.prog 104 #[.slice (some ⟨g, k, none⟩) n c, .int .u16 v] w fun e w' => e = .returned (.tuple #[]) ∧ Buf w' g (d1 ++ (by16 v ++ d2)) rest ∧ Keep w w' (· = g) := by
  subst hk
  refine (bePut16 g d1.length n c v _ _ w hn hv (h.at_ (i := d1.length) (y := y0) (by simp)) (h.at_ (i := d1.length + 1) (y := y1) (by rw [List.getElem?_append_right (by omega)]; simp)) (h.free _) (h.free _)).mono ?_
  rintro e w1 ⟨rfl, rfl⟩
  refine ⟨rfl, ?_, keep_put16 _ _ _ _⟩
  have h1 := h.mid rfl (v / 256)
  have h2 := Buf.mid (d1 := d1 ++ [v / 256]) (y := y1) (d2 := d2) (k := d1.length + 1) (by simpa using h1) (by simp) (v % 256)
  simpa [by16, put16] using h2
end

section
variable {P : Program} {w : World} {ops : Array Oper} {rest : List Oper} {o : Oper} {a : Act} {Q : Exit → Act → World → Prop} {g : Nat} {done data : List Int} {m : Nat}
/-- copy of bytes to the end of what is written, as a step of a region that draws its order. -/
theorem step_copyZ {K : Act → World → Prop} {E : Prop} (hgd : o.guard = none) (d x : Operand) {dT sT : TypeId} (ho : o.op = .call { callee := .builtin .copy, args := #[d, x], argTypes := #[dT, sT] })
    (hu : P.underlying dT = some (.slice 5)) (hsz : (P.info? 5).map (·.size) = some 1) (h : Buf w g done (Z8 m))
    {p : Nat → Prop} {s : Value} {n : Nat} (hs : Rd w p 1 s n (B8 data)) {dn dc : Nat} {dp : Option Addr} (hd : a.eval d = .slice dp dn dc) (hx : a.eval x = s) (hdp : 0 < n → dp = some ⟨g, done.length, none⟩) (hdn : n ≤ dn) (hm : n ≤ m)
    (hk : ∀ w', Buf w' g (done ++ data) (Z8 (m - n)) → Keep w w' (· = g) → K (a.put o.dst (goInt (n : Int))) w') :
    if Region.wanted o (yielded ops a.tmps) = true then Oper.wp P o a w K Q else E := by
  have hl : data.length = n := by have := hs.len; rwa [B8_len] at this
  have e1 : min n dn = n := by omega
  refine step_copyB hgd d x ho hu hsz g done.length h hs (B8_one _) hd hx (by rw [e1]; exact hdp) (by rw [e1]; simp [B8_len, Z8_len]; omega) fun w' hb hk' => ?_
  rw [e1, List.take_of_length_le (by rw [B8_len]; omega)] at hb
  rw [e1]
  have := Buf.copied hb (by omega)
  rw [hl] at this
  exact hk w' this hk'
end
end Go.Proofs.YtdmnflngafbobaaDoor
