/-
  (*rtp.Header).SetExtension. Conditions: those that stand in each theorem.
-/
import Derived.Test.YtdmnflngafbobaaDoorChk
import Derived.Test.YtdmnflngafbobaaDoorClone
import Derived.Test.YtdmnflngafbobaaDoorGGet
import Derived.Test.YtdmnflngafbobaaDoorNav
import Derived.Deep.RegionHeld3
import Derived.Test.YtdmnflngafbobaaDoorLast
import Derived.Test.YtdmnflngafbobaaDoorTry
import Derived.Test.YtdmnflngafbobaaDoorIplain
import Derived.Test.YtdmnflngafbobaaDoorGPun
namespace Go.Proofs.YtdmnflngafbobaaDoor
open Go.RowKit
set_option linter.unusedVariables false
set_option linter.unusedSimpArgs false
set_option maxRecDepth 100000

/-- One cell of the call's own slice turned. -/
theorem Own.setc {w : World} {B : Nat} {e : TypeId} {sz g c n : Nat} {xs : List Value} (h : Own w B e sz (.slice (some ⟨g, 0, none⟩) n c) n xs) (i : Nat) (u : Value) (hi : i < n * sz) :
    Own (w.setCell ⟨g, i, none⟩ u) B e sz (.slice (some ⟨g, 0, none⟩) n c) n (xs.set i u) ∧ (∃ v, w.cell? ⟨g, i, none⟩ = some v) ∧ w.frozen? ⟨g, i, none⟩ = false := by
  have hl := h.1
  rcases h.2 with ⟨h0, _⟩ | ⟨g', cap, cur, fr, hv, hB, hg, hnc, hcm, hcs, hfr, htk⟩
  · cases h0
  · injection hv with e1 e2 e3
    injection e1 with e1
    injection e1 with e1
    subst e1 e3
    have hm : n * sz ≤ c * sz := Nat.mul_le_mul_right _ hnc
    refine ⟨⟨by simpa using hl, .inr ⟨g, c, cur.setIfInBounds i u, fr, rfl, hB, ?_, hnc, hcm, by simpa using hcs, by simpa using hfr, ?_⟩⟩, ?_, ?_⟩
    · simp [World.setCell, Array.getElem?_modify, hg]
    · rw [Array.toList_setIfInBounds, List.take_set, htk]
    · exact ⟨cur[i]'(by omega), by rw [cell_of_row w g i cur e fr hg]; exact Array.getElem?_eq_getElem _⟩
    · have h := hfr i (by omega)
      obtain ⟨lo, hi'⟩ := fr
      unfold World.frozen?
      rw [hg]
      simp only [Bool.and_eq_false_iff, decide_eq_false_iff_not] at h ⊢
      omega

/-- An extension is set: the first of its number turned, or one more. -/
def putE : List Ex → Int → List Int → List Ex
  | [], id, d => [⟨id, d⟩]
  | x :: xs, id, d => if x.id = id then ⟨id, d⟩ :: xs else x :: putE xs id d
theorem putE_none : ∀ (xs : List Ex) (id : Int) (d : List Int), (∀ x ∈ xs, x.id ≠ id) → putE xs id d = xs ++ [⟨id, d⟩]
  | [], _, _, _ => rfl
  | x :: xs, id, d, h => by rw [putE, if_neg (h x (by simp)), putE_none xs id d (fun y hy => h y (by simp [hy]))]; rfl
theorem putE_at : ∀ (xs : List Ex) (id : Int) (d : List Int) (k : Nat) (x : Ex), (∀ y ∈ xs.take k, y.id ≠ id) → xs[k]? = some x → x.id = id → putE xs id d = xs.set k ⟨id, d⟩
  | [], _, _, _, _, _, h, _ => by simp at h
  | x :: xs, id, d, 0, y, _, h, hi => by simp at h; subst h; rw [putE, if_pos hi]; rfl
  | x :: xs, id, d, k + 1, y, h0, h, hi => by
    rw [putE, if_neg (h0 x (by simp)), putE_at xs id d k y (fun z hz => h0 z (by simp [hz])) (by simpa using h) hi]
    rfl
theorem xcells_set : ∀ (xs : List Ex) (ds : List Value) (k : Nat) (x : Ex) (d : List Int) (v : Value), ds.length = xs.length → xs[k]? = some x → xcells (xs.set k ⟨x.id, d⟩) (ds.set k v) = (xcells xs ds).set (2 * k + 1) v
  | [], _, _, _, _, _, _, h => by simp at h
  | x :: xs, d0 :: ds, 0, y, d, v, _, h => by simp at h; subst h; rfl
  | x :: xs, d0 :: ds, k + 1, y, d, v, hl, h => by
    have ih := xcells_set xs ds k y d v (by simpa using hl) (by simpa using h)
    simp only [List.set_cons_succ, xcells, ih]
    rfl
  | _ :: _, [], _, _, _, _, h, _ => by simp at h
theorem Ds.set_ {w : World} {p : Nat → Prop} {xs : List Ex} {ds : List Value} {k : Nat} {i : Int} {d : List Int} {v : Value} (h : Ds w p xs ds) (hv : Rd w p 1 v d.length (B8 d)) : Ds w p (xs.set k ⟨i, d⟩) (ds.set k v) := by
  refine ⟨by simp [h.1], fun j x u h1 h2 => ?_⟩
  rw [List.getElem?_set] at h1 h2
  by_cases hj : k = j
  · rw [if_pos hj] at h1 h2
    split at h1
    · split at h2
      · injection h1 with h1
        injection h2 with h2
        subst h1 h2
        exact hv
      · cases h2
    · cases h1
  · rw [if_neg hj] at h1 h2
    exact h.2 j x u h1 h2

/-- What a check of any length asks. -/
def chkB (p id : Int) (n : Nat) : Bool :=
  if p = 48862 then decide (1 ≤ id ∧ id ≤ 14 ∧ n ≤ 16) else if p = 4096 then decide (1 ≤ id ∧ n ≤ 255) else decide (id = 0)
theorem chkB_fits {p id : Int} {n : Nat} (h : 1 ≤ n) : chkB p id n = fitsB p id n := by
  unfold chkB fitsB
  split
  · exact decide_eq_decide.2 (by omega)
  · rfl
theorem hchk0_walk {p id : Int} {A : Option Addr} {n c : Nat} (w : World) (he : HErrs w) :
    Calls Tryd.prog 106 #[.int .u16 p, .int .u8 id, .slice A n c] w fun e w' => ∃ ev, e = .returned ev ∧ ChkR (chkB p id n) ev ∧ w = w' := by
  obtain ⟨⟨a1, b1, c1⟩, ⟨a2, b2, c2⟩, ⟨a3, b3, c3⟩, ⟨a4, b4, c4⟩, ⟨a5, b5, c5⟩⟩ := he
  unfold ChkR chkB
  go_enter Tryd.func106, Tryd.ntmps106
  go_wp2_with fail
  all_goals
    go_ret
    refine ⟨_, rfl, ?_, rfl⟩
    simp only [beq_iff_eq, beq_eq_false_iff_ne, bne_iff_ne, bne_eq_false_iff_eq, ne_eq] at *
    first
    | (refine .inl ⟨?_, rfl⟩
       by_cases q1 : p = 48862 <;> by_cases q2 : p = 4096 <;> (try (exfalso; omega)) <;> (try simp [q1, q2]) <;> omega)
    | (refine .inr ⟨?_, _, _, rfl⟩
       by_cases q1 : p = 48862 <;> by_cases q2 : p = 4096 <;> (try (exfalso; omega)) <;> (try simp [q1, q2]) <;> omega)

/-- A header with an extension set; none: an error. -/
def setE (hd : Hd) (id : Int) (d : List Int) : Option Hd :=
  if hd.ext then (if chkB hd.prof id d.length then some { hd with exts := putE hd.exts id d } else none)
  else some { hd with ext := true, prof := if d.length ≤ 16 then 48862 else if d.length < 256 then 4096 else hd.prof, exts := hd.exts ++ [⟨id, d⟩] }
/-- The blocks that an operation over the extensions may turn: the header's, and those of extensions. -/
def KX (w : World) (B g : Nat) : Nat → Prop := fun i => B ≤ i ∧ (i = g ∨ ∃ cur fr, w.heap[i]? = some (.cells cur 139 fr))
theorem Keep.kx_trans {w w1 w2 : World} {B g : Nat} (h : Keep w w1 (KX w B g)) (k : Keep w1 w2 (KX w1 B g)) : Keep w w2 (KX w B g) :=
  ⟨k.os.trans h.os, k.tape.trans h.tape, k.output.trans h.output, Nat.le_trans h.size k.size, fun i hi hn => (k.block i (Nat.lt_of_lt_of_le hi h.size) (fun e => hn ⟨e.1, e.2.elim .inl (fun ⟨cur, fr, he⟩ => .inr ⟨cur, fr, by rw [← h.block i hi hn]; exact he⟩)⟩)).trans (h.block i hi hn)⟩
theorem Keep.kx_g {w w1 : World} {B g : Nat} (h : Keep w w1 (· = g)) (hB : B ≤ g) : Keep w w1 (KX w B g) := h.mono fun i _ e => ⟨by have : i = g := e; omega, .inl e⟩
theorem Keep.kx_b {w w1 : World} {B g : Nat} (h : Keep w w1 (KX w B g)) : Keep w w1 (B ≤ ·) := h.mono fun i _ e => e.1
theorem Keep.kx_o {w w1 : World} {B g sz n : Nat} {v : Value} {xs : List Value} (h : Keep w w1 (fun q => v.ownBlock = some q)) (ho : Own w B 139 sz v n xs) : Keep w w1 (KX w B g) := h.mono fun i _ e => ⟨(ho.at_ i e).1, .inr (ho.at_ i e).2.2⟩
/-- What an operation over the extensions of a header of the package leaves. -/
def OpR (r : Option Hd) (hd : Hd) (B g : Nat) (w : World) (e : Ending) (w' : World) : Prop :=
  Keep w w' (KX w B g) ∧ ((∃ hd', r = some hd' ∧ e = .returned .nilIface ∧ RP w' B g hd') ∨ (r = none ∧ (∃ te ve, e = .returned (.iface te ve)) ∧ RP w' B g hd))
theorem HErrs.keepB {w w' : World} (h : HErrs w) (k : Keep w w' (w.heap.size ≤ ·)) : HErrs w' := by
  obtain ⟨⟨a1, b1, c1⟩, ⟨a2, b2, c2⟩, ⟨a3, b3, c3⟩, ⟨a4, b4, c4⟩, ⟨a5, b5, c5⟩⟩ := h
  exact ⟨⟨a1, b1, k.cell (fun e => by have := block_lt_of_cell c1; omega) c1⟩, ⟨a2, b2, k.cell (fun e => by have := block_lt_of_cell c2; omega) c2⟩, ⟨a3, b3, k.cell (fun e => by have := block_lt_of_cell c3; omega) c3⟩, ⟨a4, b4, k.cell (fun e => by have := block_lt_of_cell c4; omega) c4⟩, ⟨a5, b5, k.cell (fun e => by have := block_lt_of_cell c5; omega) c5⟩⟩

/-- A header of the package: one more extension, stored. -/
theorem rp_more {w w1 w2 : World} {B g dn : Nat} {hd hd' : Hd} {sv v' : Value} {ds : List Value} {off : Int} {id : Int} {d : List Int} {v : Value} (hg : B ≤ g)
    (hB : Blk w2 g 108 (rcells hd' sv v' off)) (hS : Own w B 23 1 sv hd.srcs.length (U32 hd.srcs)) (h1 : hd'.srcs = hd.srcs) (h2 : hd'.exts = hd.exts ++ [⟨id, d⟩])
    (hO : Own w2 B 139 2 v' (hd.exts.length + 1) (xcells hd.exts ds ++ [.int .u8 id, v])) (hS2 : Own w2 B 23 1 sv hd.srcs.length (U32 hd.srcs)) (hD : Ds w2 (Byt w2 B) (hd.exts ++ [⟨id, d⟩]) (ds ++ [v])) (hl : ds.length = hd.exts.length) : RP w2 B g hd' := by
  refine ⟨hg, sv, v', ds ++ [v], off, hB, by rw [h1]; exact hS2, ?_, by rw [h2]; exact hD⟩
  rw [h2, xcells_snoc _ _ _ _ hl]
  simpa using hO

set_option maxHeartbeats 1600000 in
theorem set_p20 {hd : Hd} {g B n c : Nat} {A : Option Addr} {id : Int} {d : List Int} {post : Ending → World → Prop} (wr : World) (u3 u4 u5 u6 u7 u8 u9 u10 u11 u12 u13 u14 u15 u16 u17 u18 u19 u20 u21 u22 u23 u24 u25 u26 u27 u28 u29 u30 u31 u32 u33 u34 u35 u36 u37 u38 u39 u40 u41 u42 u43 u44 u45 u46 u47 u48 u49 u50 u51 u52 u53 u54 u55 u56 u57 u58 u59 u60 u61 u62 u63 u64 u65 u66 u67 u68 u69 u70 u71 u72 u73 u74 u75 u76 u77 u78 u79 u80 u81 u82 u83 u84 u85 u86 u87 u88 u89 u90 u91 u92 : Value)
    (hp : ∀ w', RP w' B g { hd with exts := hd.exts ++ [⟨id, d⟩] } → Keep wr w' (KX wr B g) → post (.returned .nilIface) w')
    (hP : RP wr B g hd) (hx : hd.exts.length ≤ 1000000) (hR : Rd wr (Byt wr B) 1 (.slice A n c) n (B8 d)) (hBw : B ≤ wr.heap.size) :
    Part Tryd.prog Tryd.f107 20 (bodyPost Tryd.prog Tryd.f107 post) ⟨List.toArray (.pointer (some ⟨g, 0, none⟩) :: .int .u8 id :: .slice A n c :: u3 :: u4 :: u5 :: u6 :: u7 :: u8 :: u9 :: u10 :: u11 :: u12 :: u13 :: u14 :: u15 :: u16 :: u17 :: u18 :: u19 :: u20 :: u21 :: u22 :: u23 :: u24 :: u25 :: u26 :: u27 :: u28 :: u29 :: u30 :: u31 :: u32 :: u33 :: u34 :: u35 :: u36 :: u37 :: u38 :: u39 :: u40 :: u41 :: u42 :: u43 :: u44 :: u45 :: u46 :: u47 :: u48 :: u49 :: u50 :: u51 :: u52 :: u53 :: u54 :: u55 :: u56 :: u57 :: u58 :: u59 :: u60 :: u61 :: u62 :: u63 :: u64 :: u65 :: u66 :: u67 :: u68 :: u69 :: u70 :: u71 :: u72 :: u73 :: u74 :: u75 :: u76 :: u77 :: u78 :: u79 :: u80 :: u81 :: u82 :: u83 :: u84 :: u85 :: u86 :: u87 :: u88 :: u89 :: u90 :: u91 :: u92 :: []), []⟩ wr := by
  have hl : d.length = n := by have := hR.len; rwa [B8_len] at this
  obtain ⟨hBg, sv, xv, ds, off, hB, hS, hO, hD⟩ := hP
  have HPP := hide hp
  have BR := hide hB
  have HS := hide hS
  have OR := hide hO
  have HD := hide hD
  have HR := hide hR
  have HL := hide hl
  have HBG := hBg
  obtain ⟨A1, c1, rfl⟩ := hS.rd.shape
  obtain ⟨Ax, cx, rfl⟩ := hO.rd.shape
  have x10r := hB.cell 10 (v := .slice Ax hd.exts.length cx) rfl
  have lgr := hB.lt
  have HNX := hide (show ¬ (Value.slice Ax hd.exts.length cx).ownBlock = some g from hO.ne_ hB (by decide))
  clear hB hS hO hD hR hl hp
  refine part_open (fun c0 hc K hK => ?_)
  conv at hc => rhs; whnf
  subst hc
  dsimp only [xOf, yOf] at hK ⊢
  go_wp2_with (at_builtin; refine wpList_app etX rfl _ _ rfl (OR.out.alloc _) rfl (src_one (cs := #[.int .u8 id, .slice A n c]) Tryd.underlying106 (by first | rfl | simp only [World.size_alloc]) rfl (by simp [Value.oneCell'])) rfl (by simp only [maxLen]; omega) (by omega) (by simp only [World.size_alloc]; omega) ?_; intro v3 w3 o3 k3 b3 z3 _; have hb3 := hide ((BR.out.alloc (.cells #[.int .u8 id, .slice A n c] 139)).keep k3 HNX.out); have y10 := hb3.out.cell 10 (v := .slice Ax hd.exts.length cx) rfl; have g10 := hb3.out.free 10; have l3 := hb3.out.lt; have K3 := hide k3; have O3 := hide o3; obtain ⟨A5, c5, rfl⟩ := O3.out.rd.shape; clear k3 o3 b3 z3)
  (try go_ret)
  have hO3 := O3.out
  have hK3 := K3.out
  have k13 : Keep wr w3 (fun q => (Value.slice Ax hd.exts.length cx).ownBlock = some q) := ((Keep.refl wr _).alloc _).trans hK3 (fun _ _ e => e)
  have kst : Keep w3 (w3.setCell ⟨g, 10, none⟩ (.slice A5 (hd.exts.length + 1) c5)) (· = g) := Keep.set1 _ _ _ _
  have hgo3 : ∀ q, (Value.slice A5 (hd.exts.length + 1) c5).ownBlock = some q → ¬ q = g := fun q hq e => (hO3.ne_ hb3.out (by decide)) (e ▸ hq)
  have hxo := fun q hq => (OR.out.at_ q hq).1
  have hS3 := ((HS.out.keep k13 (fun q hq e => (OR.out.ne_own HS.out (by decide) e) hq)).keep kst (fun q hq e => ((HS.out.ne_ BR.out (by decide)) (e ▸ hq))))
  have hbyt : ∀ q, Byt wr B q → ¬ (Value.slice Ax hd.exts.length cx).ownBlock = some q := fun q hq => hq.ne_own OR.out (by decide)
  have hbyt2 : ∀ q, Byt w3 B q → ¬ q = g := fun q hq e => hq.ne_blk hb3.out (by decide) e
  have hD3 := (HD.out.byt k13 hbyt).byt kst hbyt2
  have hR3 := (HR.out.byt k13 hbyt).byt kst hbyt2
  have kall : Keep wr (w3.setCell ⟨g, 10, none⟩ (.slice A5 (hd.exts.length + 1) c5)) (KX wr B g) := (k13.kx_o OR.out).kx_trans (kst.kx_g HBG)
  refine HPP.out _ ⟨HBG, _, _, ds ++ [.slice A n c], off, hb3.out.set_ 10 _, hS3, ?_, ?_⟩ kall
  · show Own _ B _ 2 _ (hd.exts ++ [(⟨id, d⟩ : Ex)]).length (xcells (hd.exts ++ [(⟨id, d⟩ : Ex)]) _)
    rw [xcells_snoc _ _ _ _ HD.out.1, List.length_append]
    exact hO3.keep kst hgo3
  · exact hD3.snoc (by rw [HL.out]; exact hR3)

set_option maxHeartbeats 3200000 in
theorem set_walk {hd : Hd} {g B n c : Nat} {A : Option Addr} {id : Int} {d : List Int} (w : World) (hP : RP w B g hd) (hx : hd.exts.length ≤ 1000000) (hR : Rd w (Byt w B) 1 (.slice A n c) n (B8 d)) (hn : n ≤ 2147483647) (hBw : B ≤ w.heap.size) (he : HErrs w) :
    Calls Tryd.prog 107 #[.pointer (some ⟨g, 0, none⟩), .int .u8 id, .slice A n c] w (OpR (setE hd id d) hd B g w) := by
  have hl : d.length = n := by have := hR.len; rwa [B8_len] at this
  have hP0 := hP
  obtain ⟨hBg, sv, xv, ds, off, hB, hS, hO, hD⟩ := hP
  have HP := hide hP0
  have HB := hide hB
  have HS := hide hS
  have HO := hide hO
  have HD := hide hD
  have HR := hide hR
  have HL := hide hl
  obtain ⟨A1, c1, rfl⟩ := hS.rd.shape
  obtain ⟨Ax, cx, rfl⟩ := hO.rd.shape
  have x2 := hB.cell 2 (v := .bool hd.ext) rfl
  have x9 := hB.cell 9 (v := .int .u16 hd.prof) rfl
  have x10 := hB.cell 10 (v := .slice Ax hd.exts.length cx) rfl
  have fg := fun i => HB.out.free i
  have lg := hB.lt
  have HBG := hBg
  have HNX := hide (show ¬ (Value.slice Ax hd.exts.length cx).ownBlock = some g from hO.ne_ hB (by decide))
  have hC := hide (hchk0_walk (p := hd.prof) (id := id) (A := A) (n := n) (c := c) w he)
  clear hP0 hB hS hO hD hR hl he
  cases hext : hd.ext with
  | false =>
    rw [hext] at x2
    have HEXT := hide hext
    clear hext
    have fin : ∀ (pr : Int) (w1 : World), Blk w1 g 108 (rcells { hd with ext := true, prof := pr } (.slice A1 hd.srcs.length c1) (.slice Ax hd.exts.length cx) off) → Keep w w1 (· = g) → RP w1 B g { hd with ext := true, prof := pr } ∧ Rd w1 (Byt w1 B) 1 (.slice A n c) n (B8 d) ∧ B ≤ w1.heap.size := fun pr w1 hb hk => by
      have hby : ∀ q, Byt w B q → ¬ q = g := fun q hq e => hq.ne_blk HB.out (by decide) e
      refine ⟨⟨hBg, _, _, ds, off, hb, HS.out.keep hk (fun q hq e => (HS.out.ne_ HB.out (by decide)) (e ▸ hq)), HO.out.keep hk (fun q hq e => HNX.out (e ▸ hq)), HD.out.byt hk hby⟩, HR.out.byt hk hby, Nat.le_trans hBw hk.size⟩
    have HF := hide fin
    clear fin hC x9 x10
    have fgm := fun i => HB.out.free i
    by_cases h16 : (n : Int) ≤ 16
    · have h17 : ¬ (16 : Int) < (n : Int) := by omega
      have HSE := hide (show setE hd id d = some { hd with ext := true, prof := 48862, exts := hd.exts ++ [⟨id, d⟩] } by unfold setE; rw [HEXT.out, if_neg (by simp), if_pos (by rw [HL.out]; omega)])
      have x9 := (HB.out.set_ 2 (.bool true)).cell 9 (v := .int .u16 hd.prof) rfl
      go_enter Tryd.func107, Tryd.ntmps107
      go_upto_region 20 with fail
      generalize hw1 : World.setCell (World.setCell w _ _) _ _ = w1
      have hk1 : Keep w w1 (· = g) := by subst hw1; exact ((Keep.refl w (· = g)).setg 2 (fun _ => rfl) _).setg 9 (fun _ => rfl) _
      have hb1 : Blk w1 g 108 (rcells { hd with ext := true, prof := 48862 } (.slice A1 hd.srcs.length c1) (.slice Ax hd.exts.length cx) off) := by subst hw1; exact (HB.out.set_ 2 _).set_ 9 _
      obtain ⟨f1, f2, f3⟩ := HF.out 48862 w1 hb1 hk1
      refine part_use (set_p20 (hd := { hd with ext := true, prof := 48862 }) (d := d) w1 _ _ _ _ _ _ _ _ _ _ _ _ _ _ _ _ _ _ _ _ _ _ _ _ _ _ _ _ _ _ _ _ _ _ _ _ _ _ _ _ _ _ _ _ _ _ _ _ _ _ _ _ _ _ _ _ _ _ _ _ _ _ _ _ _ _ _ _ _ _ _ _ _ _ _ _ _ _ _ _ _ _ _ _ _ _ _ _ _ _ (fun w' hr' hk' => ⟨(hk1.kx_g HBG).kx_trans hk', .inl ⟨_, HSE.out, rfl, hr'⟩⟩) f1 hx f2 f3) rfl rfl (by assumption)
    · have h17 : (16 : Int) < (n : Int) := by omega
      by_cases h256 : (n : Int) < 256
      · have h18 : (n : Int) < 256 := h256
        have HSE := hide (show setE hd id d = some { hd with ext := true, prof := 4096, exts := hd.exts ++ [⟨id, d⟩] } by unfold setE; rw [HEXT.out, if_neg (by simp), if_neg (by rw [HL.out]; omega), if_pos (by rw [HL.out]; omega)])
        have x9 := (HB.out.set_ 2 (.bool true)).cell 9 (v := .int .u16 hd.prof) rfl
        go_enter Tryd.func107, Tryd.ntmps107
        go_upto_region 20 with fail
        generalize hw1 : World.setCell (World.setCell w _ _) _ _ = w1
        have hk1 : Keep w w1 (· = g) := by subst hw1; exact ((Keep.refl w (· = g)).setg 2 (fun _ => rfl) _).setg 9 (fun _ => rfl) _
        have hb1 : Blk w1 g 108 (rcells { hd with ext := true, prof := 4096 } (.slice A1 hd.srcs.length c1) (.slice Ax hd.exts.length cx) off) := by subst hw1; exact (HB.out.set_ 2 _).set_ 9 _
        obtain ⟨f1, f2, f3⟩ := HF.out 4096 w1 hb1 hk1
        refine part_use (set_p20 (hd := { hd with ext := true, prof := 4096 }) (d := d) w1 _ _ _ _ _ _ _ _ _ _ _ _ _ _ _ _ _ _ _ _ _ _ _ _ _ _ _ _ _ _ _ _ _ _ _ _ _ _ _ _ _ _ _ _ _ _ _ _ _ _ _ _ _ _ _ _ _ _ _ _ _ _ _ _ _ _ _ _ _ _ _ _ _ _ _ _ _ _ _ _ _ _ _ _ _ _ _ _ _ _ (fun w' hr' hk' => ⟨(hk1.kx_g HBG).kx_trans hk', .inl ⟨_, HSE.out, rfl, hr'⟩⟩) f1 hx f2 f3) rfl rfl (by assumption)
      · have h18 : ¬ (n : Int) < 256 := h256
        have HSE := hide (show setE hd id d = some { hd with ext := true, prof := hd.prof, exts := hd.exts ++ [⟨id, d⟩] } by unfold setE; rw [HEXT.out, if_neg (by simp), if_neg (by rw [HL.out]; omega), if_neg (by rw [HL.out]; omega)])
        have x9 := (HB.out.set_ 2 (.bool true)).cell 9 (v := .int .u16 hd.prof) rfl
        go_enter Tryd.func107, Tryd.ntmps107
        go_upto_region 20 with fail
        generalize hw1 : World.setCell w _ _ = w1
        have hk1 : Keep w w1 (· = g) := by subst hw1; exact (Keep.refl w (· = g)).setg 2 (fun _ => rfl) _
        have hb1 : Blk w1 g 108 (rcells { hd with ext := true, prof := hd.prof } (.slice A1 hd.srcs.length c1) (.slice Ax hd.exts.length cx) off) := by subst hw1; exact HB.out.set_ 2 _
        obtain ⟨f1, f2, f3⟩ := HF.out hd.prof w1 hb1 hk1
        refine part_use (set_p20 (hd := { hd with ext := true, prof := hd.prof }) (d := d) w1 _ _ _ _ _ _ _ _ _ _ _ _ _ _ _ _ _ _ _ _ _ _ _ _ _ _ _ _ _ _ _ _ _ _ _ _ _ _ _ _ _ _ _ _ _ _ _ _ _ _ _ _ _ _ _ _ _ _ _ _ _ _ _ _ _ _ _ _ _ _ _ _ _ _ _ _ _ _ _ _ _ _ _ _ _ _ _ _ _ _ (fun w' hr' hk' => ⟨(hk1.kx_g HBG).kx_trans hk', .inl ⟨_, HSE.out, rfl, hr'⟩⟩) f1 hx f2 f3) rfl rfl (by assumption)
  | true =>
    have HEXT := hide hext
    rw [hext] at x2
    clear hext
    go_enter Tryd.func107, Tryd.ntmps107
    go_wp2_with fail
    refine (hC.out).mono ?_
    rintro e w1 ⟨ev, rfl, hck, rfl⟩
    rcases hck with ⟨hck, rfl⟩ | ⟨hck, te, ve, rfl⟩
    · have HCK := hide hck
      have HSE := hide (show setE hd id d = some { hd with exts := putE hd.exts id d } by unfold setE; rw [HEXT.out, if_pos rfl, HL.out, HCK.out, if_pos rfl])
      clear hck
      go_wp2_with fail
      go_loopw [30] (fun s30 wr => ∃ k : Nat, k ≤ hd.exts.length ∧ s30 = .int .i64 (k : Int) ∧ (∀ x ∈ hd.exts.take k, x.id ≠ id) ∧ Keep w wr Nul) (fun s30 _ => hd.exts.length - (intOf s30).toNat)
      case atStart => exact ⟨0, Nat.zero_le _, rfl, by simp, Keep.refl _ _⟩
      case round =>
        obtain ⟨k, hk, rfl, hne, hK⟩ := hrel
        have HNE := hide hne
        have KK := hide hK
        have BR := hide (HB.out.keep hK (fun e => e))
        by_cases hlt : k < hd.exts.length
        · have hxk : hd.exts[k]? = some hd.exts[k] := List.getElem?_eq_getElem _
          have hXR : XR w (B ≤ ·) (.slice Ax hd.exts.length cx) hd.exts := ⟨ds, HD.out.mono (fun i _ hi => hi.1), HO.out.rdB⟩
          obtain ⟨gx, ox, cx', dv, hv, q1, q2, q3, q4, p5, p6, q7⟩ := hXR.at_ hxk
          injection hv with e1 _ e3
          subst e1 e3
          have hox : ox = 0 := by
            rcases HO.out.2 with ⟨h0, _⟩ | ⟨g', _, _, _, hv', _⟩
            · cases h0
            · injection hv' with e
              injection e with e
              injection e with _ e
          subst hox
          have HXK := hide hxk
          clear hxk
          generalize hd.exts[k] = x at *
          have q5 := hK.cell (fun e => e) p5
          have q6 := hK.cell (fun e => e) p6
          obtain ⟨Ad, cd, rfl⟩ := q7.shape
          have hgx : gx < wr.heap.size := Nat.lt_of_lt_of_le q4 hK.size
          have lgr := BR.out.lt
          have x10r := BR.out.cell 10 (v := .slice (some ⟨gx, 0, none⟩) hd.exts.length cx) rfl
          clear p5 p6 q7 hXR hne hK
          by_cases hid : x.id = id
          · have s1 : (x.id == id) = true := by simp [hid]
            have HID := hide hid
            clear hid
            obtain ⟨hset, ⟨vo, hvo⟩, hfz⟩ := (HO.out.keep0 KK.out).setc (2 * k + 1) (.slice A n c) (by omega)
            have hset1 : (2 : Nat) * k + 1 = k * 2 + 1 := by omega
            rw [hset1] at hset hvo hfz
            rw [Nat.zero_add] at q5 q6
            have HSET := hide hset
            clear hset hset1
            go_wp2_with fail
            go_ret
            have hputE : putE hd.exts id d = hd.exts.set k ⟨id, d⟩ := putE_at hd.exts id d k x HNE.out HXK.out HID.out
            obtain ⟨w5, hw5⟩ : ∃ w5, w5 = wr.setCell ⟨gx, k * 2 + 1, none⟩ (.slice A n c) := ⟨_, rfl⟩
            have kst : Keep wr w5 (· = gx) := by subst hw5; exact Keep.set1 _ _ _ _
            have hx5 : Own w5 B 139 2 (.slice (some ⟨gx, 0, none⟩) hd.exts.length cx) hd.exts.length ((xcells hd.exts ds).set (k * 2 + 1) (.slice A n c)) := by subst hw5; exact HSET.out
            rw [← hw5]
            have hgxt := (HO.out.keep0 KK.out).at_ gx rfl
            have hgs : ∀ q, (Value.slice A1 hd.srcs.length c1).ownBlock = some q → ¬ q = gx := fun q hq e => (HO.out.ne_own HS.out (by decide) (g := gx) rfl) (e ▸ hq)
            have hds : Ds w5 (Byt w5 B) (hd.exts.set k ⟨id, d⟩) (ds.set k (.slice A n c)) := by
              have hbyt : ∀ q, Byt wr B q → ¬ q = gx := fun q hq e => hq.ne_own (HO.out.keep0 KK.out) (by decide) (by rw [e]; rfl)
              have h1 := (HD.out.byt KK.out (fun _ _ e => e)).byt kst hbyt
              have h2 := (HR.out.byt KK.out (fun _ _ e => e)).byt kst hbyt
              exact h1.set_ (by rw [HL.out]; exact h2)
            have kall : Keep w w5 (KX w B g) := (KK.out.nul (KX w B g)).kx_trans (kst.mono (fun i _ e => by have e' : i = gx := e; subst e'; exact ⟨hgxt.1, .inr hgxt.2.2⟩))
            refine ⟨kall.alloc _, .inl ⟨_, HSE.out, rfl, HBG, _, _, ds.set k (.slice A n c), off, (BR.out.keep kst (fun e => HNX.out (by rw [e]; rfl))).alloc _, ((HS.out.keep0 KK.out).keep kst hgs).alloc _, ?_, ?_⟩⟩
            · show Own _ B _ 2 _ (putE hd.exts id d).length (xcells (putE hd.exts id d) _)
              rw [hputE, List.length_set]
              have he := xcells_set hd.exts ds k x d (.slice A n c) HD.out.1 HXK.out
              rw [HID.out, Nat.mul_comm 2 k] at he
              rw [he]
              exact hx5.alloc _
            · show Ds _ _ (putE hd.exts id d) _
              rw [hputE]
              exact hds.byt ((Keep.refl w5 Nul).alloc _) (fun _ _ e => e)
          · have s1 : (x.id == id) = false := by simpa using hid
            have HID := hide hid
            clear hid
            rw [Nat.zero_add] at q5 q6
            go_wp2_with fail
            go_roundw
            case rel =>
              refine ⟨k + 1, by omega, by go_num, fun y hy => ?_, KK.out.alloc _⟩
              obtain ⟨hk', e⟩ := List.getElem?_eq_some_iff.1 HXK.out
              rw [List.take_succ_eq_append_getElem hk', e] at hy
              rcases List.mem_append.1 hy with hy | hy
              · exact HNE.out y hy
              · simp at hy
                rw [hy]; exact HID.out
            case measure => simp [intOf]; omega
        · obtain rfl : k = hd.exts.length := by omega
          rw [List.take_length] at hne
          have HNA := hide hne
          have BRa := hide BR.out
          have OR := hide (HO.out.keep0 KK.out)
          have x10r := BR.out.cell 10 (v := .slice Ax hd.exts.length cx) rfl
          have f10r := BR.out.free 10
          have lgr := BR.out.lt
          have hbr : B ≤ wr.heap.size := Nat.le_trans hBw hK.size
          clear hne hK
          go_wp2_with (at_builtin; refine wpList_app etX rfl _ _ rfl (OR.out.alloc _) rfl (src_one (cs := #[.int .u8 id, .slice A n c]) Tryd.underlying106 (by first | rfl | simp only [World.size_alloc]) rfl (by simp [Value.oneCell'])) rfl (by simp only [maxLen]; omega) (by omega) (by simp only [World.size_alloc]; omega) ?_; intro v3 w3 o3 k3 b3 z3 _; have hb3 := hide ((BR.out.alloc (.cells #[.int .u8 id, .slice A n c] 139)).keep k3 HNX.out); have y10 := hb3.out.cell 10 (v := .slice Ax hd.exts.length cx) rfl; have g10 := hb3.out.free 10; have l3 := hb3.out.lt; have K3 := hide k3; have O3 := hide o3; obtain ⟨A5, c5, rfl⟩ := O3.out.rd.shape; clear k3 o3 b3 z3)
          go_ret
          have hputE : putE hd.exts id d = hd.exts ++ [⟨id, d⟩] := putE_none hd.exts id d HNA.out
          have hO3 := O3.out
          have hK3 := K3.out
          have k13 : Keep wr w3 (fun q => (Value.slice Ax hd.exts.length cx).ownBlock = some q) := ((Keep.refl wr _).alloc _).trans hK3 (fun _ _ e => e)
          have kst : Keep w3 (w3.setCell ⟨g, 10, none⟩ (.slice A5 (hd.exts.length + 1) c5)) (· = g) := Keep.set1 _ _ _ _
          have hgo3 : ∀ q, (Value.slice A5 (hd.exts.length + 1) c5).ownBlock = some q → ¬ q = g := fun q hq e => (hO3.ne_ hb3.out (by decide)) (e ▸ hq)
          have hxo := fun q hq => (OR.out.at_ q hq).1
          have hS3 := (((HS.out.keep0 KK.out).keep k13 (fun q hq e => (OR.out.ne_own (HS.out.keep0 KK.out) (by decide) e) hq)).keep kst (fun q hq e => ((HS.out.ne_ HB.out (by decide)) (e ▸ hq))))
          have hbyt : ∀ q, Byt wr B q → ¬ (Value.slice Ax hd.exts.length cx).ownBlock = some q := fun q hq => hq.ne_own OR.out (by decide)
          have hbyt2 : ∀ q, Byt w3 B q → ¬ q = g := fun q hq e => hq.ne_blk hb3.out (by decide) e
          have hD3 := ((HD.out.byt KK.out (fun _ _ e => e)).byt k13 hbyt).byt kst hbyt2
          have hR3 := ((HR.out.byt KK.out (fun _ _ e => e)).byt k13 hbyt).byt kst hbyt2
          have kall : Keep w (w3.setCell ⟨g, 10, none⟩ (.slice A5 (hd.exts.length + 1) c5)) (KX w B g) := ((KK.out.nul (KX w B g)).kx_trans (k13.kx_o OR.out)).kx_trans (kst.kx_g HBG)
          refine ⟨kall, .inl ⟨_, HSE.out, rfl, HBG, _, _, ds ++ [.slice A n c], off, hb3.out.set_ 10 _, hS3, ?_, ?_⟩⟩
          · show Own _ B _ 2 _ (putE hd.exts id d).length (xcells (putE hd.exts id d) _)
            rw [hputE, xcells_snoc _ _ _ _ HD.out.1, List.length_append]
            exact hO3.keep kst hgo3
          · show Ds _ _ (putE hd.exts id d) _
            rw [hputE]
            exact hD3.snoc (by rw [HL.out]; exact hR3)
    · have HSE := hide (show setE hd id d = none by unfold setE; rw [HEXT.out, if_pos rfl, HL.out, hck]; rfl)
      clear hck
      go_wp2_with fail
      go_ret
      exact ⟨Keep.refl _ _, .inr ⟨HSE.out, ⟨_, _, rfl⟩, HP.out⟩⟩
end Go.Proofs.YtdmnflngafbobaaDoor
namespace Go.Proofs.YtdmnflngafbobaaDoor
open Go.RowKit
set_option linter.unusedVariables false
set_option linter.unusedSimpArgs false
set_option maxRecDepth 100000

theorem hchk0_t {p id : Int} {A : Option Addr} {n c : Nat} (w : World) (he : HErrs w) (hb : chkB p id n = true) :
    Calls Tryd.prog 106 #[.int .u16 p, .int .u8 id, .slice A n c] w fun e w' => e = .returned .nilIface ∧ w = w' :=
  (hchk0_walk w he).mono fun e w' ⟨ev, q1, q2, q3⟩ => by
    rcases q2 with ⟨_, rfl⟩ | ⟨q, _⟩
    · exact ⟨q1, q3⟩
    · rw [hb] at q; cases q
theorem hchk0_f {p id : Int} {A : Option Addr} {n c : Nat} (w : World) (he : HErrs w) (hb : chkB p id n = false) :
    Calls Tryd.prog 106 #[.int .u16 p, .int .u8 id, .slice A n c] w fun e w' => ∃ te ve, e = .returned (.iface te ve) ∧ w = w' :=
  (hchk0_walk w he).mono fun e w' ⟨ev, q1, q2, q3⟩ => by
    rcases q2 with ⟨q, _⟩ | ⟨_, te, ve, rfl⟩
    · rw [hb] at q; cases q
    · exact ⟨te, ve, q1, q3⟩

/-- A header with an extension set with a profile; none: an error. -/
def setP (hd : Hd) (id : Int) (d : List Int) (pr : Int) : Option Hd :=
  if hd.ext = false ∨ hd.prof = pr then setE hd id d
  else if chkB pr id d.length = false then none
  else if pr = 48862 ∧ (hd.exts.any fun x => !chkB pr x.id x.data.length) = true then none
  else setE { hd with prof := pr } id d
theorem any_take {xs : List Ex} {f : Ex → Bool} : ∀ (k : Nat), xs.length ≤ k → (∀ x ∈ xs.take k, f x = false) → xs.any f = false := fun k hk h => by
  rw [List.take_of_length_le hk] at h
  rw [List.any_eq_false]
  intro x hx
  rw [h x hx]
  simp

set_option maxHeartbeats 1600000 in
theorem setp_p14 {hd : Hd} {g B n c : Nat} {A : Option Addr} {id pr : Int} {d : List Int} {w0 : World} (w : World) (u4 u5 u6 u7 u8 u9 u10 u11 u12 u13 u14 u15 u16 u17 u18 u19 u20 u21 u22 u23 u24 u25 u26 u27 u28 u29 u30 u31 u32 u33 u34 u35 u36 u37 u38 u39 u40 u41 u42 u43 u44 u45 u46 u47 u48 u49 u50 u51 u52 u53 u54 u55 u56 u57 u58 u59 u60 u61 u62 u63 u64 u65 u66 u67 u68 u69 u70 u71 u72 u73 u74 u75 : Value)
    (hP : RP w B g hd) (hx : hd.exts.length ≤ 1000000) (hR : Rd w (Byt w B) 1 (.slice A n c) n (B8 d)) (hn : n ≤ 2147483647) (hBw : B ≤ w.heap.size) (hee : ∀ w', Keep w0 w' (B ≤ ·) → HErrs w') (hK0 : Keep w0 w (KX w0 B g))
    (hext : hd.ext = true) (hck : chkB pr id d.length = true) (hs : setP hd id d pr = setE { hd with prof := pr } id d) :
    Part Tryd.prog Tryd.f108 14 (bodyPost Tryd.prog Tryd.f108 (OpR (setP hd id d pr) hd B g w0)) ⟨List.toArray (.pointer (some ⟨g, 0, none⟩) :: .int .u8 id :: .slice A n c :: .int .u16 pr :: u4 :: u5 :: u6 :: u7 :: u8 :: u9 :: u10 :: u11 :: u12 :: u13 :: u14 :: u15 :: u16 :: u17 :: u18 :: u19 :: u20 :: u21 :: u22 :: u23 :: u24 :: u25 :: u26 :: u27 :: u28 :: u29 :: u30 :: u31 :: u32 :: u33 :: u34 :: u35 :: u36 :: u37 :: u38 :: u39 :: u40 :: u41 :: u42 :: u43 :: u44 :: u45 :: u46 :: u47 :: u48 :: u49 :: u50 :: u51 :: u52 :: u53 :: u54 :: u55 :: u56 :: u57 :: u58 :: u59 :: u60 :: u61 :: u62 :: u63 :: u64 :: u65 :: u66 :: u67 :: u68 :: u69 :: u70 :: u71 :: u72 :: u73 :: u74 :: u75 :: []), []⟩ w := by
  have hl : d.length = n := by have := hR.len; rwa [B8_len] at this
  obtain ⟨hBg, sv, xv, ds, off, hB, hS, hO, hD⟩ := hP
  obtain ⟨A1, c1, rfl⟩ := hS.rd.shape
  obtain ⟨Ax, cx, rfl⟩ := hO.rd.shape
  have HB := hide hB
  have x9 := hB.cell 9 (v := .int .u16 hd.prof) rfl
  have f9 := hB.free 9
  have lg := hB.lt
  have fin : ∀ w1, Blk w1 g 108 (rcells { hd with prof := pr } (.slice A1 hd.srcs.length c1) (.slice Ax hd.exts.length cx) off) → Keep w w1 (· = g) → RP w1 B g { hd with prof := pr } ∧ Rd w1 (Byt w1 B) 1 (.slice A n c) n (B8 d) ∧ B ≤ w1.heap.size := fun w1 hb hk => by
    have hby : ∀ q, Byt w B q → ¬ q = g := fun q hq e => hq.ne_blk hB (by decide) e
    exact ⟨⟨hBg, _, _, ds, off, hb, hS.keep hk (fun q hq e => (hS.ne_ hB (by decide)) (e ▸ hq)), hO.keep hk (fun q hq e => (hO.ne_ hB (by decide)) (e ▸ hq)), hD.byt hk hby⟩, hR.byt hk hby, Nat.le_trans hBw hk.size⟩
  have HF := hide fin
  have HEE := hide hee
  have HK0 := hide hK0
  have HS2 := hide hs
  have HEXT := hide hext
  have HCK := hide hck
  have HL := hide hl
  clear fin hB hS hO hD hR hee hK0 hs hext hck hl
  refine part_open (fun c0 hc K hK => ?_)
  conv at hc => rhs; whnf
  subst hc
  dsimp only [xOf, yOf] at hK ⊢
  go_upto_region 15 with fail
  generalize hw1 : World.setCell w _ _ = w1
  have hk1 : Keep w w1 (· = g) := by subst hw1; exact (Keep.refl w (· = g)).setg 9 (fun _ => rfl) _
  have hb1 : Blk w1 g 108 (rcells { hd with prof := pr } (.slice A1 hd.srcs.length c1) (.slice Ax hd.exts.length cx) off) := by subst hw1; exact HB.out.set_ 9 _
  obtain ⟨f1, f2, f3⟩ := HF.out w1 hb1 hk1
  have hK01 : Keep w0 w1 (KX w0 B g) := HK0.out.kx_trans (hk1.kx_g hBg)
  have hSW := hide (set_walk (hd := { hd with prof := pr }) (id := id) (d := d) w1 f1 hx f2 hn f3 (HEE.out w1 hK01.kx_b))
  have HK1 := hide hK01
  clear hw1 hk1 hb1 f1 f2 f3 hK01 x9 f9
  go_wp2_with fail
  refine (hSW.out).mono ?_
  rintro e w2 ⟨k2, hcase⟩
  have hse : setE { hd with prof := pr } id d = some { { hd with prof := pr } with exts := putE hd.exts id d } := by
    unfold setE
    rw [if_pos HEXT.out, if_pos HCK.out]
  rcases hcase with ⟨hd', hs', rfl, hrp⟩ | ⟨hs', _⟩
  · have HH := hide hs'
    have HRP := hide hrp
    have K2 := hide (HK1.out.kx_trans k2)
    clear hs' hrp k2 hse
    go_wp2_with fail
    (try go_ret)
    exact ⟨K2.out, .inl ⟨hd', by rw [HS2.out]; exact HH.out, rfl, HRP.out⟩⟩
  · rw [hse] at hs'
    cases hs'

set_option maxHeartbeats 3200000 in
theorem setp_walk {hd : Hd} {g B n c : Nat} {A : Option Addr} {id pr : Int} {d : List Int} (w : World) (hP : RP w B g hd) (hx : hd.exts.length ≤ 1000000) (hR : Rd w (Byt w B) 1 (.slice A n c) n (B8 d)) (hn : n ≤ 2147483647) (hBw : B ≤ w.heap.size) (hee : ∀ w', Keep w w' (B ≤ ·) → HErrs w') :
    Calls Tryd.prog 108 #[.pointer (some ⟨g, 0, none⟩), .int .u8 id, .slice A n c, .int .u16 pr] w (OpR (setP hd id d pr) hd B g w) := by
  have hl : d.length = n := by have := hR.len; rwa [B8_len] at this
  have HP := hide hP
  have HR := hide hR
  have HEE := hide hee
  have HL := hide hl
  have he0 := hide (hee w (Keep.refl w _))
  have hP1 := hP
  obtain ⟨hBg, sv, xv, ds, off, hB, hS, hO, hD⟩ := hP1
  obtain ⟨A1, c1, rfl⟩ := hS.rd.shape
  obtain ⟨Ax, cx, rfl⟩ := hO.rd.shape
  have HB := hide hB
  have HO := hide hO
  have HD := hide hD
  have x2 := hB.cell 2 (v := .bool hd.ext) rfl
  have x9 := hB.cell 9 (v := .int .u16 hd.prof) rfl
  have x10 := hB.cell 10 (v := .slice Ax hd.exts.length cx) rfl
  have lg := hB.lt
  clear hB hS hO hD hR hee hl hP
  cases hext : hd.ext with
  | false =>
    have HSP := hide (show setP hd id d pr = setE hd id d by unfold setP; rw [if_pos (.inl hext)])
    rw [hext] at x2
    clear hext
    have hSW := hide (set_walk (id := id) (d := d) w HP.out hx HR.out hn hBw he0.out)
    go_enter Tryd.func108, Tryd.ntmps108
    go_wp2_with fail
    refine (hSW.out).mono ?_
    rintro e w2 ⟨k2, hcase⟩
    have K2 := hide k2
    clear k2
    rcases hcase with ⟨hd', hs', rfl, hrp⟩ | ⟨hs', ⟨te, ve, rfl⟩, hrp⟩
    · have HH := hide hs'
      have HRP := hide hrp
      clear hs' hrp
      go_wp2_with fail
      (try go_ret)
      exact ⟨K2.out, .inl ⟨hd', by rw [HSP.out]; exact HH.out, rfl, HRP.out⟩⟩
    · have HH := hide hs'
      have HRP := hide hrp
      clear hs' hrp
      go_wp2_with fail
      (try go_ret)
      exact ⟨K2.out, .inr ⟨by rw [HSP.out]; exact HH.out, ⟨te, ve, rfl⟩, HRP.out⟩⟩
  | true =>
    rw [hext] at x2
    have HEXT := hide hext
    clear hext
    by_cases hpp : hd.prof = pr
    · have s1 : (hd.prof == pr) = true := by simp [hpp]
      have HSP := hide (show setP hd id d pr = setE hd id d by unfold setP; rw [if_pos (.inr hpp)])
      clear hpp
      have hSW := hide (set_walk (id := id) (d := d) w HP.out hx HR.out hn hBw he0.out)
      go_enter Tryd.func108, Tryd.ntmps108
      go_wp2_with fail
      refine (hSW.out).mono ?_
      rintro e w2 ⟨k2, hcase⟩
      have K2 := hide k2
      clear k2
      rcases hcase with ⟨hd', hs', rfl, hrp⟩ | ⟨hs', ⟨te, ve, rfl⟩, hrp⟩
      · have HH := hide hs'
        have HRP := hide hrp
        clear hs' hrp
        go_wp2_with fail
        (try go_ret)
        exact ⟨K2.out, .inl ⟨hd', by rw [HSP.out]; exact HH.out, rfl, HRP.out⟩⟩
      · have HH := hide hs'
        have HRP := hide hrp
        clear hs' hrp
        go_wp2_with fail
        (try go_ret)
        exact ⟨K2.out, .inr ⟨by rw [HSP.out]; exact HH.out, ⟨te, ve, rfl⟩, HRP.out⟩⟩
    · have s1 : (hd.prof == pr) = false := by simpa using hpp
      cases hck : chkB pr id d.length with
      | false =>
        have HSP := hide (show setP hd id d pr = none by unfold setP; rw [if_neg (by rw [HEXT.out]; simp [hpp]), if_pos hck])
        have hC := hide (hchk0_f (p := pr) (id := id) (A := A) (n := n) (c := c) w he0.out (by rw [← HL.out]; exact hck))
        clear hpp hck
        go_enter Tryd.func108, Tryd.ntmps108
        go_wp2_with fail
        refine (hC.out).mono ?_
        rintro e w2 ⟨te, ve, rfl, rfl⟩
        go_wp2_with fail
        (try go_ret)
        exact ⟨Keep.refl _ _, .inr ⟨HSP.out, ⟨te, ve, rfl⟩, HP.out⟩⟩
      | true =>
        have hC := hide (hchk0_t (p := pr) (id := id) (A := A) (n := n) (c := c) w he0.out (by rw [← HL.out]; exact hck))
        by_cases hone : pr = 48862
        · have s2 : (pr == 48862) = true := by simp [hone]
          have HONE := hide hone
          have HPP := hide hpp
          have HCK := hide hck
          clear hpp hck hone
          go_enter Tryd.func108, Tryd.ntmps108
          go_wp2_with fail
          refine (hC.out).mono ?_
          rintro e w2 ⟨rfl, rfl⟩
          go_wp2_with fail
          go_loopw [43] (fun s43 wr => ∃ k : Nat, k ≤ hd.exts.length ∧ s43 = .int .i64 (k : Int) ∧ (∀ x ∈ hd.exts.take k, chkB pr x.id x.data.length = true) ∧ Keep w wr Nul) (fun s43 _ => hd.exts.length - (intOf s43).toNat)
          case atStart => exact ⟨0, Nat.zero_le _, rfl, by simp, Keep.refl _ _⟩
          case round =>
            obtain ⟨k, hk, rfl, hne, hK⟩ := hrel
            have HNE := hide hne
            have KK := hide hK
            have BR := hide (HB.out.keep hK (fun e => e))
            have HSP1 := fun (hall : ∀ x ∈ hd.exts, chkB pr x.id x.data.length = true) => (show setP hd id d pr = setE { hd with prof := pr } id d by
              unfold setP
              rw [if_neg (by rw [HEXT.out]; simp [HPP.out]), if_neg (by rw [HCK.out]; simp), if_neg (by
                rintro ⟨_, h⟩
                rw [List.any_eq_true] at h
                obtain ⟨x, hx1, hx2⟩ := h
                rw [hall x hx1] at hx2
                cases hx2)])
            have HSP := hide HSP1
            clear HSP1 hC
            by_cases hlt : k < hd.exts.length
            · have hxk : hd.exts[k]? = some hd.exts[k] := List.getElem?_eq_getElem _
              have hXR : XR w (B ≤ ·) (.slice Ax hd.exts.length cx) hd.exts := ⟨ds, HD.out.mono (fun i _ hi => hi.1), HO.out.rdB⟩
              obtain ⟨gx, ox, cx', dv, hv, q1, q2, q3, q4, p5, p6, q7⟩ := hXR.at_ hxk
              injection hv with e1 _ e3
              subst e1 e3
              have hox : ox = 0 := by
                rcases HO.out.2 with ⟨h0, _⟩ | ⟨g', _, _, _, hv', _⟩
                · cases h0
                · injection hv' with e
                  injection e with e
                  injection e with _ e
              subst hox
              have HXK := hide hxk
              clear hxk
              generalize hd.exts[k] = x at *
              have q5 := hK.cell (fun e => e) p5
              have q6 := hK.cell (fun e => e) p6
              obtain ⟨Ad, cd, rfl⟩ := q7.shape
              rw [Nat.zero_add] at q5 q6
              have hgx : gx < wr.heap.size := Nat.lt_of_lt_of_le q4 hK.size
              have lgr := BR.out.lt
              have x10r := BR.out.cell 10 (v := .slice (some ⟨gx, 0, none⟩) hd.exts.length cx) rfl
              have her := hide ((HEE.out wr (hK.nul _)))
              clear p5 p6 q7 hXR hne hK
              cases hcx : chkB pr x.id x.data.length with
              | true =>
                have hCk := hide (hchk0_t (p := pr) (id := x.id) (A := Ad) (n := x.data.length) (c := cd) wr.drew (her.out.keep0 ((Keep.refl wr Nul).drew)) hcx)
                have HCX := hide hcx
                clear hcx
                go_upto_region 10 with fail
                go_region_held3 (fun w' => w'.cell? ⟨g, 10, none⟩ = some (.slice (some ⟨gx, 0, none⟩) hd.exts.length cx) ∧ w'.cell? ⟨gx, k * 2, none⟩ = some (.int .u8 x.id) ∧ w'.cell? ⟨gx, k * 2 + 1, none⟩ = some (.slice Ad x.data.length cd))
                  (first | exact ⟨x10r, q5, q6⟩)
                  (first
                    | (go_at_call 106; refine (hCk.out).mono ?_; rintro e wq ⟨rfl, rfl⟩))
                go_wp2_with fail
                go_roundw
                case rel =>
                  refine ⟨k + 1, by omega, by go_num, fun y hy => ?_, KK.out.drew⟩
                  obtain ⟨hk', e⟩ := List.getElem?_eq_some_iff.1 HXK.out
                  rw [List.take_succ_eq_append_getElem hk', e] at hy
                  rcases List.mem_append.1 hy with hy | hy
                  · exact HNE.out y hy
                  · simp at hy
                    rw [hy]; exact HCX.out
                case measure => simp [intOf]; omega
              | false =>
                have hCk := hide (hchk0_f (p := pr) (id := x.id) (A := Ad) (n := x.data.length) (c := cd) wr.drew (her.out.keep0 ((Keep.refl wr Nul).drew)) hcx)
                have HNO := hide (show setP hd id d pr = none by
                  unfold setP
                  rw [if_neg (by rw [HEXT.out]; simp [HPP.out]), if_neg (by rw [HCK.out]; simp), if_pos ⟨HONE.out, by
                    rw [List.any_eq_true]
                    exact ⟨x, List.mem_of_getElem? HXK.out, by rw [hcx]; rfl⟩⟩])
                clear hcx
                go_upto_region 10 with fail
                go_region_held3 (fun w' => w'.cell? ⟨g, 10, none⟩ = some (.slice (some ⟨gx, 0, none⟩) hd.exts.length cx) ∧ w'.cell? ⟨gx, k * 2, none⟩ = some (.int .u8 x.id) ∧ w'.cell? ⟨gx, k * 2 + 1, none⟩ = some (.slice Ad x.data.length cd))
                  (first | exact ⟨x10r, q5, q6⟩)
                  (first
                    | (go_at_call 106; refine (hCk.out).mono ?_; rintro e wq ⟨te, ve, rfl, rfl⟩))
                go_wp2_with fail
                (try go_ret)
                have hPr : RP wr.drew B g hd := by
                  obtain ⟨hBg, sv, xv, ds, off, hB, hS, hO, hD⟩ := HP.out
                  exact ⟨hBg, sv, xv, ds, off, hB.keep KK.out.drew (fun e => e), hS.keep0 KK.out.drew, hO.keep0 KK.out.drew, hD.byt KK.out.drew (fun _ _ e => e)⟩
                exact ⟨KK.out.drew.nul _, .inr ⟨HNO.out, ⟨te, ve, rfl⟩, hPr⟩⟩
            · obtain rfl : k = hd.exts.length := by omega
              rw [List.take_length] at hne
              have HS1 := hide (HSP.out hne)
              have hPr : RP wr B g hd := by
                obtain ⟨hBg, sv, xv, ds, off, hB, hS, hO, hD⟩ := HP.out
                exact ⟨hBg, sv, xv, ds, off, hB.keep hK (fun e => e), hS.keep0 hK, hO.keep0 hK, hD.byt hK (fun _ _ e => e)⟩
              have HPr := hide hPr
              have HRr := hide (HR.out.byt hK (fun _ _ e => e))
              have hbr : B ≤ wr.heap.size := Nat.le_trans hBw hK.size
              clear hne hK hPr
              go_upto_region 14 with fail
              exact part_use (setp_p14 wr _ _ _ _ _ _ _ _ _ _ _ _ _ _ _ _ _ _ _ _ _ _ _ _ _ _ _ _ _ _ _ _ _ _ _ _ _ _ _ _ _ _ _ _ _ _ _ _ _ _ _ _ _ _ _ _ _ _ _ _ _ _ _ _ _ _ _ _ _ _ _ _ HPr.out hx HRr.out hn hbr HEE.out (KK.out.nul _) HEXT.out HCK.out HS1.out) rfl rfl (by assumption)
        · have s2 : (pr == 48862) = false := by simpa using hone
          have HSP := hide (show setP hd id d pr = setE { hd with prof := pr } id d by unfold setP; rw [if_neg (by rw [HEXT.out]; simp [hpp]), if_neg (by rw [hck]; simp), if_neg (by simp [hone])])
          have HCK := hide hck
          clear hpp hck hone
          go_enter Tryd.func108, Tryd.ntmps108
          go_wp2_with fail
          refine (hC.out).mono ?_
          rintro e w2 ⟨rfl, rfl⟩
          go_upto_region 14 with fail
          exact part_use (setp_p14 w _ _ _ _ _ _ _ _ _ _ _ _ _ _ _ _ _ _ _ _ _ _ _ _ _ _ _ _ _ _ _ _ _ _ _ _ _ _ _ _ _ _ _ _ _ _ _ _ _ _ _ _ _ _ _ _ _ _ _ _ _ _ _ _ _ _ _ _ _ _ _ _ HP.out hx HR.out hn hBw HEE.out (Keep.refl w _) HEXT.out HCK.out HSP.out) rfl rfl (by assumption)
end Go.Proofs.YtdmnflngafbobaaDoor
namespace Go.Proofs.YtdmnflngafbobaaDoor
open Go.RowKit
set_option linter.unusedVariables false
set_option linter.unusedSimpArgs false
set_option maxRecDepth 100000

/-- The cells of a step. -/
def scells (what id : Int) (A : Option Addr) (n c : Nat) (pr : Int) : Array Value := #[.int .i64 what, .int .u8 id, .slice A n c, .int .u16 pr]
theorem RP.keep {w w' : World} {B g : Nat} {hd : Hd} (h : RP w B g hd) (k : Keep w w' Nul) : RP w' B g hd := by
  obtain ⟨hBg, sv, xv, ds, off, hB, hS, hO, hD⟩ := h
  exact ⟨hBg, sv, xv, ds, off, hB.keep k (fun e => e), hS.keep0 k, hO.keep0 k, hD.byt k (fun _ _ e => e)⟩

set_option maxHeartbeats 3200000 in
theorem step1_walk {p : Nat → Prop} {hd : Hd} {g B n c : Nat} {A : Option Addr} {id pr : Int} {d : List Int} (w : World) (hP : RP w B g hd) (hx : hd.exts.length ≤ 1000000) (hR : Rd w p 1 (.slice A n c) n (B8 d)) (hn : n ≤ 2147483647) (hBw : B ≤ w.heap.size) (hee : ∀ w', Keep w w' (B ≤ ·) → HErrs w') :
    Calls Tryd.prog 82 #[.pointer (some ⟨g, 0, none⟩), .agg (scells 1 id A n c pr)] w fun e w' => e = .returned (.bool (setP hd id d pr).isSome) ∧ RP w' B g ((setP hd id d pr).getD hd) ∧ Keep w w' (KX w B g) := by
  have hl : d.length = n := by have := hR.len; rwa [B8_len] at this
  have HP := hide hP
  have HR := hide (hR.mono (q := (· < w.heap.size)) (fun k hk _ => hk))
  have HEE := hide hee
  have HL := hide hl
  have lg : g < w.heap.size := by
    obtain ⟨_, _, _, _, _, hB, _⟩ := hP
    exact hB.lt
  clear hP hR hee hl
  unfold scells
  go_enter Tryd.func82, Tryd.ntmps82
  go_upto_region 5 with fail
  generalize hwa : World.alloc w _ = wa
  have BX := hide (show Blk wa w.heap.size 76 (scells 1 id A n c pr) by subst hwa; exact Blk.new w _ _)
  have KA := hide (show Keep w wa Nul by subst hwa; exact (Keep.refl w Nul).alloc _)
  have hza : wa.heap.size = w.heap.size + 1 := by subst hwa; simp [World.size_alloc]
  generalize hv0 : Value.agg _ = v0
  clear hwa hv0
  have s1 := BX.out.cell 1 (v := .int .u8 id) rfl
  have s2 := BX.out.cell 2 (v := .slice A n c) rfl
  have s3 := BX.out.cell 3 (v := .int .u16 pr) rfl
  have hC := hide (clone_b wa.drew ((HR.out.keep0 KA.out).drew) (B8_one _) (by omega))
  refine wp_region_noPanic ?_
  refine region_last' (S := fun w' => w'.cell? ⟨w.heap.size, 1, none⟩ = some (.int .u8 id) ∧ w'.cell? ⟨w.heap.size, 2, none⟩ = some (.slice A n c) ∧ w'.cell? ⟨w.heap.size, 3, none⟩ = some (.int .u16 pr)) (by kernel_rfl) (by kernel_rfl) (by simp only [List.dropLast_cons_cons, List.dropLast_singleton]; rfl) (by simp only [List.getLast?_cons_cons, List.getLast?_singleton]; rfl) (⟨s1, s2, s3⟩) (fun hHeld => ?_)
  simp only [List.length_cons, List.length_nil, Nat.reduceAdd, Nat.zero_add]
  refine wpAnyH_take (i := 0) (v := ?_) (by simp only [List.getElem?_toArray, List.getElem?_cons_succ, List.getElem?_cons_zero]; rfl) (by kernel_rfl) (by kernel_rfl) (by kernel_rfl) (fun _ _ _ h => h) (Or.inl ⟨by rfl, ?_⟩) (by assumption) ?_
  rotate_left 1
  · (intro w hSw; (try dsimp only at hSw); go_simp; (try with_reducible rfl))
  try simp only [Act.put, List.setIfInBounds_toArray, List.set_cons_zero, List.set_cons_succ]
  refine wpAnyH_take (i := 1) (v := ?_) (by simp only [List.getElem?_toArray, List.getElem?_cons_succ, List.getElem?_cons_zero]; rfl) (by kernel_rfl) (by kernel_rfl) (by kernel_rfl) (fun _ _ _ h => h) (Or.inl ⟨by rfl, ?_⟩) (by assumption) ?_
  rotate_left 1
  · (intro w hSw; (try dsimp only at hSw); go_simp; (try with_reducible rfl))
  try simp only [Act.put, List.setIfInBounds_toArray, List.set_cons_zero, List.set_cons_succ]
  refine wpAnyH_take (i := 2) (v := ?_) (by simp only [List.getElem?_toArray, List.getElem?_cons_succ, List.getElem?_cons_zero]; rfl) (by kernel_rfl) (by kernel_rfl) (by kernel_rfl) (fun _ _ _ h => h) (Or.inl ⟨by rfl, ?_⟩) (by assumption) ?_
  rotate_left 1
  · (intro w hSw; (try dsimp only at hSw); go_simp; (try with_reducible rfl))
  try simp only [Act.put, List.setIfInBounds_toArray, List.set_cons_zero, List.set_cons_succ]
  refine wpAnyH_take (i := 3) (v := ?_) (by simp only [List.getElem?_toArray, List.getElem?_cons_succ, List.getElem?_cons_zero]; rfl) (by kernel_rfl) (by kernel_rfl) (by kernel_rfl) (fun _ _ _ h => h) (Or.inl ⟨by rfl, ?_⟩) (by assumption) ?_
  rotate_left 1
  · (intro w hSw; (try dsimp only at hSw); go_simp; (try with_reducible rfl))
  try simp only [Act.put, List.setIfInBounds_toArray, List.set_cons_zero, List.set_cons_succ]
  refine wpAnyH_take (i := 4) (v := ?_) (by simp only [List.getElem?_toArray, List.getElem?_cons_succ, List.getElem?_cons_zero]; rfl) (by kernel_rfl) (by kernel_rfl) (by kernel_rfl) (fun _ _ _ h => h) (Or.inl ⟨by rfl, ?_⟩) (by assumption) ?_
  rotate_left 1
  · (intro w hSw; (try dsimp only at hSw); go_simp; (try with_reducible rfl))
  try simp only [Act.put, List.setIfInBounds_toArray, List.set_cons_zero, List.set_cons_succ]
  refine wpAnyH_take (i := 6) (v := ?_) (by simp only [List.getElem?_toArray, List.getElem?_cons_succ, List.getElem?_cons_zero]; rfl) (by kernel_rfl) (by kernel_rfl) (by kernel_rfl) (fun _ _ _ h => h) (Or.inl ⟨by rfl, ?_⟩) (by assumption) ?_
  rotate_left 1
  · (intro w hSw; (try dsimp only at hSw); go_simp; (try with_reducible rfl))
  try simp only [Act.put, List.setIfInBounds_toArray, List.set_cons_zero, List.set_cons_succ]
  refine wpAnyH_take (i := 7) (v := ?_) (by simp only [List.getElem?_toArray, List.getElem?_cons_succ, List.getElem?_cons_zero]; rfl) (by kernel_rfl) (by kernel_rfl) (by kernel_rfl) (fun _ _ _ h => h) (Or.inl ⟨by rfl, ?_⟩) (by assumption) ?_
  rotate_left 1
  · (intro w hSw; (try dsimp only at hSw); go_simp; (try with_reducible rfl))
  try simp only [Act.put, List.setIfInBounds_toArray, List.set_cons_zero, List.set_cons_succ]
  refine wpAnyH_ready (rs := [5]) (by kernel_rfl) (by simp) ?_
  refine AllReadyH.cons (by simp only [List.getElem?_toArray, List.getElem?_cons_succ, List.getElem?_cons_zero]; rfl) (fun K hK => ?_) AllReadyH.nil
  go_simp
  go_at_call 65
  refine (hC.out).mono ?_
  rintro e w1 ⟨v1, rfl, o1, k1, -⟩
  have bx1 := BX.out.drew.keep k1 (fun e => e)
  obtain ⟨A1, c1, rfl⟩ := o1.rd.shape
  have K1 := hide (((KA.out).drew).trans0 k1)
  have O1 := hide o1
  have hz1 := k1.size
  clear k1 o1
  simp only []
  refine hK.out _ _ (⟨bx1.cell 1 rfl, bx1.cell 2 rfl, bx1.cell 3 rfl⟩) (fun hHeld => ?_)
  clear hK K
  try simp only [Act.put, List.setIfInBounds_toArray, List.set_cons_zero, List.set_cons_succ]
  have hRc := hide ((O1.out.byt).mono (q := Byt w1 B) (fun k _ hk => hk.low (by have : wa.heap.size ≤ wa.drew.heap.size := Nat.le_refl _; omega)))
  have hbt : (Value.slice A1 n c1).ownBlock ≠ some g := fun e => by have := (O1.out.at_ g e).1; have : wa.heap.size ≤ g := this; omega
  have hSW := hide (setp_walk (hd := hd) (id := id) (pr := pr) (d := d) w1 (HP.out.keep K1.out) hx hRc.out hn (Nat.le_trans hBw K1.out.size) (fun w' k => HEE.out w' (K1.out.nul (B ≤ ·) |>.trans k (fun _ _ e => e))))
  refine wpAnyH_ready (rs := [8]) (by kernel_rfl) (by simp) ?_
  refine AllReadyH.cons (by simp only [List.getElem?_toArray, List.getElem?_cons_succ, List.getElem?_cons_zero]; rfl) (fun K hK => ?_) AllReadyH.nil
  go_simp
  go_at_call 108
  refine (hSW.out).mono ?_
  rintro e w2 ⟨k2, hcase⟩
  have bx2 := bx1.keep k2 (fun e => by
    rcases e with ⟨_, e | ⟨cur, fr, e⟩⟩
    · omega
    · have b := bx1
      unfold Blk at b
      rw [b] at e
      injection e with e
      injection e with _ e _
      exact absurd e (by decide))
  have K2 := hide ((K1.out.nul (KX w B g)).kx_trans (k2.mono (fun _ _ e => e)))
  clear k2
  rcases hcase with ⟨hd', hs', rfl, hrp⟩ | ⟨hs', ⟨te, ve, rfl⟩, hrp⟩
  · have HS := hide hs'
    have HRP := hide hrp
    clear hs' hrp
    simp only []
    refine hK.out _ _ (⟨bx2.cell 1 rfl, bx2.cell 2 rfl, bx2.cell 3 rfl⟩) (fun hHeld => ?_)
    clear hK K
    try simp only [Act.put, List.setIfInBounds_toArray, List.set_cons_zero, List.set_cons_succ]
    refine wpAnyH_take (i := 9) (v := ?_) (by simp only [List.getElem?_toArray, List.getElem?_cons_succ, List.getElem?_cons_zero]; rfl) (by kernel_rfl) (by kernel_rfl) (by kernel_rfl) (fun _ _ _ h => h) (Or.inl ⟨by rfl, ?_⟩) (by assumption) ?_
    rotate_left 1
    · (intro w hSw; (try dsimp only at hSw); go_simp; (try with_reducible rfl))
    try simp only [Act.put, List.setIfInBounds_toArray, List.set_cons_zero, List.set_cons_succ]
    refine wpAnyH_done (by kernel_rfl) ?_ _
    intro K hK
    go_simp
    refine hK _ _ (NoPanic.normal ?_)
    clear hK K
    go_wp2_with fail
    (try go_ret)
    rw [HS.out]
    exact ⟨rfl, HRP.out, K2.out⟩
  · have HS := hide hs'
    have HRP := hide hrp
    clear hs' hrp
    simp only []
    refine hK.out _ _ (⟨bx2.cell 1 rfl, bx2.cell 2 rfl, bx2.cell 3 rfl⟩) (fun hHeld => ?_)
    clear hK K
    try simp only [Act.put, List.setIfInBounds_toArray, List.set_cons_zero, List.set_cons_succ]
    refine wpAnyH_take (i := 9) (v := ?_) (by simp only [List.getElem?_toArray, List.getElem?_cons_succ, List.getElem?_cons_zero]; rfl) (by kernel_rfl) (by kernel_rfl) (by kernel_rfl) (fun _ _ _ h => h) (Or.inl ⟨by rfl, ?_⟩) (by assumption) ?_
    rotate_left 1
    · (intro w hSw; (try dsimp only at hSw); go_simp; (try with_reducible rfl))
    try simp only [Act.put, List.setIfInBounds_toArray, List.set_cons_zero, List.set_cons_succ]
    refine wpAnyH_done (by kernel_rfl) ?_ _
    intro K hK
    go_simp
    refine hK _ _ (NoPanic.normal ?_)
    clear hK K
    go_wp2_with fail
    (try go_ret)
    rw [HS.out]
    exact ⟨rfl, HRP.out, K2.out⟩
end Go.Proofs.YtdmnflngafbobaaDoor
namespace Go.Proofs.YtdmnflngafbobaaDoor
open Go.RowKit
set_option linter.unusedVariables false
set_option linter.unusedSimpArgs false
set_option maxRecDepth 100000

structure St where
  what : Int
  id : Int
  data : List Int
  prof : Int
/-- A header with an extension deleted; none: an error. -/
def delE (hd : Hd) (id : Int) : Option Hd :=
  if hd.ext = false then none else match fi hd.exts id with
    | none => none
    | some k => some (if (hd.exts.eraseIdx k).length = 0 then { hd with ext := false, prof := 0, exts := [] } else { hd with exts := hd.exts.eraseIdx k })
def stepE (hd : Hd) (s : St) : Option Hd :=
  if s.what = 0 then setE hd s.id s.data
  else if s.what = 1 then setP hd s.id s.data s.prof
  else if s.what = 2 then delE hd s.id
  else if s.what = 3 then some { hd with ext := false, prof := 0, exts := [] }
  else none
def runE : Hd → List St → Hd × List Bool
  | hd, [] => (hd, [])
  | hd, s :: ss => ((runE ((stepE hd s).getD hd) ss).1, (stepE hd s).isSome :: (runE ((stepE hd s).getD hd) ss).2)
theorem runE_snoc : ∀ (ss : List St) (hd : Hd) (s : St), runE hd (ss ++ [s]) = ((stepE (runE hd ss).1 s).getD (runE hd ss).1, (runE hd ss).2 ++ [(stepE (runE hd ss).1 s).isSome])
  | [], hd, s => rfl
  | t :: ss, hd, s => by
    simp only [List.cons_append, runE, runE_snoc ss]

/-- impl.step does this step as it is said. -/
def StepE (E : World → Prop) (s : St) : Prop :=
  ∀ (p : Nat → Prop) (hd : Hd) (g B n c : Nat) (A : Option Addr) (w : World), RP w B g hd → hd.exts.length ≤ 1000000 → Rd w p 1 (.slice A n c) n (B8 s.data) → n ≤ 2147483647 → B ≤ w.heap.size → (∀ w', Keep w w' (B ≤ ·) → E w') →
    Calls Tryd.prog 82 #[.pointer (some ⟨g, 0, none⟩), .agg (scells s.what s.id A n c s.prof)] w fun e w' => e = .returned (.bool (stepE hd s).isSome) ∧ RP w' B g ((stepE hd s).getD hd) ∧ Keep w w' (KX w B g)
theorem stepOK1 {s : St} (h : s.what = 1) : StepE HErrs s := by
  intro p hd g B n c A w h1 h2 h3 h4 h5 h6
  have he : stepE hd s = setP hd s.id s.data s.prof := by unfold stepE; rw [h]; rfl
  rw [he, h]
  exact step1_walk w h1 h2 h3 h4 h5 h6

/-- The closure of Run. -/
theorem run1_walk {E : World → Prop} {p : Nat → Prop} {s : St} {hd : Hd} {g g6 g9 B n c : Nat} {A : Option Addr} {t6 : TypeId} (w : World) (hs : StepE E s) (h6 : Blk w g6 t6 #[.pointer (some ⟨g, 0, none⟩)]) (h9 : Blk w g9 76 (scells s.what s.id A n c s.prof))
    (hP : RP w B g hd) (hx : hd.exts.length ≤ 1000000) (hR : Rd w p 1 (.slice A n c) n (B8 s.data)) (hn : n ≤ 2147483647) (hBw : B ≤ w.heap.size) (hee : ∀ w', Keep w w' (B ≤ ·) → E w') :
    Calls Tryd.prog 81 #[.pointer (some ⟨g6, 0, none⟩), .pointer (some ⟨g9, 0, none⟩)] w fun e w' => e = .returned (.bool (stepE hd s).isSome) ∧ RP w' B g ((stepE hd s).getD hd) ∧ Keep w w' (KX w B g) := by
  have hS := hide (hs p hd g B n c A w hP hx hR hn hBw hee)
  have c6 := h6.cell 0 (v := .pointer (some ⟨g, 0, none⟩)) rfl
  have s0 := h9.cell 0 (v := .int .i64 s.what) rfl
  have s1 := h9.cell 1 (v := .int .u8 s.id) rfl
  have s2 := h9.cell 2 (v := .slice A n c) rfl
  have s3 := h9.cell 3 (v := .int .u16 s.prof) rfl
  generalize hb : (stepE hd s).isSome = b at *
  generalize hh : (stepE hd s).getD hd = hd' at *
  clear hs h6 h9 hP hR hee hb hh
  go_enter Tryd.func81, Tryd.ntmps81
  go_wp2_with fail
  refine Calls.mono (show Calls _ _ #[.pointer (some ⟨g, 0, none⟩), .agg (scells s.what s.id A n c s.prof)] _ _ from hS.out) ?_
  rintro e w1 ⟨rfl, hrp, k1⟩
  have HRP := hide hrp
  have K1 := hide k1
  clear hrp k1
  go_wp2_with fail
  (try go_ret)
  exact ⟨rfl, HRP.out, K1.out⟩
end Go.Proofs.YtdmnflngafbobaaDoor
namespace Go.Proofs.YtdmnflngafbobaaDoor
open Go.RowKit
set_option linter.unusedVariables false
set_option linter.unusedSimpArgs false
set_option maxRecDepth 100000

theorem putE_len : ∀ (xs : List Ex) (id : Int) (d : List Int), (putE xs id d).length ≤ xs.length + 1
  | [], _, _ => by simp [putE]
  | x :: xs, id, d => by
    unfold putE
    split
    · simp
    · have := putE_len xs id d; simp; omega
theorem putE_mem : ∀ (xs : List Ex) (id : Int) (d : List Int) (x : Ex), x ∈ putE xs id d → x ∈ xs ∨ x = ⟨id, d⟩
  | [], _, _, x, h => by simp [putE] at h; exact .inr h
  | y :: xs, id, d, x, h => by
    unfold putE at h
    split at h
    · rcases List.mem_cons.1 h with h | h
      · exact .inr h
      · exact .inl (by simp [h])
    · rcases List.mem_cons.1 h with h | h
      · exact .inl (by simp [h])
      · rcases putE_mem xs id d x h with h | h
        · exact .inl (by simp [h])
        · exact .inr h
/-- What a step leaves as it was: no more than one extension more, each as before or the step's own, and all else but the profile and the mark of extensions. -/
structure Gr (hd hd' : Hd) (id : Int) (d : List Int) : Prop where
  len : hd'.exts.length ≤ hd.exts.length + 1
  mem : ∀ x ∈ hd'.exts, x ∈ hd.exts ∨ x = ⟨id, d⟩
  srcs : hd'.srcs = hd.srcs
theorem setE_gr {hd hd' : Hd} {id : Int} {d : List Int} (h : setE hd id d = some hd') : Gr hd hd' id d := by
  unfold setE at h
  split at h
  · split at h
    · injection h with h
      subst h
      exact ⟨putE_len _ _ _, fun x hx => putE_mem _ _ _ x hx, rfl⟩
    · cases h
  · injection h with h
    subst h
    exact ⟨by simp, fun x hx => by simpa using hx, rfl⟩
theorem setP_gr {hd hd' : Hd} {id : Int} {d : List Int} {pr : Int} (h : setP hd id d pr = some hd') : Gr hd hd' id d := by
  unfold setP at h
  split at h
  · exact setE_gr h
  · split at h
    · cases h
    · split at h
      · cases h
      · have := setE_gr h
        exact ⟨this.len, this.mem, this.srcs⟩
theorem stepE_gr {hd hd' : Hd} {s : St} (h : stepE hd s = some hd') : Gr hd hd' s.id s.data := by
  unfold stepE at h
  split at h
  · exact setE_gr h
  · split at h
    · exact setP_gr h
    · split at h
      · unfold delE at h
        split at h
        · cases h
        · split at h
          · cases h
          · rename_i k _
            injection h with h
            subst h
            split
            · exact ⟨by simp, (fun x hx => by cases hx), rfl⟩
            · exact ⟨by have := List.length_eraseIdx_le hd.exts k; show (hd.exts.eraseIdx k).length ≤ _; omega, fun x hx => .inl (List.mem_of_mem_eraseIdx hx), rfl⟩
      · split at h
        · injection h with h
          subst h
          exact ⟨by simp, (fun x hx => by cases hx), rfl⟩
        · cases h
theorem stepE_gr' (hd : Hd) (s : St) : Gr hd ((stepE hd s).getD hd) s.id s.data := by
  cases h : stepE hd s with
  | none => exact ⟨by simp, fun x hx => .inl hx, rfl⟩
  | some hd' => exact stepE_gr h
theorem runE_len : ∀ (ss : List St) (hd : Hd), (runE hd ss).1.exts.length ≤ hd.exts.length + ss.length
  | [], hd => by simp [runE]
  | s :: ss, hd => by
    have h1 := (stepE_gr' hd s).len
    have h2 := runE_len ss ((stepE hd s).getD hd)
    simp only [runE, List.length_cons]
    omega
theorem runE_hs : ∀ (ss : List St) (hd : Hd), hd.srcs.length ≤ 2147483647 → (∀ x ∈ hd.exts, x.data.length ≤ 2147483647) → (∀ s ∈ ss, s.data.length ≤ 2147483647) → (runE hd ss).1.srcs.length ≤ 2147483647 ∧ ∀ x ∈ (runE hd ss).1.exts, x.data.length ≤ 2147483647
  | [], hd, h1, h2, _ => ⟨h1, h2⟩
  | s :: ss, hd, h1, h2, h3 => by
    have g := stepE_gr' hd s
    simp only [runE]
    refine runE_hs ss _ (by rw [g.srcs]; exact h1) (fun x hx => ?_) (fun t ht => h3 t (by simp [ht]))
    rcases g.mem x hx with h | h
    · exact h2 x h
    · rw [h]; exact h3 s (by simp)
theorem runE_len2 : ∀ (ss : List St) (hd : Hd), (runE hd ss).2.length = ss.length
  | [], _ => rfl
  | s :: ss, hd => by simp [runE, runE_len2 ss]

/-- The cells of steps, of which the slices of their bytes are given. -/
def stc : List St → List Value → List Value
  | s :: ss, d :: ds => .int .i64 s.what :: .int .u8 s.id :: d :: .int .u16 s.prof :: stc ss ds
  | _, _ => []
theorem stc_get : ∀ (ss : List St) (ds : List Value) (k : Nat) {s : St} {d : Value}, ss[k]? = some s → ds[k]? = some d → (stc ss ds)[4 * k]? = some (.int .i64 s.what) ∧ (stc ss ds)[4 * k + 1]? = some (.int .u8 s.id) ∧ (stc ss ds)[4 * k + 2]? = some d ∧ (stc ss ds)[4 * k + 3]? = some (.int .u16 s.prof)
  | s :: ss, d :: ds, 0, _, _, h, k => by simp at h k; subst h k; simp [stc]
  | s :: ss, d :: ds, k + 1, _, _, h, h' => by
    have := stc_get ss ds k (by simpa using h) (by simpa using h')
    have e : ∀ j, 4 * (k + 1) + j = 4 * k + j + 1 + 1 + 1 + 1 := fun j => by omega
    have e0 : 4 * (k + 1) = 4 * k + 1 + 1 + 1 + 1 := by omega
    refine ⟨?_, ?_, ?_, ?_⟩
    · rw [e0]; simpa [stc] using this.1
    · rw [e]; simpa [stc] using this.2.1
    · rw [e]; simpa [stc] using this.2.2.1
    · rw [e]; simpa [stc] using this.2.2.2
  | [], _, _, _, _, h, _ => by simp at h
  | _ :: _, [], _, _, _, _, h => by simp at h
/-- A slice of steps. -/
def SR (w : World) (p : Nat → Prop) (v : Value) (ss : List St) : Prop :=
  ∃ ds, ds.length = ss.length ∧ (∀ (k : Nat) (s : St) (d : Value), ss[k]? = some s → ds[k]? = some d → Rd w p 1 d s.data.length (B8 s.data)) ∧ Rd w p 4 v ss.length (stc ss ds)
theorem SR.keep {w w' : World} {p S : Nat → Prop} {v : Value} {ss : List St} (h : SR w p v ss) (k : Keep w w' S) (hp : ∀ i, i < w.heap.size → p i → ¬ S i) : SR w' p v ss :=
  let ⟨ds, h1, h2, h3⟩ := h
  ⟨ds, h1, fun j s d a b => (h2 j s d a b).keep k hp, h3.keep k hp⟩
theorem SR.mono {w : World} {p q : Nat → Prop} {v : Value} {ss : List St} (h : SR w p v ss) (hp : ∀ k, k < w.heap.size → p k → q k) : SR w q v ss :=
  let ⟨ds, h1, h2, h3⟩ := h
  ⟨ds, h1, fun j s d a b => (h2 j s d a b).mono hp, h3.mono hp⟩
theorem SR.at_ {w : World} {p : Nat → Prop} {v : Value} {ss : List St} (h : SR w p v ss) {k : Nat} {s : St} (hs : ss[k]? = some s) :
    ∃ b o c d, v = .slice (some ⟨b, o, none⟩) ss.length c ∧ b < w.heap.size ∧ w.cell? ⟨b, o + k * 4, none⟩ = some (.int .i64 s.what) ∧ w.cell? ⟨b, o + k * 4 + 1, none⟩ = some (.int .u8 s.id) ∧ w.cell? ⟨b, o + k * 4 + 2, none⟩ = some d ∧ w.cell? ⟨b, o + k * 4 + 3, none⟩ = some (.int .u16 s.prof) ∧ Rd w p 1 d s.data.length (B8 s.data) := by
  obtain ⟨ds, h1, h2, h3⟩ := h
  have hk := (List.getElem?_eq_some_iff.1 hs).1
  obtain ⟨b, o, c, hv, e1, e2, e3, e4, e5⟩ := h3.lit (by omega)
  have hd : ds[k]? = some (ds[k]'(by rw [h1]; exact hk)) := List.getElem?_eq_getElem _
  have g := stc_get ss ds k hs hd
  rw [Nat.mul_comm] at g
  exact ⟨b, o, c, _, hv, e4, e5 _ _ g.1, e5 _ _ g.2.1, e5 _ _ g.2.2.1, e5 _ _ g.2.2.2, h2 k s _ hs hd⟩
theorem SR.shape {w : World} {p : Nat → Prop} {v : Value} {ss : List St} (h : SR w p v ss) : ∃ A c, v = .slice A ss.length c := by
  obtain ⟨ds, _, _, h⟩ := h
  exact h.shape

theorem RP.far {w : World} {B g m : Nat} {t : TypeId} {hd : Hd} {cs : Array Value} (h : RP w B g hd) (hm : Blk w m t cs) (h1 : t ≠ 108) (h2 : t ≠ 23) (h3 : t ≠ 139) (h4 : t ≠ 5) (u : Value) : RP (w.setCell ⟨m, 0, none⟩ u) B g hd := by
  obtain ⟨hBg, sv, xv, ds, off, hB, hS, hO, hD⟩ := h
  have k : Keep w (w.setCell ⟨m, 0, none⟩ u) (· = m) := Keep.set1 _ _ _ _
  exact ⟨hBg, sv, xv, ds, off, hB.keep k (fun e => (hB.ne_ hm (Ne.symm h1)) e), hS.keep k (fun q hq e => (hS.ne_ hm (Ne.symm h2)) (e ▸ hq)), hO.keep k (fun q hq e => (hO.ne_ hm (Ne.symm h3)) (e ▸ hq)), hD.byt k (fun q hq e => hq.ne_blk hm h4 e)⟩

/-- impl.try over the closure of Run. -/
theorem run_try {E : World → Prop} {p : Nat → Prop} {s : St} {hd : Hd} {g g6 g9 B n c : Nat} {A : Option Addr} {t6 : TypeId} (w : World) (hs : StepE E s) (h6 : Blk w g6 t6 #[.pointer (some ⟨g, 0, none⟩)]) (h9 : Blk w g9 76 (scells s.what s.id A n c s.prof))
    (hP : RP w B g hd) (hx : hd.exts.length ≤ 1000000) (hR : Rd w p 1 (.slice A n c) n (B8 s.data)) (hn : n ≤ 2147483647) (hBw : B ≤ w.heap.size) (hee : ∀ w', Keep w w' (B ≤ ·) → E w') :
    Calls Tryd.prog 52 #[.func (.func 81) #[] #[.pointer (some ⟨g6, 0, none⟩), .pointer (some ⟨g9, 0, none⟩)]] w fun e w' => e = .returned (.bool (stepE hd s).isSome) ∧ RP w' B g ((stepE hd s).getD hd) ∧ Keep w w' (KX w B g) := by
  have ka : Keep w (w.alloc (.cells #[.bool false] 4)) Nul := (Keep.refl w Nul).alloc _
  have hb := Blk.new w 4 #[.bool false]
  have hg : g < w.heap.size := by
    obtain ⟨_, _, _, _, _, hB, _⟩ := hP
    exact hB.lt
  refine (try_ret 81 _ (stepE hd s).isSome (fun w' => RP w' B g ((stepE hd s).getD hd) ∧ Keep w w' (KX w B g)) w (fun _ => by kernel_rfl) ?_).mono ?_
  · refine (run1_walk (w.alloc (.cells #[.bool false] 4)) hs (h6.alloc _) (h9.alloc _) (hP.keep ka) hx (hR.keep0 ka) hn (by simp only [World.size_alloc]; omega) (fun w' k => hee w' ((ka.nul (B ≤ ·)).trans k (fun _ _ e => e)))).mono ?_
    rintro e w' ⟨rfl, h1, h2⟩
    refine ⟨rfl, hb.keep h2 ?_, h1, (ka.nul (KX w B g)).kx_trans h2⟩
    rintro ⟨_, e | ⟨cur, fr, e⟩⟩
    · omega
    · unfold Blk at hb
      rw [hb] at e
      injection e with e
      injection e with _ e _
      exact absurd e (by decide)
  · rintro e w' ⟨rfl, w1, ⟨h1, h2⟩, h3, rfl⟩
    exact ⟨rfl, h1.far h3 (by decide) (by decide) (by decide) (by decide) _, h2.set (p := ⟨w.heap.size, 0, none⟩) (fun (h : w.heap.size < w.heap.size) => by omega) _⟩
end Go.Proofs.YtdmnflngafbobaaDoor
namespace Go.Proofs.YtdmnflngafbobaaDoor
open Go.RowKit
set_option linter.unusedVariables false
set_option linter.unusedSimpArgs false
set_option maxRecDepth 100000

theorem RP.keepO {w w' : World} {B B' g sz n : Nat} {e : TypeId} {hd : Hd} {v : Value} {xs : List Value} (h : RP w B g hd) (k : Keep w w' (fun q => v.ownBlock = some q)) (ho : Own w B' e sz v n xs) (h1 : e ≠ 108) (h2 : e ≠ 23) (h3 : e ≠ 139) (h4 : e ≠ 5) : RP w' B g hd := by
  obtain ⟨hBg, sv, xv, ds, off, hB, hS, hO, hD⟩ := h
  exact ⟨hBg, sv, xv, ds, off, hB.keep k (fun e => (ho.ne_ hB h1) e), hS.keep k (fun q hq e => (hS.ne_own ho (Ne.symm h2) hq) e), hO.keep k (fun q hq e => (hO.ne_own ho (Ne.symm h3) hq) e), hD.byt k (fun q hq e => hq.ne_own ho h4 e)⟩
/-- The blocks of another type are not turned by an operation over extensions. -/
theorem Own.kx {w w' : World} {B g sz n : Nat} {e t : TypeId} {v : Value} {xs cs : List Value} (h : Own w B e sz v n xs) (k : Keep w w' (KX w B g)) (he : e ≠ 139) (hg : ∀ q, v.ownBlock = some q → q ≠ g) : Own w' B e sz v n xs :=
  h.keep k fun q hq hx => by
    rcases hx with ⟨_, hx | ⟨cur, fr, hx⟩⟩
    · exact hg q hq hx
    · obtain ⟨_, _, cur', fr', h2⟩ := h.at_ q hq
      rw [h2] at hx
      injection hx with hx
      injection hx with _ hx _
      exact he hx

def Bs (l : List Bool) : List Value := l.map Value.bool
theorem etBo : ET Tryd.prog 71 4 (.bool false) 1 1 := ⟨Tryd.underlying71, by kernel_rfl, rfl, by decide⟩

set_option maxHeartbeats 3200000 in
theorem run_walkE {E : World → Prop} (hke : ∀ {w w' : World}, E w → Keep w w' (w.heap.size ≤ ·) → E w') {p q : Nat → Prop} {hd : Hd} {v u : Value} {ss : List St} (w : World) (hh : HV w q v hd) (hsr : SR w p u ss) (hok : ∀ s ∈ ss, StepE E s) (hx : hd.exts.length + ss.length ≤ 1000000) (hs1 : hd.srcs.length ≤ 2147483647) (hdn : ∀ x ∈ hd.exts, x.data.length ≤ 2147483647) (hsd : ∀ s ∈ ss, s.data.length ≤ 2147483647) (he : E w) :
    Calls Tryd.prog 42 #[v, u] w fun e w' => Keep w w' Nul ∧ ∃ A1 n1 c1 A2 n2 c2 A c, e = .returned (.tuple #[.agg (hcells (runE hd ss).1 (.slice A1 n1 c1) (.slice A2 n2 c2)), .slice A ss.length c]) ∧
      HV w' (w.heap.size ≤ ·) (.agg (hcells (runE hd ss).1 (.slice A1 n1 c1) (.slice A2 n2 c2))) (runE hd ss).1 ∧ Rd w' (w.heap.size ≤ ·) 1 (.slice A ss.length c) ss.length (Bs (runE hd ss).2) := by
  obtain ⟨A0, c0, rfl⟩ := hsr.shape
  obtain ⟨sv, xv, rfl, r1, r2⟩ := hh.mono (q := (· < w.heap.size)) (fun k hk _ => hk)
  obtain ⟨As, cs, rfl⟩ := r1.shape
  obtain ⟨Ax, cx, rfl⟩ := r2.shape
  have HVA := hide (show HV w (· < w.heap.size) (.agg (hcells hd (.slice As hd.srcs.length cs) (.slice Ax hd.exts.length cx))) hd from ⟨_, _, rfl, r1, r2⟩)
  have HSR := hide (hsr.mono (q := (· < w.heap.size)) (fun k hk _ => hk))
  have HOK := hide hok
  have HE := hide he
  have HSD := hide hsd
  have HDN := hide hdn
  clear hsr r1 r2 hok he hh
  unfold hcells at *
  go_enter Tryd.func42, Tryd.ntmps42
  go_upto_region 1 with fail
  generalize hwa : World.alloc (World.alloc w _) _ = wa
  have BX := hide (show Blk wa w.heap.size 35 (hcells hd (.slice As hd.srcs.length cs) (.slice Ax hd.exts.length cx)) by subst hwa; exact (Blk.new w _ _).alloc _)
  have B4 := hide (show Blk wa (w.heap.size + 1) 35 (hcells hd0 (.slice none 0 0) (.slice none 0 0)) by subst hwa; exact Blk.new' (by simp only [World.size_alloc]))
  have KA := hide (show Keep w wa Nul by subst hwa; exact ((Keep.refl w Nul).alloc _).alloc _)
  have hza : wa.heap.size = w.heap.size + 2 := by subst hwa; simp only [World.size_alloc]
  generalize hv0 : Value.agg _ = v0
  clear hwa hv0
  have hHd := hide (header_walk wa (HVA.out.keep0 KA.out) (by omega) hs1 hdn)
  obtain ⟨x0, x1, x2, x3, x4, x5, x6, x7, x8, x9, x10, x11⟩ := hc12 BX.out
  go_wp2_with fail
  refine Calls.mono (show Calls _ _ #[.agg (hcells hd (.slice As hd.srcs.length cs) (.slice Ax hd.exts.length cx))] _ _ from hHd.out) ?_
  rintro e w1 ⟨k1, g, rfl, hrp⟩
  have K1 := hide (KA.out.trans0 k1)
  have RP1 := hide hrp
  have B41 := hide (B4.out.keep k1 (fun e => e))
  have hz1 := k1.size
  have hgB : wa.heap.size ≤ g := hrp.1
  have hgl : g < w1.heap.size := by
    obtain ⟨_, _, _, _, _, hB, _⟩ := hrp
    exact hB.lt
  clear k1 hrp hHd x0 x1 x2 x3 x4 x5 x6 x7 x8 x9 x10 x11
  obtain ⟨B, hB⟩ : ∃ B, B = wa.heap.size := ⟨_, rfl⟩
  rw [← hB] at RP1 hgB hza hz1
  clear hB
  go_upto_region 2 with fail
  generalize hw2 : World.alloc w1 _ = w2
  obtain ⟨g6, hg6⟩ : ∃ g6, g6 = w1.heap.size := ⟨_, rfl⟩
  rw [← hg6]
  obtain ⟨t6, B6, HT6⟩ : ∃ t6, Hid (Blk w2 g6 t6 #[.pointer (some ⟨g, 0, none⟩)]) ∧ Hid (t6 ≠ 139 ∧ 4 ≠ t6) := by subst hw2 hg6; exact ⟨_, hide (Blk.new w1 _ _), hide ⟨by decide, by decide⟩⟩
  have k12 : Keep w1 w2 Nul := by subst hw2; exact (Keep.refl w1 Nul).alloc _
  have K2 := hide (K1.out.trans0 k12)
  have RP2 := hide (RP1.out.keep k12)
  have B42 := hide (B41.out.keep k12 (fun e => e))
  have hg6g : ¬ g6 = g := by omega
  have hBw2 : B ≤ w2.heap.size := Nat.le_trans hz1 k12.size
  have hl6 := B6.out.lt
  clear hw2 k12 hg6
  have HEE := hide (show ∀ w', Keep w2 w' (B ≤ ·) → E w' from fun w' k => hke HE.out ((K2.out.nul (w.heap.size ≤ ·)).trans k (fun i _ e => by have : B ≤ i := e; show w.heap.size ≤ i; omega)))
  go_wp2_with fail
  go_loopw [7, 14] (fun s7 s14 wr => ∃ (k : Nat), k ≤ ss.length ∧ s14 = .int .i64 (k : Int) ∧ Own wr B 4 1 s7 k (Bs (runE hd (ss.take k)).2) ∧ RP wr B g (runE hd (ss.take k)).1 ∧ Blk wr g6 t6 #[.pointer (some ⟨g, 0, none⟩)] ∧ Keep w2 wr (B ≤ ·)) (fun _ s14 _ => ss.length - (intOf s14).toNat)
  case atStart => exact ⟨0, Nat.zero_le _, rfl, Own.nil_ _ _ _ _, RP2.out, B6.out, Keep.refl _ _⟩
  case round =>
    obtain ⟨k, hk, rfl, hO, hrp, hb6, hK⟩ := hrel
    have OO := hide hO
    have RR := hide hrp
    have KK := hide hK
    have hzr := hK.size
    have SRr := hide ((HSR.out.keep K2.out (fun _ _ _ e => e)).keep hK (fun i _ (hi : i < w.heap.size) e => by have : B ≤ i := e; omega))
    have B6r := hide hb6
    clear hb6
    obtain ⟨Ao, co, rfl⟩ := hO.rd.shape
    clear hO hrp hK
    by_cases hlt : k < ss.length
    · have hsk : ss[k]? = some ss[k] := List.getElem?_eq_getElem _
      obtain ⟨b, o, c', dv, hv, hbl, p0, p1, p2, p3, rdv⟩ := SRr.out.at_ hsk
      injection hv with e1 _ e3
      subst e1 e3
      have hmem : ss[k] ∈ ss := List.getElem_mem _
      have hOKs := HOK.out _ hmem
      have hlen := runE_len (ss.take k) hd
      have htl : (ss.take k).length ≤ k := by rw [List.length_take]; omega
      have hsn : ss.take (k + 1) = ss.take k ++ [ss[k]] := List.take_succ_eq_append_getElem hlt
      have hrs := runE_snoc (ss.take k) hd ss[k]
      rw [← hsn] at hrs
      have hsdk := hsd _ hmem
      generalize ss[k] = s at *
      have HSK := hide hsk
      have HRS := hide hrs
      have HOKS := hide hOKs
      obtain ⟨Ad, cd, rfl⟩ := rdv.shape
      have RDV := hide rdv
      have lg6 := B6r.out.lt
      have c6 := B6r.out.cell 0 (v := .pointer (some ⟨g, 0, none⟩)) rfl
      generalize hh1 : (runE hd (ss.take k)).1 = h1 at *
      generalize hl1 : (runE hd (ss.take k)).2 = l1 at *
      clear hsk hrs hOKs rdv hsn hmem
      go_upto_region 6 with fail
      generalize hw3 : World.alloc wr _ = w3
      obtain ⟨g9, hg9⟩ : ∃ g9, g9 = wr.heap.size := ⟨_, rfl⟩
      rw [← hg9]
      have B9 := hide (show Blk w3 g9 76 (scells s.what s.id Ad s.data.length cd s.prof) by subst hw3 hg9; exact Blk.new wr _ _)
      have k3 : Keep wr w3 Nul := by subst hw3; exact (Keep.refl wr Nul).alloc _
      have K3 := hide k3
      have hT := hide (run_try (t6 := t6) w3 HOKS.out (B6r.out.keep k3 (fun e => e)) B9.out (RR.out.keep k3) (by omega) (RDV.out.keep0 k3) hsdk (Nat.le_trans hBw2 (Nat.le_trans hzr k3.size)) (fun w' k' => HEE.out w' ((KK.out.trans0 K3.out).trans k' (fun _ _ e => e))))
      clear hw3 k3 hg9 p0 p1 p2 p3 c6
      go_wp2_with fail
      refine Calls.mono (show Calls _ _ _ _ _ from hT.out) ?_
      rintro e w4 ⟨rfl, hrp4, k4⟩
      have HSB := hide (show (runE hd (ss.take (k + 1))).2 = l1 ++ [(stepE h1 s).isSome] by rw [HRS.out])
      have HS1 := hide (show (runE hd (ss.take (k + 1))).1 = (stepE h1 s).getD h1 by rw [HRS.out])
      generalize hbb : (stepE h1 s).isSome = bb at *
      generalize hgg : (stepE h1 s).getD h1 = h2 at *
      have K34 := hide ((K3.out.nul (KX wr B g)).kx_trans k4)
      have hog : ∀ q, (Value.slice Ao k co).ownBlock = some q → q ≠ g := fun q hq e => by
        obtain ⟨_, _, _, _, _, hB, _⟩ := RR.out
        exact (OO.out.ne_ hB (by decide)) (e ▸ hq)
      have O4 := hide (OO.out.kx (t := 4) (cs := []) K34.out (by decide) hog)
      have RP4 := hide hrp4
      have hb4 : B ≤ w4.heap.size := by have := K34.out.size; omega
      clear hrp4 k4 hbb hgg hog hT
      dsimp only
      go_wp2_with (at_builtin; refine wpList_app etBo rfl _ _ rfl (O4.out.alloc _) rfl (src_one (w := w4) (cs := #[.bool bb]) Tryd.underlying71 (by first | rfl | simp only [World.size_alloc]) rfl (by simp [Value.oneCell'])) rfl (by simp only [maxLen]; omega) (by omega) (by simp only [World.size_alloc]; omega) ?_; intro v5 w5 o5 k5 b5 z5 _; have O5 := hide o5; have K5 := hide k5; obtain ⟨A5, c5, rfl⟩ := O5.out.rd.shape; clear o5 k5 b5 z5)
      go_roundw
      case rel =>
        have ka4 : Keep w4 (w4.alloc (.cells #[.bool bb] 4)) Nul := (Keep.refl w4 Nul).alloc _
        have hr5 := (RP4.out.keep ka4).keepO K5.out (O4.out.alloc _) (by decide) (by decide) (by decide) (by decide)
        have hk5 : Keep w4 w5 (B ≤ ·) := (ka4.nul (B ≤ ·)).trans K5.out (fun i _ e => ((O4.out.alloc (.cells #[.bool bb] 4)).at_ i e).1)
        have hb64 : Blk w4 g6 t6 #[.pointer (some ⟨g, 0, none⟩)] := B6r.out.keep K34.out (fun e => by
          rcases e with ⟨_, e | ⟨cur, fr, e⟩⟩
          · exact hg6g e
          · have b := B6r.out
            unfold Blk at b
            rw [b] at e
            injection e with e
            injection e with _ e _
            exact HT6.out.1 e)
        have hb65 := (hb64.keep ka4 (fun e => e)).keep K5.out (fun e => (O4.out.alloc (.cells #[.bool bb] 4)).ne_ (hb64.keep ka4 (fun e => e)) HT6.out.2 e)
        refine ⟨k + 1, by omega, by go_num, ?_, by rw [HS1.out]; exact hr5, hb65, ?_⟩
        · rw [HSB.out]
          show Own _ _ _ _ _ _ (List.map Value.bool (l1 ++ [bb]))
          rw [List.map_append]
          exact O5.out
        · exact (KK.out.trans K34.out.kx_b (fun _ _ e => e)).trans hk5 (fun _ _ e => e)
      case measure => simp [intOf]; omega
    · obtain rfl : k = ss.length := by omega
      rw [List.take_length] at OO RR
      have hlen := runE_len ss hd
      obtain ⟨hs2, hd2⟩ := runE_hs ss hd hs1 hdn hsd
      have B4r := hide (B42.out.keep KK.out (fun e => by have : B ≤ w.heap.size + 1 := e; omega))
      generalize hh1 : (runE hd ss).1 = h1 at *
      generalize hl1 : (runE hd ss).2 = l1 at *
      have c6 := B6r.out.cell 0 (v := .pointer (some ⟨g, 0, none⟩)) rfl
      obtain ⟨hBg, sv, xv, ds, off, hb, hso, hxo, hdo⟩ := RR.out
      have hPl := hide (iplain_walk (p := (B ≤ ·)) wr hb.pre hso.rdB ⟨ds, hdo.mono (fun i _ hi => hi.1), hxo.rdB⟩ (by omega) hs2 hd2)
      have HH1 := hide hh1
      have HL1 := hide hl1
      clear hb hso hxo hdo hh1 hl1
      go_wp2_with fail
      refine (hPl.out).mono ?_
      rintro e w5 ⟨k5, sv', xv', rfl, hv5⟩
      obtain ⟨p1, p2⟩ := hv5.parts
      obtain ⟨A6, c6', rfl⟩ := p1.shape
      obtain ⟨A7, c7, rfl⟩ := p2.shape
      have HV5 := hide hv5
      have B45 := hide (B4r.out.keep k5 (fun e => e))
      have O5 := hide (OO.out.keep0 k5)
      have K5 := hide k5
      clear hv5 p1 p2 k5 hPl c6
      unfold hcells
      go_wp2_with (refine wpList_stRow rfl _ _ rfl rfl rfl B45.out (by kernel_rfl) rfl (by simp [Value.oneCell']) ?_; intro w6 hb6 hk6; have B6 := hide hb6; have K6 := hide hk6; clear hb6 hk6)
      obtain ⟨y0, y1, y2, y3, y4, y5, y6, y7, y8, y9, y10, y11⟩ := hc12 (show Blk w6 (w.heap.size + 1) 35 (hcells h1 (.slice A6 h1.srcs.length c6') (.slice A7 h1.exts.length c7)) from B6.out)
      refine bodyPost_ret (v := .tuple #[.agg (hcells h1 (.slice A6 h1.srcs.length c6') (.slice A7 h1.exts.length c7)), .slice Ao ss.length co]) (by unfold hcells; simp [results, Tryd.results42, go_sem, y0, y1, y2, y3, y4, y5, y6, y7, y8, y9, y10, y11]) rfl ?_
      have hK26 : Keep w2 w6 (fun i => B ≤ i ∨ i = w.heap.size + 1) := ((KK.out.mono (S' := fun i => B ≤ i ∨ i = w.heap.size + 1) (fun i _ e => .inl e)).trans0 K5.out).trans K6.out (fun i _ e => .inr e)
      have e1 := HH1.out
      have e2 := HL1.out
      subst e1
      subst e2
      refine ⟨K2.out.trans hK26 (fun i hi e => by omega), A6, _, c6', A7, _, c7, Ao, co, rfl, ?_, ?_⟩
      · exact (HV5.out.keep K6.out (fun i hi (hp : wr.heap.size ≤ i) e => by have : i = w.heap.size + 1 := e; omega)).mono (fun i _ (hp : wr.heap.size ≤ i) => by have := KK.out.size; have := K2.out.size; show w.heap.size ≤ i; omega)
      · exact ((O5.out.keep K6.out (fun q hq e => by have := (O5.out.at_ q hq).1; have : q = w.heap.size + 1 := e; omega)).rdB).mono (fun i _ (hp : B ≤ i) => by show w.heap.size ≤ i; omega)

theorem run_walk {p q : Nat → Prop} {hd : Hd} {v u : Value} {ss : List St} (w : World) (hh : HV w q v hd) (hsr : SR w p u ss) (hok : ∀ s ∈ ss, StepE HErrs s) (hx : hd.exts.length + ss.length ≤ 1000000) (hs1 : hd.srcs.length ≤ 2147483647) (hdn : ∀ x ∈ hd.exts, x.data.length ≤ 2147483647) (hsd : ∀ s ∈ ss, s.data.length ≤ 2147483647) (he : HErrs w) :
    Calls Tryd.prog 42 #[v, u] w fun e w' => Keep w w' Nul ∧ ∃ A1 n1 c1 A2 n2 c2 A c, e = .returned (.tuple #[.agg (hcells (runE hd ss).1 (.slice A1 n1 c1) (.slice A2 n2 c2)), .slice A ss.length c]) ∧
      HV w' (w.heap.size ≤ ·) (.agg (hcells (runE hd ss).1 (.slice A1 n1 c1) (.slice A2 n2 c2))) (runE hd ss).1 ∧ Rd w' (w.heap.size ≤ ·) 1 (.slice A ss.length c) ss.length (Bs (runE hd ss).2) := run_walkE (fun h k => h.keepB k) w hh hsr hok hx hs1 hdn hsd he
end Go.Proofs.YtdmnflngafbobaaDoor
