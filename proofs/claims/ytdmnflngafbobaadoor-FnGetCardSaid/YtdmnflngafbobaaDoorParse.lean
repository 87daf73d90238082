/-
  The thin package's Parse. Conditions: those that stand in each theorem.
-/
import Derived.Test.YtdmnflngafbobaaDoorParW
namespace Go.Proofs.YtdmnflngafbobaaDoor
open Go.RowKit
set_option linter.unusedVariables false
set_option linter.unusedSimpArgs false
set_option maxRecDepth 100000

theorem wpList_stRow {P : Program} {w : World} {ops : Array Oper} {rest : List Oper} {o : Oper} {a : Act} {Q : Exit → Act → World → Prop} {ty t : TypeId} {g : Nat} {old cs : Array Value} (hgd : o.guard = none) (p x : Operand) (ho : o.op = .store ty p x) (hp : a.eval p = .pointer (some ⟨g, 0, none⟩)) (hx : a.eval x = .agg cs) (hb : Blk w g t old)
    (hi : (P.info? ty).map (·.size) = some cs.size) (hs : old.size = cs.size) (h1 : cs.all (·.oneCell') = true) (h : ∀ w', Blk w' g t cs → Keep w w' (· = g) → wpList P ops Q rest (a.put o.dst undef) w') : wpList P ops Q (o :: rest) a w :=
  wpList_plain hgd fun K hK => wp_stRow ho hp hx hb hi hs h1 fun w' hb' hk' => hK _ _ (h w' hb' hk')

theorem PV.keep {w w' : World} {p S : Nat → Prop} {v : Value} {hd : Hd} {data : List Int} (h : PV w p v hd data) (k : Keep w w' S) (hp : ∀ i, i < w.heap.size → p i → ¬ S i) : PV w' p v hd data := by
  obtain ⟨sv, xv, A, c, e, h1, h2, h3⟩ := h
  exact ⟨sv, xv, A, c, e, h1.keep k hp, h2.keep k hp, h3.keep k hp⟩
theorem PV.mono {w : World} {p q : Nat → Prop} {v : Value} {hd : Hd} {data : List Int} (h : PV w p v hd data) (hp : ∀ k, k < w.heap.size → p k → q k) : PV w q v hd data := by
  obtain ⟨sv, xv, A, c, e, h1, h2, h3⟩ := h
  exact ⟨sv, xv, A, c, e, h1.mono hp, h2.mono hp, h3.mono hp⟩

theorem PV.parts {w : World} {p : Nat → Prop} {hd : Hd} {data : List Int} {sv xv : Value} {A : Option Addr} {c : Nat} (h : PV w p (.agg (kcells hd sv xv (.slice A data.length c))) hd data) : Rd w p 1 sv hd.srcs.length (U32 hd.srcs) ∧ XR w p xv hd.exts ∧ Rd w p 1 (.slice A data.length c) data.length (B8 data) := by
  obtain ⟨s', x', A'', c'', e', r1, r2, r3⟩ := h
  injection e' with e'
  have es : sv = s' := by have := congrArg (fun a : Array Value => a[8]?) e'; simpa [kcells] using this
  have ex : xv = x' := by have := congrArg (fun a : Array Value => a[10]?) e'; simpa [kcells] using this
  have ep : Value.slice A data.length c = .slice A'' data.length c'' := by have := congrArg (fun a : Array Value => a[12]?) e'; simpa [kcells] using this
  injection ep with e1 _ e3
  subst es ex e1 e3
  exact ⟨r1, r2, r3⟩
/-- What impl.try over Parse's closure leaves. -/
theorem parse_try {p : Nat → Prop} {bs : List Int} {n c : Nat} {A : Option Addr} (w : World) (hR : Rd w p 1 (.slice A n c) n (B8 bs)) (hI : IsB bs) (hn : n ≤ 2147483647) (he : Errs w) (hs : HsSpec bs) (hu : UnSpec bs) (hv : readP bs ≠ .wide) (ok : Bool) (hok : ok = true ↔ readP bs ≠ .bad) :
    Calls Tryd.prog 52 #[.func (.func 63) #[] #[.pointer (some ⟨w.heap.size, 0, none⟩), .pointer (some ⟨w.heap.size + 1, 0, none⟩)]] ((w.alloc (.cells #[.slice A n c] 29)).alloc (.cells (kcells hd0 (.slice none 0 0) (.slice none 0 0) (.slice none 0 0)) 42)) fun e w' =>
      e = .returned (.bool ok) ∧ Keep ((w.alloc (.cells #[.slice A n c] 29)).alloc (.cells (kcells hd0 (.slice none 0 0) (.slice none 0 0) (.slice none 0 0)) 42)) w' (· = w.heap.size + 1) ∧
      ∃ (hd : Hd) (pay : List Int) (sv xv : Value) (A' : Option Addr) (c' : Nat), Blk w' (w.heap.size + 1) 42 (kcells hd sv xv (.slice A' pay.length c')) ∧ PV w' (w.heap.size + 3 ≤ ·) (.agg (kcells hd sv xv (.slice A' pay.length c'))) hd pay ∧ Hs hd ∧ (ok = true → readP bs = .good hd pay) := by
  have b1 := (Blk.new w 29 #[.slice A n c]).alloc (.cells (kcells hd0 (.slice none 0 0) (.slice none 0 0) (.slice none 0 0)) 42)
  have b2 := Blk.new (w.alloc (.cells #[.slice A n c] 29)) 42 (kcells hd0 (.slice none 0 0) (.slice none 0 0) (.slice none 0 0))
  simp only [World.size_alloc] at b2
  have kW : Keep w ((w.alloc (.cells #[.slice A n c] 29)).alloc (.cells (kcells hd0 (.slice none 0 0) (.slice none 0 0) (.slice none 0 0)) 42)) Nul := ((Keep.refl w _).alloc _).alloc _
  refine try_out (k := 63) (g2 := w.heap.size + 1) (b := ok) (fun _ => by kernel_rfl) (by simp only [World.size_alloc]; omega) ?_ ?_
  · rintro w1 w2 ⟨hd, pay, sv, xv, A', c', h1, h2, h3, h4⟩ k
    simp only [World.size_alloc] at k
    exact ⟨hd, pay, sv, xv, A', c', h1.keep k (by omega), h2.keep k (fun i hi hp e => by have : w.heap.size + 3 ≤ i := hp; omega), h3, h4⟩
  · refine (parse1 _ (hR.keep0 (kW.alloc (.cells #[.bool false] 4))) hI hn (b1.alloc (.cells #[.bool false] 4)) (b2.alloc (.cells #[.bool false] 4)) (he.keep0 (kW.alloc (.cells #[.bool false] 4))) hs hu hv).mono ?_
    rintro e w' ⟨ok', hd, pay, sv, xv, A', c', rfl, hk, hb, hpv, hhs, hr⟩
    simp only [World.size_alloc] at hpv
    have hoo : ok' = ok := by
      rcases hr with ⟨rfl, h⟩ | ⟨rfl, h⟩
      · exact (hok.2 (by rw [h]; exact fun e => by cases e)).symm
      · cases ok
        · rfl
        · exact absurd h (hok.1 rfl)
    subst hoo
    refine ⟨rfl, hk, hd, pay, sv, xv, A', c', hb, hpv, hhs, fun h => ?_⟩
    rcases hr with ⟨_, h'⟩ | ⟨h', _⟩
    · exact h'
    · rw [h] at h'; cases h'

set_option maxHeartbeats 1600000 in
/-- impl.Parse of a packet that is read. -/
theorem parse_good {p : Nat → Prop} {bs : List Int} {n c : Nat} {A : Option Addr} {hd : Hd} {pay : List Int} (w : World) (hR : Rd w p 1 (.slice A n c) n (B8 bs)) (hI : IsB bs) (hn : n ≤ 2147483647) (he : Errs w) (hs : HsSpec bs) (hu : UnSpec bs) (hg : readP bs = .good hd pay) :
    Calls Tryd.prog 25 #[.slice A n c] w fun e w' => Keep w w' Nul ∧ Hs hd ∧ ∃ sv xv A' c', e = .returned (.tuple #[.agg (kcells hd sv xv (.slice A' pay.length c')), .bool true]) ∧ PV w' (w.heap.size ≤ ·) (.agg (kcells hd sv xv (.slice A' pay.length c'))) hd pay := by
  have hT := hide (parse_try w hR hI hn he hs hu (by rw [hg]; exact (fun e => by cases e)) true ⟨fun _ => (by rw [hg]; exact (fun e => by cases e)), fun _ => rfl⟩)
  have HG := hide hg
  clear hR hI he hs hu hg
  go_enter Tryd.func25, Tryd.ntmps25
  go_wp2_with fail
  refine Calls.mono (show Calls _ _ _ _ _ from hT.out) ?_
  rintro e w1 ⟨rfl, hk, hd', pay', sv, xv, A', c', hb, hpv, hhs, hr⟩
  have he := hr (by trivial)
  rw [HG.out] at he
  cases he
  obtain ⟨q1, q2, q3⟩ := hpv.parts
  obtain ⟨A1, c1, rfl⟩ := q1.shape
  obtain ⟨A2, c2, rfl⟩ := q2.shape
  have HB := hide hb
  have HK := hide hk
  have HPV := hide hpv
  have HHS := hide hhs
  obtain ⟨m, hm⟩ : ∃ m, m = pay.length := ⟨_, rfl⟩
  have HM := hide hm
  rw [← hm] at HB
  obtain ⟨x0, x1, x2, x3, x4, x5, x6, x7, x8, x9, x10, x11, x12⟩ := kc13 HB.out
  clear hb hk hpv hhs hr q1 q2 q3 hm
  go_wp2_with (refine wpList_stRow rfl _ _ rfl rfl rfl HB.out (by kernel_rfl) rfl (by simp [Value.oneCell']) ?_; intro w2 hb2 hk2; have HB2 := hide hb2; have HK2 := hide hk2; clear hb2 hk2)
  have KF := hide (show Keep w w2 Nul from ((((Keep.refl w Nul).alloc _).alloc _).trans HK.out (fun i hi e => by omega)).trans HK2.out (fun i hi e => by omega))
  obtain ⟨y0, y1, y2, y3, y4, y5, y6, y7, y8, y9, y10, y11, y12⟩ := kc13 (show Blk w2 (w.heap.size + 1) 42 (kcells hd (.slice A1 hd.srcs.length c1) (.slice A2 hd.exts.length c2) (.slice A' m c')) from HB2.out)
  clear x0 x1 x2 x3 x4 x5 x6 x7 x8 x9 x10 x11 x12
  refine bodyPost_ret (v := .tuple #[.agg (kcells hd (.slice A1 hd.srcs.length c1) (.slice A2 hd.exts.length c2) (.slice A' m c')), .bool true]) (by unfold kcells; simp [results, Tryd.results25, go_sem, y0, y1, y2, y3, y4, y5, y6, y7, y8, y9, y10, y11, y12]) rfl ?_
  obtain rfl := HM.out
  exact ⟨KF.out, HHS.out, _, _, _, _, rfl, (HPV.out.keep HK2.out (fun i hi hp e => by have : w.heap.size + 3 ≤ i := hp; omega)).mono (fun k _ hk => by have : w.heap.size + 3 ≤ k := hk; omega)⟩

set_option maxHeartbeats 1600000 in
/-- impl.Parse of bytes that are no packet. -/
theorem parse_bad {p : Nat → Prop} {bs : List Int} {n c : Nat} {A : Option Addr} (w : World) (hR : Rd w p 1 (.slice A n c) n (B8 bs)) (hI : IsB bs) (hn : n ≤ 2147483647) (he : Errs w) (hs : HsSpec bs) (hu : UnSpec bs) (hg : readP bs = .bad) :
    Calls Tryd.prog 25 #[.slice A n c] w fun e w' => Keep w w' Nul ∧ e = .returned (.tuple #[.agg (kcells hd0 (.slice none 0 0) (.slice none 0 0) (.slice none 0 0)), .bool false]) := by
  have hT := hide (parse_try w hR hI hn he hs hu (by rw [hg]; exact (fun e => by cases e)) false ⟨fun h => (by cases h), fun h => absurd hg h⟩)
  clear hR hI he hs hu hg
  go_enter Tryd.func25, Tryd.ntmps25
  go_wp2_with fail
  refine Calls.mono (show Calls _ _ _ _ _ from hT.out) ?_
  rintro e w1 ⟨rfl, hk, hd', pay', sv, xv, A', c', hb, -, -, -⟩
  have HB := hide hb
  have HK := hide hk
  clear hb hk
  go_wp2_with (refine wpList_stRow rfl _ _ rfl rfl rfl HB.out (by kernel_rfl) rfl (by simp [Value.oneCell']) ?_; intro w2 hb2 hk2; have HB2 := hide hb2; have HK2 := hide hk2; clear hb2 hk2)
  have KF := hide (show Keep w w2 Nul from ((((Keep.refl w Nul).alloc _).alloc _).trans HK.out (fun i hi e => by omega)).trans HK2.out (fun i hi e => by omega))
  obtain ⟨y0, y1, y2, y3, y4, y5, y6, y7, y8, y9, y10, y11, y12⟩ := kc13 (show Blk w2 (w.heap.size + 1) 42 (kcells hd0 (.slice none 0 0) (.slice none 0 0) (.slice none 0 0)) from HB2.out)
  refine bodyPost_ret (v := .tuple #[.agg (kcells hd0 (.slice none 0 0) (.slice none 0 0) (.slice none 0 0)), .bool false]) (by unfold kcells hd0 at *; simp [results, Tryd.results25, go_sem, y0, y1, y2, y3, y4, y5, y6, y7, y8, y9, y10, y11, y12]) rfl ?_
  exact ⟨KF.out, rfl⟩
end Go.Proofs.YtdmnflngafbobaaDoor
