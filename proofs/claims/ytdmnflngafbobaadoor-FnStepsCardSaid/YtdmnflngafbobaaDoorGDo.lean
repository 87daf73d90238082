/-
  The reference's Do, as a plain thing, and the thin package's steps beside it. Conditions: those that stand in each theorem.
-/
import Derived.Test.YtdmnflngafbobaaDoorStp2
import Derived.Test.YtdmnflngafbobaaDoorGSt
import Derived.Test.YtdmnflngafbobaaDoorGFmt
import Derived.Test.YtdmnflngafbobaaDoorGPun
import Derived.Test.YtdmnflngafbobaaDoorLast2
import Derived.Test.YtdmnflngafbobaaDoorNav
import Derived.Test.YtdmnflngafbobaaDoorClone
namespace Go.Proofs.YtdmnflngafbobaaDoor
open Go.RowKit
set_option linter.unusedVariables false
set_option linter.unusedSimpArgs false
set_option maxRecDepth 100000

/-- What the reference's Do answers. -/
def doE (hd : Hd) (s : St) : Hd × Bool × Bool :=
  if s.what = 0 then
    if hd.ext = false then
      if 1 ≤ s.data.length ∧ s.data.length ≤ 16 ∧ fitsB 48862 s.id s.data.length = true then ({ hd with ext := true, prof := 48862, exts := [⟨s.id, s.data⟩] }, true, true)
      else if 16 < s.data.length ∧ fitsB 4096 s.id s.data.length = true then ({ hd with ext := true, prof := 4096, exts := [⟨s.id, s.data⟩] }, true, true)
      else (hd, false, false)
    else if fitsB hd.prof s.id s.data.length = false then (hd, false, true)
    else match fi hd.exts s.id with
      | none => ({ hd with exts := hd.exts ++ [⟨s.id, s.data⟩] }, true, true)
      | some k => ({ hd with exts := hd.exts.set k ⟨s.id, s.data⟩ }, true, true)
  else if s.what = 2 then
    if hd.ext = false then (hd, false, true)
    else match fi hd.exts s.id with
      | none => (hd, false, true)
      | some k => ({ hd with exts := hd.exts.eraseIdx k }, true, decide (0 < (hd.exts.eraseIdx k).length))
  else if s.what = 3 then ({ hd with ext := false, exts := [] }, true, true)
  else (hd, false, false)

/-- The header of the package beside that of the reference: all is alike but the profile where there are no extensions. -/
structure Rl (a b : Hd) : Prop where
  eq : b = { a with prof := b.prof }
  on : a.ext = true → b.prof = a.prof
  off : a.ext = false → a.exts = []

theorem fi_ne {xs : List Ex} {id : Int} (h : fi xs id = none) : ∀ x ∈ xs, x.id ≠ id := by
  simpa only [fi, List.findIdx?_eq_none_iff, decide_eq_false_iff_not] using h
theorem fi_at {xs : List Ex} {id : Int} {k : Nat} (h : fi xs id = some k) : ∃ x, xs[k]? = some x ∧ x.id = id ∧ ∀ y ∈ xs.take k, y.id ≠ id := by
  simp only [fi, List.findIdx?_eq_some_iff_getElem, decide_eq_true_eq] at h
  obtain ⟨hk, h1, h2⟩ := h
  refine ⟨xs[k], List.getElem?_eq_getElem _, h1, fun y hy => ?_⟩
  obtain ⟨j, hj, rfl⟩ := List.mem_take_iff_getElem.1 hy
  exact h2 j (by omega)
theorem fi_lt {xs : List Ex} {id : Int} {k : Nat} (h : fi xs id = some k) : k < xs.length := by
  obtain ⟨x, h1, _⟩ := fi_at h
  exact (List.getElem?_eq_some_iff.1 h1).1
theorem putE_fi {xs : List Ex} {id : Int} {d : List Int} : putE xs id d = match fi xs id with | none => xs ++ [⟨id, d⟩] | some k => xs.set k ⟨id, d⟩ := by
  cases h : fi xs id with
  | none => exact putE_none xs id d (fi_ne h)
  | some k =>
    obtain ⟨x, h1, h2, h3⟩ := fi_at h
    exact putE_at xs id d k x h3 h1 h2

theorem sim {a b b' : Hd} {s : St} {ok : Bool} (hr : Rl a b) (hd : doE b s = (b', ok, true)) (hz : s.what = 0 → s.data.length ≠ 0) :
    (stepE a s).isSome = ok ∧ Rl ((stepE a s).getD a) b' ∧ (s.what = 0 ∨ s.what = 2 ∨ s.what = 3) := by
  obtain ⟨h1, h2, h3⟩ := hr
  generalize b.prof = pr at *
  subst h1
  unfold doE at hd
  dsimp only at hd
  have heb : a.ext = false ∨ a.ext = true := by cases a.ext <;> simp
  split at hd
  · rename_i hw
    have hz := hz hw
    rw [stepE0 hw]
    rcases heb with he | he
    · have hx := h3 he
      have hne : ¬ a.ext = true := by rw [he]; simp
      rw [if_pos he] at hd
      split at hd
      · rename_i hc
        injection hd with e1 e2
        injection e2 with e2 e3
        subst e1 e2
        have e : setE a s.id s.data = some { a with ext := true, prof := 48862, exts := [⟨s.id, s.data⟩] } := by unfold setE; rw [if_neg hne, if_pos hc.2.1, hx]; rfl
        rw [e]
        exact ⟨rfl, ⟨rfl, fun _ => rfl, fun e => by cases e⟩, .inl hw⟩
      · rename_i hc1
        split at hd
        · rename_i hc
          injection hd with e1 e2
          injection e2 with e2 e3
          subst e1 e2
          have h255 : s.data.length ≤ 255 := by
            have := hc.2
            unfold fitsB at this
            simp at this
            omega
          have e : setE a s.id s.data = some { a with ext := true, prof := 4096, exts := [⟨s.id, s.data⟩] } := by unfold setE; rw [if_neg hne, if_neg (by omega), if_pos (by omega), hx]; rfl
          rw [e]
          exact ⟨rfl, ⟨rfl, fun _ => rfl, fun e => by cases e⟩, .inl hw⟩
        · injection hd with e1 e2
          injection e2 with e2 e3
          cases e3
    · obtain rfl := h2 he
      have h4 : ¬ a.ext = false := by rw [he]; simp
      rw [if_neg h4] at hd
      have hc := chkB_fits (p := a.prof) (id := s.id) (by omega : 1 ≤ s.data.length)
      split at hd
      · rename_i hf
        injection hd with e1 e2
        injection e2 with e2 e3
        subst e1 e2
        have e : setE a s.id s.data = none := by unfold setE; rw [if_pos he, hc, hf]; rfl
        rw [e]
        exact ⟨rfl, ⟨rfl, h2, h3⟩, .inl hw⟩
      · rename_i hf
        have e : setE a s.id s.data = some { a with exts := putE a.exts s.id s.data } := by unfold setE; rw [if_pos he, hc, if_pos (by simpa using hf)]
        rw [e, putE_fi]
        cases hfi : fi a.exts s.id with
        | none =>
          rw [hfi] at hd
          injection hd with e1 e2
          injection e2 with e2 e3
          subst e1 e2
          exact ⟨rfl, ⟨rfl, fun _ => rfl, fun e => (h4 e).elim⟩, .inl hw⟩
        | some k =>
          rw [hfi] at hd
          injection hd with e1 e2
          injection e2 with e2 e3
          subst e1 e2
          exact ⟨rfl, ⟨rfl, fun _ => rfl, fun e => (h4 e).elim⟩, .inl hw⟩
  · rename_i hw0
    split at hd
    · rename_i hw
      rw [stepE2 hw]
      rcases heb with he | he
      · rw [if_pos he] at hd
        injection hd with e1 e2
        injection e2 with e2 e3
        subst e1 e2
        have e : delE a s.id = none := by unfold delE; rw [if_pos he]
        rw [e]
        exact ⟨rfl, ⟨rfl, h2, h3⟩, .inr (.inl hw)⟩
      · obtain rfl := h2 he
        have h4 : ¬ a.ext = false := by rw [he]; simp
        rw [if_neg h4] at hd
        cases hfi : fi a.exts s.id with
        | none =>
          rw [hfi] at hd
          injection hd with e1 e2
          injection e2 with e2 e3
          subst e1 e2
          have e : delE a s.id = none := by unfold delE; rw [if_neg h4, hfi]
          rw [e]
          exact ⟨rfl, ⟨rfl, h2, h3⟩, .inr (.inl hw)⟩
        | some k =>
          rw [hfi] at hd
          injection hd with e1 e2
          injection e2 with e2 e3
          subst e1 e2
          have hl : 0 < (a.exts.eraseIdx k).length := by simpa using e3
          have e : delE a s.id = some { a with exts := a.exts.eraseIdx k } := by
            unfold delE
            rw [if_neg h4, hfi]
            dsimp only
            rw [if_neg (by omega)]
          rw [e]
          exact ⟨rfl, ⟨rfl, fun _ => rfl, fun e => (h4 e).elim⟩, .inr (.inl hw)⟩
    · rename_i hw2
      split at hd
      · rename_i hw
        rw [stepE3 hw]
        injection hd with e1 e2
        injection e2 with e2 e3
        subst e1 e2
        exact ⟨rfl, ⟨rfl, (fun e => by cases e), fun _ => rfl⟩, .inr (.inr hw)⟩
      · injection hd with e1 e2
        injection e2 with e2 e3
        cases e3

theorem stepE_ok {hd hd' : Hd} {s : St} (ho : hd.Ok) (hi : 0 ≤ s.id ∧ s.id < 256) (hdt : IsB s.data) (hw : s.what = 0 ∨ s.what = 2 ∨ s.what = 3) (h : stepE hd s = some hd') : hd'.Ok := by
  rcases hw with hw | hw | hw
  · rw [stepE0 hw] at h
    have g := setE_gr h
    have hx : ∀ x ∈ hd'.exts, (0 ≤ x.id ∧ x.id < 256) ∧ IsB x.data := fun x hx => by
      rcases g.mem x hx with hx | rfl
      · exact ho.exts x hx
      · exact ⟨hi, hdt⟩
    unfold setE at h
    split at h
    · split at h
      · injection h with h
        subst h
        exact ⟨ho.v, ho.ty, ho.seq, ho.time, ho.ssrc, ho.srcs, ho.prof, hx, ho.padn⟩
      · cases h
    · injection h with h
      subst h
      refine ⟨ho.v, ho.ty, ho.seq, ho.time, ho.ssrc, ho.srcs, ?_, hx, ho.padn⟩
      have := ho.prof
      dsimp only
      split
      · omega
      · split <;> omega
  · rw [stepE2 hw] at h
    unfold delE at h
    split at h
    · cases h
    · split at h
      · cases h
      · rename_i k _
        injection h with h
        subst h
        split
        · exact ⟨ho.v, ho.ty, ho.seq, ho.time, ho.ssrc, ho.srcs, ⟨by show (0 : Int) ≤ 0; decide, by show (0 : Int) < 65536; decide⟩, (fun x hx => by cases hx), ho.padn⟩
        · exact ⟨ho.v, ho.ty, ho.seq, ho.time, ho.ssrc, ho.srcs, ho.prof, fun x hx => ho.exts x (List.mem_of_mem_eraseIdx hx), ho.padn⟩
  · rw [stepE3 hw] at h
    injection h with h
    subst h
    exact ⟨ho.v, ho.ty, ho.seq, ho.time, ho.ssrc, ho.srcs, ⟨by show (0 : Int) ≤ 0; decide, by show (0 : Int) < 65536; decide⟩, (fun x hx => by cases hx), ho.padn⟩
theorem runE_ok : ∀ (ss : List St) (hd : Hd), hd.Ok → (∀ s ∈ ss, (0 ≤ s.id ∧ s.id < 256) ∧ IsB s.data ∧ (s.what = 0 ∨ s.what = 2 ∨ s.what = 3)) → (runE hd ss).1.Ok
  | [], hd, h, _ => h
  | s :: ss, hd, h, hs => by
    simp only [runE]
    refine runE_ok ss _ ?_ (fun t ht => hs t (by simp [ht]))
    obtain ⟨h1, h2, h3⟩ := hs s (by simp)
    cases he : stepE hd s with
    | none => exact h
    | some hd' => exact stepE_ok h h1 h2 h3 he
end Go.Proofs.YtdmnflngafbobaaDoor
namespace Go.Proofs.YtdmnflngafbobaaDoor
open Go.RowKit
set_option linter.unusedVariables false
set_option linter.unusedSimpArgs false
set_option maxRecDepth 100000

/-- What Do answers, in memory. -/
def DoR (p : Nat → Prop) (w0 : World) (r : Hd × Bool × Bool) (e : Ending) (w' : World) : Prop :=
  Keep w0 w' Nul ∧ ∃ A1 n1 c1 A2 n2 c2, e = .returned (.tuple #[.agg (hcells r.1 (.slice A1 n1 c1) (.slice A2 n2 c2)), .bool r.2.1, .bool r.2.2]) ∧ HV w' (fun q => p q ∨ w0.heap.size ≤ q) (.agg (hcells r.1 (.slice A1 n1 c1) (.slice A2 n2 c2))) r.1
/-- What stands in memory behind Do's first regions. -/
structure DoS (p : Nat → Prop) (w0 w : World) (g2 g3 g4 : Nat) (hd : Hd) (s : St) (A : Option Addr) (n c : Nat) (As : Option Addr) (cs : Nat) (Ax : Option Addr) (cx : Nat) (Ao : Option Addr) (co : Nat) (ds : List Value) : Prop where
  pl : ∀ k, p k → k < w0.heap.size
  k : Keep w0 w Nul
  l2 : w0.heap.size ≤ g2
  l3 : w0.heap.size ≤ g3
  l4 : w0.heap.size ≤ g4
  n23 : g2 ≠ g3
  n24 : g2 ≠ g4
  n34 : g3 ≠ g4
  b2 : Blk w g2 27 (hcells hd (.slice As hd.srcs.length cs) (.slice Ax hd.exts.length cx))
  b3 : Blk w g3 73 (scells s.what s.id A n c s.prof)
  b4 : Blk w g4 27 (hcells hd (.slice As hd.srcs.length cs) (.slice Ao hd.exts.length co))
  o : Own w w0.heap.size 66 2 (.slice Ao hd.exts.length co) hd.exts.length (xcells hd.exts ds)
  d : Ds w p hd.exts ds
  x : XR w p (.slice Ax hd.exts.length cx) hd.exts
  sr : Rd w p 1 (.slice As hd.srcs.length cs) hd.srcs.length (U32 hd.srcs)
  rd : Rd w p 1 (.slice A n c) n (B8 s.data)
  nl : s.data.length = n
section
variable {p : Nat → Prop} {w0 w : World} {g2 g3 g4 n c cs cx co : Nat} {hd : Hd} {s : St} {A As Ax Ao : Option Addr} {ds : List Value}
theorem DoS.ret {b1 b2 : Bool} {w' : World} (D : DoS p w0 w g2 g3 g4 hd s A n c As cs Ax cx Ao co ds) (k : Keep w w' (· = g4)) :
    DoR p w0 (hd, b1, b2) (.returned (.tuple #[.agg (hcells hd (.slice As hd.srcs.length cs) (.slice Ax hd.exts.length cx)), .bool b1, .bool b2])) w' := by
  have hl4 := D.l4
  have hp : ∀ i, i < w.heap.size → p i → ¬ (i = g4) := fun i _ hi e => by have := D.pl i hi; omega
  exact ⟨D.k.trans k (fun i hi e => by have : i = g4 := e; omega), _, _, _, _, _, _, rfl, _, _, rfl, (D.sr.keep k hp).mono (fun _ _ h => .inl h), (D.x.keep k hp).mono (fun _ _ h => .inl h)⟩
end

set_option maxHeartbeats 1600000 in
theorem do_r8 {h : Hd} {g n1 n2 c1 c2 : Nat} {A1 A2 : Option Addr} {post : Ending → World → Prop} {Q : Exit → Act → World → Prop} (hq : ∀ a w, bodyPost Tryd.prog Tryd.f41 post .ret a w → Q .ret a w) (w : World) (u0 u1 u3 u5 u6 u7 u8 u9 u10 u11 u12 u13 u14 u15 u16 u17 u18 u19 u20 u21 u22 u23 u24 u25 u26 u27 u28 u29 u30 u31 u32 u33 u34 u35 u36 u37 u38 u39 u40 u41 u42 u43 u44 u45 u46 u47 u48 u49 u50 u51 u52 u53 u54 u55 u56 u57 u58 u59 u60 u61 u62 u63 u64 u65 u66 u67 u68 u69 u70 u71 u72 u73 u74 u75 u76 u77 u78 u79 u80 u81 u82 u83 u84 u85 u86 u87 u88 u89 u90 u91 u92 u93 u94 u95 u96 u97 u98 u99 u100 u101 u102 u103 u104 u105 u106 u107 u108 u109 u110 u111 u112 u113 u114 u115 u116 u117 u118 u119 u120 u121 u122 u123 u124 u125 u126 u127 u128 : Value) {h4 : Hd} {g4 : Nat} {s4 x4 : Value} (hB : Blk w g 27 (hcells h (.slice A1 n1 c1) (.slice A2 n2 c2))) (hB4 : Blk w g4 27 (hcells h4 s4 x4)) (hg : g ≠ g4)
    (hp : ∀ w', Keep w w' (· = g4) → post (.returned (.tuple #[.agg (hcells h (.slice A1 n1 c1) (.slice A2 n2 c2)), .bool false, .bool false])) w') :
    Part Tryd.prog Tryd.f41 8 Q ⟨List.toArray (u0 :: u1 :: .pointer (some ⟨g, 0, none⟩) :: u3 :: .pointer (some ⟨g4, 0, none⟩) :: u5 :: u6 :: u7 :: u8 :: u9 :: u10 :: u11 :: u12 :: u13 :: u14 :: u15 :: u16 :: u17 :: u18 :: u19 :: u20 :: u21 :: u22 :: u23 :: u24 :: u25 :: u26 :: u27 :: u28 :: u29 :: u30 :: u31 :: u32 :: u33 :: u34 :: u35 :: u36 :: u37 :: u38 :: u39 :: u40 :: u41 :: u42 :: u43 :: u44 :: u45 :: u46 :: u47 :: u48 :: u49 :: u50 :: u51 :: u52 :: u53 :: u54 :: u55 :: u56 :: u57 :: u58 :: u59 :: u60 :: u61 :: u62 :: u63 :: u64 :: u65 :: u66 :: u67 :: u68 :: u69 :: u70 :: u71 :: u72 :: u73 :: u74 :: u75 :: u76 :: u77 :: u78 :: u79 :: u80 :: u81 :: u82 :: u83 :: u84 :: u85 :: u86 :: u87 :: u88 :: u89 :: u90 :: u91 :: u92 :: u93 :: u94 :: u95 :: u96 :: u97 :: u98 :: u99 :: u100 :: u101 :: u102 :: u103 :: u104 :: u105 :: u106 :: u107 :: u108 :: u109 :: u110 :: u111 :: u112 :: u113 :: u114 :: u115 :: u116 :: u117 :: u118 :: u119 :: u120 :: u121 :: u122 :: u123 :: u124 :: u125 :: u126 :: u127 :: u128 :: []), []⟩ w := by
  have HB := hide hB
  have HB4 := hide hB4
  have HP := hide hp
  have HQ := hide hq
  obtain ⟨x0, x1, x2, x3, x4, x5, x6, x7, x8, x9, x10, x11⟩ := hc12 hB
  clear hB hp hq hB4
  refine part_open (fun c hc K hK => ?_)
  conv at hc => rhs; whnf
  subst hc
  dsimp only [xOf, yOf] at hK ⊢
  go_wp2_with (refine wpList_stRow rfl _ _ rfl rfl rfl HB4.out (by kernel_rfl) rfl (by simp [Value.oneCell']) ?_; intro w2 hb2 hk2; have HB2 := hide hb2; have HK2 := hide hk2; clear hb2 hk2)
  obtain ⟨y0, y1, y2, y3, y4, y5, y6, y7, y8, y9, y10, y11⟩ := hc12 (show Blk w2 g4 27 (hcells h (.slice A1 n1 c1) (.slice A2 n2 c2)) from HB2.out)
  clear x0 x1 x2 x3 x4 x5 x6 x7 x8 x9 x10 x11
  refine HQ.out _ _ ?_
  refine bodyPost_ret (v := .tuple #[.agg (hcells h (.slice A1 n1 c1) (.slice A2 n2 c2)), .bool false, .bool false]) (by unfold hcells; simp [results, Tryd.results41, go_sem, y0, y1, y2, y3, y4, y5, y6, y7, y8, y9, y10, y11]) rfl ?_
  exact HP.out _ HK2.out

set_option maxHeartbeats 1600000 in
theorem do_r16 {h : Hd} {g n1 n2 c1 c2 : Nat} {A1 A2 : Option Addr} {post : Ending → World → Prop} {Q : Exit → Act → World → Prop} (hq : ∀ a w, bodyPost Tryd.prog Tryd.f41 post .ret a w → Q .ret a w) (w : World) (u0 u1 u3 u5 u6 u7 u8 u9 u10 u11 u12 u13 u14 u15 u16 u17 u18 u19 u20 u21 u22 u23 u24 u25 u26 u27 u28 u29 u30 u31 u32 u33 u34 u35 u36 u37 u38 u39 u40 u41 u42 u43 u44 u45 u46 u47 u48 u49 u50 u51 u52 u53 u54 u55 u56 u57 u58 u59 u60 u61 u62 u63 u64 u65 u66 u67 u68 u69 u70 u71 u72 u73 u74 u75 u76 u77 u78 u79 u80 u81 u82 u83 u84 u85 u86 u87 u88 u89 u90 u91 u92 u93 u94 u95 u96 u97 u98 u99 u100 u101 u102 u103 u104 u105 u106 u107 u108 u109 u110 u111 u112 u113 u114 u115 u116 u117 u118 u119 u120 u121 u122 u123 u124 u125 u126 u127 u128 : Value) {h4 : Hd} {g4 : Nat} {s4 x4 : Value} (hB : Blk w g 27 (hcells h (.slice A1 n1 c1) (.slice A2 n2 c2))) (hB4 : Blk w g4 27 (hcells h4 s4 x4)) (hg : g ≠ g4)
    (hp : ∀ w', Keep w w' (· = g4) → post (.returned (.tuple #[.agg (hcells h (.slice A1 n1 c1) (.slice A2 n2 c2)), .bool false, .bool true])) w') :
    Part Tryd.prog Tryd.f41 16 Q ⟨List.toArray (u0 :: u1 :: .pointer (some ⟨g, 0, none⟩) :: u3 :: .pointer (some ⟨g4, 0, none⟩) :: u5 :: u6 :: u7 :: u8 :: u9 :: u10 :: u11 :: u12 :: u13 :: u14 :: u15 :: u16 :: u17 :: u18 :: u19 :: u20 :: u21 :: u22 :: u23 :: u24 :: u25 :: u26 :: u27 :: u28 :: u29 :: u30 :: u31 :: u32 :: u33 :: u34 :: u35 :: u36 :: u37 :: u38 :: u39 :: u40 :: u41 :: u42 :: u43 :: u44 :: u45 :: u46 :: u47 :: u48 :: u49 :: u50 :: u51 :: u52 :: u53 :: u54 :: u55 :: u56 :: u57 :: u58 :: u59 :: u60 :: u61 :: u62 :: u63 :: u64 :: u65 :: u66 :: u67 :: u68 :: u69 :: u70 :: u71 :: u72 :: u73 :: u74 :: u75 :: u76 :: u77 :: u78 :: u79 :: u80 :: u81 :: u82 :: u83 :: u84 :: u85 :: u86 :: u87 :: u88 :: u89 :: u90 :: u91 :: u92 :: u93 :: u94 :: u95 :: u96 :: u97 :: u98 :: u99 :: u100 :: u101 :: u102 :: u103 :: u104 :: u105 :: u106 :: u107 :: u108 :: u109 :: u110 :: u111 :: u112 :: u113 :: u114 :: u115 :: u116 :: u117 :: u118 :: u119 :: u120 :: u121 :: u122 :: u123 :: u124 :: u125 :: u126 :: u127 :: u128 :: []), []⟩ w := by
  have HB := hide hB
  have HB4 := hide hB4
  have HP := hide hp
  have HQ := hide hq
  obtain ⟨x0, x1, x2, x3, x4, x5, x6, x7, x8, x9, x10, x11⟩ := hc12 hB
  clear hB hp hq hB4
  refine part_open (fun c hc K hK => ?_)
  conv at hc => rhs; whnf
  subst hc
  dsimp only [xOf, yOf] at hK ⊢
  go_wp2_with (refine wpList_stRow rfl _ _ rfl rfl rfl HB4.out (by kernel_rfl) rfl (by simp [Value.oneCell']) ?_; intro w2 hb2 hk2; have HB2 := hide hb2; have HK2 := hide hk2; clear hb2 hk2)
  obtain ⟨y0, y1, y2, y3, y4, y5, y6, y7, y8, y9, y10, y11⟩ := hc12 (show Blk w2 g4 27 (hcells h (.slice A1 n1 c1) (.slice A2 n2 c2)) from HB2.out)
  clear x0 x1 x2 x3 x4 x5 x6 x7 x8 x9 x10 x11
  refine HQ.out _ _ ?_
  refine bodyPost_ret (v := .tuple #[.agg (hcells h (.slice A1 n1 c1) (.slice A2 n2 c2)), .bool false, .bool true]) (by unfold hcells; simp [results, Tryd.results41, go_sem, y0, y1, y2, y3, y4, y5, y6, y7, y8, y9, y10, y11]) rfl ?_
  exact HP.out _ HK2.out

set_option maxHeartbeats 1600000 in
theorem do_r23 {h : Hd} {g n1 n2 c1 c2 : Nat} {A1 A2 : Option Addr} {post : Ending → World → Prop} {Q : Exit → Act → World → Prop} (hq : ∀ a w, bodyPost Tryd.prog Tryd.f41 post .ret a w → Q .ret a w) (w : World) (u0 u1 u3 u5 u6 u7 u8 u9 u10 u11 u12 u13 u14 u15 u16 u17 u18 u19 u20 u21 u22 u23 u24 u25 u26 u27 u28 u29 u30 u31 u32 u33 u34 u35 u36 u37 u38 u39 u40 u41 u42 u43 u44 u45 u46 u47 u48 u49 u50 u51 u52 u53 u54 u55 u56 u57 u58 u59 u60 u61 u62 u63 u64 u65 u66 u67 u68 u69 u70 u71 u72 u73 u74 u75 u76 u77 u78 u79 u80 u81 u82 u83 u84 u85 u86 u87 u88 u89 u90 u91 u92 u93 u94 u95 u96 u97 u98 u99 u100 u101 u102 u103 u104 u105 u106 u107 u108 u109 u110 u111 u112 u113 u114 u115 u116 u117 u118 u119 u120 u121 u122 u123 u124 u125 u126 u127 u128 : Value) {h4 : Hd} {g4 : Nat} {s4 x4 : Value} (hB : Blk w g 27 (hcells h (.slice A1 n1 c1) (.slice A2 n2 c2))) (hB4 : Blk w g4 27 (hcells h4 s4 x4)) (hg : g ≠ g4)
    (hp : ∀ w', Keep w w' (· = g4) → post (.returned (.tuple #[.agg (hcells h (.slice A1 n1 c1) (.slice A2 n2 c2)), .bool false, .bool true])) w') :
    Part Tryd.prog Tryd.f41 23 Q ⟨List.toArray (u0 :: u1 :: .pointer (some ⟨g, 0, none⟩) :: u3 :: .pointer (some ⟨g4, 0, none⟩) :: u5 :: u6 :: u7 :: u8 :: u9 :: u10 :: u11 :: u12 :: u13 :: u14 :: u15 :: u16 :: u17 :: u18 :: u19 :: u20 :: u21 :: u22 :: u23 :: u24 :: u25 :: u26 :: u27 :: u28 :: u29 :: u30 :: u31 :: u32 :: u33 :: u34 :: u35 :: u36 :: u37 :: u38 :: u39 :: u40 :: u41 :: u42 :: u43 :: u44 :: u45 :: u46 :: u47 :: u48 :: u49 :: u50 :: u51 :: u52 :: u53 :: u54 :: u55 :: u56 :: u57 :: u58 :: u59 :: u60 :: u61 :: u62 :: u63 :: u64 :: u65 :: u66 :: u67 :: u68 :: u69 :: u70 :: u71 :: u72 :: u73 :: u74 :: u75 :: u76 :: u77 :: u78 :: u79 :: u80 :: u81 :: u82 :: u83 :: u84 :: u85 :: u86 :: u87 :: u88 :: u89 :: u90 :: u91 :: u92 :: u93 :: u94 :: u95 :: u96 :: u97 :: u98 :: u99 :: u100 :: u101 :: u102 :: u103 :: u104 :: u105 :: u106 :: u107 :: u108 :: u109 :: u110 :: u111 :: u112 :: u113 :: u114 :: u115 :: u116 :: u117 :: u118 :: u119 :: u120 :: u121 :: u122 :: u123 :: u124 :: u125 :: u126 :: u127 :: u128 :: []), []⟩ w := by
  have HB := hide hB
  have HB4 := hide hB4
  have HP := hide hp
  have HQ := hide hq
  obtain ⟨x0, x1, x2, x3, x4, x5, x6, x7, x8, x9, x10, x11⟩ := hc12 hB
  clear hB hp hq hB4
  refine part_open (fun c hc K hK => ?_)
  conv at hc => rhs; whnf
  subst hc
  dsimp only [xOf, yOf] at hK ⊢
  go_wp2_with (refine wpList_stRow rfl _ _ rfl rfl rfl HB4.out (by kernel_rfl) rfl (by simp [Value.oneCell']) ?_; intro w2 hb2 hk2; have HB2 := hide hb2; have HK2 := hide hk2; clear hb2 hk2)
  obtain ⟨y0, y1, y2, y3, y4, y5, y6, y7, y8, y9, y10, y11⟩ := hc12 (show Blk w2 g4 27 (hcells h (.slice A1 n1 c1) (.slice A2 n2 c2)) from HB2.out)
  clear x0 x1 x2 x3 x4 x5 x6 x7 x8 x9 x10 x11
  refine HQ.out _ _ ?_
  refine bodyPost_ret (v := .tuple #[.agg (hcells h (.slice A1 n1 c1) (.slice A2 n2 c2)), .bool false, .bool true]) (by unfold hcells; simp [results, Tryd.results41, go_sem, y0, y1, y2, y3, y4, y5, y6, y7, y8, y9, y10, y11]) rfl ?_
  exact HP.out _ HK2.out

set_option maxHeartbeats 1600000 in
theorem do_r29 {h : Hd} {g n1 n2 c1 c2 : Nat} {A1 A2 : Option Addr} {post : Ending → World → Prop} {Q : Exit → Act → World → Prop} (hq : ∀ a w, bodyPost Tryd.prog Tryd.f41 post .ret a w → Q .ret a w) (w : World) (u0 u1 u3 u5 u6 u7 u8 u9 u10 u11 u12 u13 u14 u15 u16 u17 u18 u19 u20 u21 u22 u23 u24 u25 u26 u27 u28 u29 u30 u31 u32 u33 u34 u35 u36 u37 u38 u39 u40 u41 u42 u43 u44 u45 u46 u47 u48 u49 u50 u51 u52 u53 u54 u55 u56 u57 u58 u59 u60 u61 u62 u63 u64 u65 u66 u67 u68 u69 u70 u71 u72 u73 u74 u75 u76 u77 u78 u79 u80 u81 u82 u83 u84 u85 u86 u87 u88 u89 u90 u91 u92 u93 u94 u95 u96 u97 u98 u99 u100 u101 u102 u103 u104 u105 u106 u107 u108 u109 u110 u111 u112 u113 u114 u115 u116 u117 u118 u119 u120 u121 u122 u123 u124 u125 u126 u127 u128 : Value) {h4 : Hd} {g4 : Nat} {s4 x4 : Value} (hB : Blk w g 27 (hcells h (.slice A1 n1 c1) (.slice A2 n2 c2))) (hB4 : Blk w g4 27 (hcells h4 s4 x4)) (hg : g ≠ g4)
    (hp : ∀ w', Keep w w' (· = g4) → post (.returned (.tuple #[.agg (hcells h (.slice A1 n1 c1) (.slice A2 n2 c2)), .bool false, .bool false])) w') :
    Part Tryd.prog Tryd.f41 29 Q ⟨List.toArray (u0 :: u1 :: .pointer (some ⟨g, 0, none⟩) :: u3 :: .pointer (some ⟨g4, 0, none⟩) :: u5 :: u6 :: u7 :: u8 :: u9 :: u10 :: u11 :: u12 :: u13 :: u14 :: u15 :: u16 :: u17 :: u18 :: u19 :: u20 :: u21 :: u22 :: u23 :: u24 :: u25 :: u26 :: u27 :: u28 :: u29 :: u30 :: u31 :: u32 :: u33 :: u34 :: u35 :: u36 :: u37 :: u38 :: u39 :: u40 :: u41 :: u42 :: u43 :: u44 :: u45 :: u46 :: u47 :: u48 :: u49 :: u50 :: u51 :: u52 :: u53 :: u54 :: u55 :: u56 :: u57 :: u58 :: u59 :: u60 :: u61 :: u62 :: u63 :: u64 :: u65 :: u66 :: u67 :: u68 :: u69 :: u70 :: u71 :: u72 :: u73 :: u74 :: u75 :: u76 :: u77 :: u78 :: u79 :: u80 :: u81 :: u82 :: u83 :: u84 :: u85 :: u86 :: u87 :: u88 :: u89 :: u90 :: u91 :: u92 :: u93 :: u94 :: u95 :: u96 :: u97 :: u98 :: u99 :: u100 :: u101 :: u102 :: u103 :: u104 :: u105 :: u106 :: u107 :: u108 :: u109 :: u110 :: u111 :: u112 :: u113 :: u114 :: u115 :: u116 :: u117 :: u118 :: u119 :: u120 :: u121 :: u122 :: u123 :: u124 :: u125 :: u126 :: u127 :: u128 :: []), []⟩ w := by
  have HB := hide hB
  have HB4 := hide hB4
  have HP := hide hp
  have HQ := hide hq
  obtain ⟨x0, x1, x2, x3, x4, x5, x6, x7, x8, x9, x10, x11⟩ := hc12 hB
  clear hB hp hq hB4
  refine part_open (fun c hc K hK => ?_)
  conv at hc => rhs; whnf
  subst hc
  dsimp only [xOf, yOf] at hK ⊢
  go_wp2_with (refine wpList_stRow rfl _ _ rfl rfl rfl HB4.out (by kernel_rfl) rfl (by simp [Value.oneCell']) ?_; intro w2 hb2 hk2; have HB2 := hide hb2; have HK2 := hide hk2; clear hb2 hk2)
  obtain ⟨y0, y1, y2, y3, y4, y5, y6, y7, y8, y9, y10, y11⟩ := hc12 (show Blk w2 g4 27 (hcells h (.slice A1 n1 c1) (.slice A2 n2 c2)) from HB2.out)
  clear x0 x1 x2 x3 x4 x5 x6 x7 x8 x9 x10 x11
  refine HQ.out _ _ ?_
  refine bodyPost_ret (v := .tuple #[.agg (hcells h (.slice A1 n1 c1) (.slice A2 n2 c2)), .bool false, .bool false]) (by unfold hcells; simp [results, Tryd.results41, go_sem, y0, y1, y2, y3, y4, y5, y6, y7, y8, y9, y10, y11]) rfl ?_
  exact HP.out _ HK2.out

set_option maxHeartbeats 1600000 in
theorem do_r14 {h : Hd} {g n1 n2 c1 c2 : Nat} {A1 A2 : Option Addr} {post : Ending → World → Prop} {Q : Exit → Act → World → Prop} (hq : ∀ a w, bodyPost Tryd.prog Tryd.f41 post .ret a w → Q .ret a w) (w : World) (u0 u1 u2 u3 u5 u6 u7 u8 u9 u10 u11 u12 u13 u14 u15 u16 u17 u18 u19 u20 u21 u22 u23 u24 u25 u26 u27 u28 u29 u30 u31 u32 u33 u34 u35 u36 u37 u38 u39 u40 u41 u42 u43 u44 u45 u46 u47 u48 u49 u50 u51 u52 u53 u54 u55 u56 u57 u58 u59 u60 u61 u62 u63 u64 u65 u66 u67 u68 u69 u70 u71 u72 u73 u74 u75 u76 u77 u78 u79 u80 u81 u82 u83 u84 u85 u86 u87 u88 u89 u90 u91 u92 u93 u94 u95 u96 u97 u98 u99 u100 u101 u102 u103 u104 u105 u106 u107 u108 u109 u110 u111 u112 u113 u114 u115 u116 u117 u118 u119 u120 u121 u122 u123 u124 u125 u126 u127 u128 : Value) (hB : Blk w g 27 (hcells h (.slice A1 n1 c1) (.slice A2 n2 c2)))
    (hp : ∀ w', Keep w w' (· = g) → post (.returned (.tuple #[.agg (hcells h (.slice A1 n1 c1) (.slice A2 n2 c2)), .bool true, .bool true])) w') :
    Part Tryd.prog Tryd.f41 14 Q ⟨List.toArray (u0 :: u1 :: u2 :: u3 :: .pointer (some ⟨g, 0, none⟩) :: u5 :: u6 :: u7 :: u8 :: u9 :: u10 :: u11 :: u12 :: u13 :: u14 :: u15 :: u16 :: u17 :: u18 :: u19 :: u20 :: u21 :: u22 :: u23 :: u24 :: u25 :: u26 :: u27 :: u28 :: u29 :: u30 :: u31 :: u32 :: u33 :: u34 :: u35 :: u36 :: u37 :: u38 :: u39 :: u40 :: u41 :: u42 :: u43 :: u44 :: u45 :: u46 :: u47 :: u48 :: u49 :: u50 :: u51 :: u52 :: u53 :: u54 :: u55 :: u56 :: u57 :: u58 :: u59 :: u60 :: u61 :: u62 :: u63 :: u64 :: u65 :: u66 :: u67 :: u68 :: u69 :: u70 :: u71 :: u72 :: u73 :: u74 :: u75 :: u76 :: u77 :: u78 :: u79 :: u80 :: u81 :: u82 :: u83 :: u84 :: u85 :: u86 :: u87 :: u88 :: u89 :: u90 :: u91 :: u92 :: u93 :: u94 :: u95 :: u96 :: u97 :: u98 :: u99 :: u100 :: u101 :: u102 :: u103 :: u104 :: u105 :: u106 :: u107 :: u108 :: u109 :: u110 :: u111 :: u112 :: u113 :: u114 :: u115 :: u116 :: u117 :: u118 :: u119 :: u120 :: u121 :: u122 :: u123 :: u124 :: u125 :: u126 :: u127 :: u128 :: []), []⟩ w := by
  have HB := hide hB
  have HP := hide hp
  have HQ := hide hq
  obtain ⟨x0, x1, x2, x3, x4, x5, x6, x7, x8, x9, x10, x11⟩ := hc12 hB
  clear hB hp hq 
  refine part_open (fun c hc K hK => ?_)
  conv at hc => rhs; whnf
  subst hc
  dsimp only [xOf, yOf] at hK ⊢
  go_wp2_with (refine wpList_stRow rfl _ _ rfl rfl rfl HB.out (by kernel_rfl) rfl (by simp [Value.oneCell']) ?_; intro w2 hb2 hk2; have HB2 := hide hb2; have HK2 := hide hk2; clear hb2 hk2)
  obtain ⟨y0, y1, y2, y3, y4, y5, y6, y7, y8, y9, y10, y11⟩ := hc12 (show Blk w2 g 27 (hcells h (.slice A1 n1 c1) (.slice A2 n2 c2)) from HB2.out)
  clear x0 x1 x2 x3 x4 x5 x6 x7 x8 x9 x10 x11
  refine HQ.out _ _ ?_
  refine bodyPost_ret (v := .tuple #[.agg (hcells h (.slice A1 n1 c1) (.slice A2 n2 c2)), .bool true, .bool true]) (by unfold hcells; simp [results, Tryd.results41, go_sem, y0, y1, y2, y3, y4, y5, y6, y7, y8, y9, y10, y11]) rfl ?_
  exact HP.out _ HK2.out

set_option maxHeartbeats 1600000 in
theorem do_r20 {h : Hd} {g n1 n2 c1 c2 : Nat} {A1 A2 : Option Addr} {post : Ending → World → Prop} {Q : Exit → Act → World → Prop} (hq : ∀ a w, bodyPost Tryd.prog Tryd.f41 post .ret a w → Q .ret a w) (w : World) (u0 u1 u2 u3 u5 u6 u7 u8 u9 u10 u11 u12 u13 u14 u15 u16 u17 u18 u19 u20 u21 u22 u23 u24 u25 u26 u27 u28 u29 u30 u31 u32 u33 u34 u35 u36 u37 u38 u39 u40 u41 u42 u43 u44 u45 u46 u47 u48 u49 u50 u51 u52 u53 u54 u55 u56 u57 u58 u59 u60 u61 u62 u63 u64 u65 u66 u67 u68 u69 u70 u71 u72 u73 u74 u75 u76 u77 u78 u79 u80 u81 u82 u83 u84 u85 u86 u87 u88 u89 u90 u91 u92 u93 u94 u95 u96 u97 u98 u99 u100 u101 u102 u103 u104 u105 u106 u107 u108 u109 u110 u111 u112 u113 u114 u115 u116 u117 u118 u119 u120 u121 u122 u123 u124 u125 u126 u127 u128 : Value) (hB : Blk w g 27 (hcells h (.slice A1 n1 c1) (.slice A2 n2 c2)))
    (hp : ∀ w', Keep w w' (· = g) → post (.returned (.tuple #[.agg (hcells h (.slice A1 n1 c1) (.slice A2 n2 c2)), .bool true, .bool true])) w') :
    Part Tryd.prog Tryd.f41 20 Q ⟨List.toArray (u0 :: u1 :: u2 :: u3 :: .pointer (some ⟨g, 0, none⟩) :: u5 :: u6 :: u7 :: u8 :: u9 :: u10 :: u11 :: u12 :: u13 :: u14 :: u15 :: u16 :: u17 :: u18 :: u19 :: u20 :: u21 :: u22 :: u23 :: u24 :: u25 :: u26 :: u27 :: u28 :: u29 :: u30 :: u31 :: u32 :: u33 :: u34 :: u35 :: u36 :: u37 :: u38 :: u39 :: u40 :: u41 :: u42 :: u43 :: u44 :: u45 :: u46 :: u47 :: u48 :: u49 :: u50 :: u51 :: u52 :: u53 :: u54 :: u55 :: u56 :: u57 :: u58 :: u59 :: u60 :: u61 :: u62 :: u63 :: u64 :: u65 :: u66 :: u67 :: u68 :: u69 :: u70 :: u71 :: u72 :: u73 :: u74 :: u75 :: u76 :: u77 :: u78 :: u79 :: u80 :: u81 :: u82 :: u83 :: u84 :: u85 :: u86 :: u87 :: u88 :: u89 :: u90 :: u91 :: u92 :: u93 :: u94 :: u95 :: u96 :: u97 :: u98 :: u99 :: u100 :: u101 :: u102 :: u103 :: u104 :: u105 :: u106 :: u107 :: u108 :: u109 :: u110 :: u111 :: u112 :: u113 :: u114 :: u115 :: u116 :: u117 :: u118 :: u119 :: u120 :: u121 :: u122 :: u123 :: u124 :: u125 :: u126 :: u127 :: u128 :: []), []⟩ w := by
  have HB := hide hB
  have HP := hide hp
  have HQ := hide hq
  obtain ⟨x0, x1, x2, x3, x4, x5, x6, x7, x8, x9, x10, x11⟩ := hc12 hB
  clear hB hp hq 
  refine part_open (fun c hc K hK => ?_)
  conv at hc => rhs; whnf
  subst hc
  dsimp only [xOf, yOf] at hK ⊢
  go_wp2_with (refine wpList_stRow rfl _ _ rfl rfl rfl HB.out (by kernel_rfl) rfl (by simp [Value.oneCell']) ?_; intro w2 hb2 hk2; have HB2 := hide hb2; have HK2 := hide hk2; clear hb2 hk2)
  obtain ⟨y0, y1, y2, y3, y4, y5, y6, y7, y8, y9, y10, y11⟩ := hc12 (show Blk w2 g 27 (hcells h (.slice A1 n1 c1) (.slice A2 n2 c2)) from HB2.out)
  clear x0 x1 x2 x3 x4 x5 x6 x7 x8 x9 x10 x11
  refine HQ.out _ _ ?_
  refine bodyPost_ret (v := .tuple #[.agg (hcells h (.slice A1 n1 c1) (.slice A2 n2 c2)), .bool true, .bool true]) (by unfold hcells; simp [results, Tryd.results41, go_sem, y0, y1, y2, y3, y4, y5, y6, y7, y8, y9, y10, y11]) rfl ?_
  exact HP.out _ HK2.out

set_option maxHeartbeats 1600000 in
theorem do_r28 {h : Hd} {g n1 n2 c1 c2 : Nat} {A1 A2 : Option Addr} {post : Ending → World → Prop} {Q : Exit → Act → World → Prop} (hq : ∀ a w, bodyPost Tryd.prog Tryd.f41 post .ret a w → Q .ret a w) (w : World) (u0 u1 u2 u3 u5 u6 u7 u8 u9 u10 u11 u12 u13 u14 u15 u16 u17 u18 u19 u20 u21 u22 u23 u24 u25 u26 u27 u28 u29 u30 u31 u32 u33 u34 u35 u36 u37 u38 u39 u40 u41 u42 u43 u44 u45 u46 u47 u48 u49 u50 u51 u52 u53 u54 u55 u56 u57 u58 u59 u60 u61 u62 u63 u64 u65 u66 u67 u68 u69 u70 u71 u72 u73 u74 u75 u76 u77 u78 u79 u80 u81 u82 u83 u84 u85 u86 u87 u88 u89 u90 u91 u92 u93 u94 u95 u96 u97 u98 u99 u100 u101 u102 u103 u104 u105 u106 u107 u108 u109 u110 u111 u112 u113 u114 u115 u116 u117 u118 u119 u120 u121 u122 u123 u124 u125 u126 u127 u128 : Value) (hB : Blk w g 27 (hcells h (.slice A1 n1 c1) (.slice A2 n2 c2)))
    (hp : ∀ w', Keep w w' (· = g) → post (.returned (.tuple #[.agg (hcells h (.slice A1 n1 c1) (.slice A2 n2 c2)), .bool true, .bool true])) w') :
    Part Tryd.prog Tryd.f41 28 Q ⟨List.toArray (u0 :: u1 :: u2 :: u3 :: .pointer (some ⟨g, 0, none⟩) :: u5 :: u6 :: u7 :: u8 :: u9 :: u10 :: u11 :: u12 :: u13 :: u14 :: u15 :: u16 :: u17 :: u18 :: u19 :: u20 :: u21 :: u22 :: u23 :: u24 :: u25 :: u26 :: u27 :: u28 :: u29 :: u30 :: u31 :: u32 :: u33 :: u34 :: u35 :: u36 :: u37 :: u38 :: u39 :: u40 :: u41 :: u42 :: u43 :: u44 :: u45 :: u46 :: u47 :: u48 :: u49 :: u50 :: u51 :: u52 :: u53 :: u54 :: u55 :: u56 :: u57 :: u58 :: u59 :: u60 :: u61 :: u62 :: u63 :: u64 :: u65 :: u66 :: u67 :: u68 :: u69 :: u70 :: u71 :: u72 :: u73 :: u74 :: u75 :: u76 :: u77 :: u78 :: u79 :: u80 :: u81 :: u82 :: u83 :: u84 :: u85 :: u86 :: u87 :: u88 :: u89 :: u90 :: u91 :: u92 :: u93 :: u94 :: u95 :: u96 :: u97 :: u98 :: u99 :: u100 :: u101 :: u102 :: u103 :: u104 :: u105 :: u106 :: u107 :: u108 :: u109 :: u110 :: u111 :: u112 :: u113 :: u114 :: u115 :: u116 :: u117 :: u118 :: u119 :: u120 :: u121 :: u122 :: u123 :: u124 :: u125 :: u126 :: u127 :: u128 :: []), []⟩ w := by
  have HB := hide hB
  have HP := hide hp
  have HQ := hide hq
  obtain ⟨x0, x1, x2, x3, x4, x5, x6, x7, x8, x9, x10, x11⟩ := hc12 hB
  clear hB hp hq 
  refine part_open (fun c hc K hK => ?_)
  conv at hc => rhs; whnf
  subst hc
  dsimp only [xOf, yOf] at hK ⊢
  go_wp2_with (refine wpList_stRow rfl _ _ rfl rfl rfl HB.out (by kernel_rfl) rfl (by simp [Value.oneCell']) ?_; intro w2 hb2 hk2; have HB2 := hide hb2; have HK2 := hide hk2; clear hb2 hk2)
  obtain ⟨y0, y1, y2, y3, y4, y5, y6, y7, y8, y9, y10, y11⟩ := hc12 (show Blk w2 g 27 (hcells h (.slice A1 n1 c1) (.slice A2 n2 c2)) from HB2.out)
  clear x0 x1 x2 x3 x4 x5 x6 x7 x8 x9 x10 x11
  refine HQ.out _ _ ?_
  refine bodyPost_ret (v := .tuple #[.agg (hcells h (.slice A1 n1 c1) (.slice A2 n2 c2)), .bool true, .bool true]) (by unfold hcells; simp [results, Tryd.results41, go_sem, y0, y1, y2, y3, y4, y5, y6, y7, y8, y9, y10, y11]) rfl ?_
  exact HP.out _ HK2.out

set_option maxHeartbeats 1600000 in
theorem do_r25 {h : Hd} {g n1 n2 c1 c2 : Nat} {A1 A2 : Option Addr} {post : Ending → World → Prop} {Q : Exit → Act → World → Prop} (hq : ∀ a w, bodyPost Tryd.prog Tryd.f41 post .ret a w → Q .ret a w) (w : World) (u0 u1 u2 u3 u5 u6 u7 u8 u9 u10 u11 u12 u13 u14 u15 u16 u17 u18 u19 u20 u21 u22 u23 u24 u25 u26 u27 u28 u29 u30 u31 u32 u33 u34 u35 u36 u37 u38 u39 u40 u41 u42 u43 u44 u45 u46 u47 u48 u49 u50 u51 u52 u53 u54 u55 u56 u57 u58 u59 u60 u61 u62 u63 u64 u65 u66 u67 u68 u69 u70 u71 u72 u73 u74 u75 u76 u77 u78 u79 u80 u81 u82 u83 u84 u85 u86 u87 u88 u89 u90 u91 u92 u93 u94 u95 u96 u97 u98 u99 u100 u101 u102 u103 u104 u105 u106 u107 u108 u109 u110 u111 u112 u113 u114 u115 u116 u117 u118 u119 u120 u121 u122 u123 u124 u125 u126 u127 u128 : Value) (hB : Blk w g 27 (hcells h (.slice A1 n1 c1) (.slice A2 n2 c2)))
    (hp : ∀ w', Keep w w' (· = g) → post (.returned (.tuple #[.agg (hcells h (.slice A1 n1 c1) (.slice A2 n2 c2)), .bool true, .bool (decide ((0 : Int) < (n2 : Int)))])) w') :
    Part Tryd.prog Tryd.f41 25 Q ⟨List.toArray (u0 :: u1 :: u2 :: u3 :: .pointer (some ⟨g, 0, none⟩) :: u5 :: u6 :: u7 :: u8 :: u9 :: u10 :: u11 :: u12 :: u13 :: u14 :: u15 :: u16 :: u17 :: u18 :: u19 :: u20 :: u21 :: u22 :: u23 :: u24 :: u25 :: u26 :: u27 :: u28 :: u29 :: u30 :: u31 :: u32 :: u33 :: u34 :: u35 :: u36 :: u37 :: u38 :: u39 :: u40 :: u41 :: u42 :: u43 :: u44 :: u45 :: u46 :: u47 :: u48 :: u49 :: u50 :: u51 :: u52 :: u53 :: u54 :: u55 :: u56 :: u57 :: u58 :: u59 :: u60 :: u61 :: u62 :: u63 :: u64 :: u65 :: u66 :: u67 :: u68 :: u69 :: u70 :: u71 :: u72 :: u73 :: u74 :: u75 :: u76 :: u77 :: u78 :: u79 :: u80 :: u81 :: u82 :: u83 :: u84 :: u85 :: u86 :: u87 :: u88 :: u89 :: u90 :: u91 :: u92 :: u93 :: u94 :: u95 :: u96 :: u97 :: u98 :: u99 :: u100 :: u101 :: u102 :: u103 :: u104 :: u105 :: u106 :: u107 :: u108 :: u109 :: u110 :: u111 :: u112 :: u113 :: u114 :: u115 :: u116 :: u117 :: u118 :: u119 :: u120 :: u121 :: u122 :: u123 :: u124 :: u125 :: u126 :: u127 :: u128 :: []), []⟩ w := by
  have HB := hide hB
  have HP := hide hp
  have HQ := hide hq
  obtain ⟨x0, x1, x2, x3, x4, x5, x6, x7, x8, x9, x10, x11⟩ := hc12 hB
  clear hB hp hq 
  refine part_open (fun c hc K hK => ?_)
  conv at hc => rhs; whnf
  subst hc
  dsimp only [xOf, yOf] at hK ⊢
  go_wp2_with (refine wpList_stRow rfl _ _ rfl rfl rfl HB.out (by kernel_rfl) rfl (by simp [Value.oneCell']) ?_; intro w2 hb2 hk2; have HB2 := hide hb2; have HK2 := hide hk2; clear hb2 hk2)
  obtain ⟨y0, y1, y2, y3, y4, y5, y6, y7, y8, y9, y10, y11⟩ := hc12 (show Blk w2 g 27 (hcells h (.slice A1 n1 c1) (.slice A2 n2 c2)) from HB2.out)
  clear x0 x1 x2 x3 x4 x5 x6 x7 x8 x9 x10 x11
  refine HQ.out _ _ ?_
  refine bodyPost_ret (v := .tuple #[.agg (hcells h (.slice A1 n1 c1) (.slice A2 n2 c2)), .bool true, .bool (decide ((0 : Int) < (n2 : Int)))]) (by unfold hcells; simp [results, Tryd.results41, go_sem, y0, y1, y2, y3, y4, y5, y6, y7, y8, y9, y10, y11]) rfl ?_
  exact HP.out _ HK2.out
end Go.Proofs.YtdmnflngafbobaaDoor
namespace Go.Proofs.YtdmnflngafbobaaDoor
open Go.RowKit
set_option linter.unusedVariables false
set_option linter.unusedSimpArgs false
set_option maxRecDepth 100000


set_option maxHeartbeats 3200000 in
theorem do_p0 {p : Nat → Prop} {v : Value} {hd : Hd} {s : St} {A : Option Addr} {n c : Nat} {post : Ending → World → Prop} (w : World) (hh : HV w p v hd) (hR : Rd w p 1 (.slice A n c) n (B8 s.data)) (hx : hd.exts.length ≤ 1000000) (hpl : ∀ k, p k → k < w.heap.size)
    (H : ∀ (Q : Exit → Act → World → Prop) (hq : ∀ a w, bodyPost Tryd.prog Tryd.f41 post .ret a w → Q .ret a w) (hqn : ∀ a w, (fromR Tryd.f41 29).wp Tryd.prog (bodyPost Tryd.prog Tryd.f41 post) a w → Q .normal a w) (u0 u1 u8 u9 u10 u11 u12 u13 u14 u15 u16 u17 u18 u19 u20 u21 u22 u23 u24 u25 u26 u27 u28 u29 u30 u31 u32 u33 u34 u35 u36 u37 u38 u39 u40 u41 u42 u43 u44 u45 u46 u47 u48 u49 u50 u51 u52 u53 u54 u55 u56 u57 u58 u59 u60 u61 u62 u63 u64 u65 u66 u67 u68 u69 u70 u71 u72 u73 u74 u75 u76 u77 u78 u79 u80 u81 u82 u83 u84 u85 u86 u87 u88 u89 u90 u91 u92 u93 u94 u95 u96 u97 u98 u99 u100 u101 u102 u103 u104 u105 u106 u107 u108 u109 u110 u111 u112 u113 u114 u115 u116 u117 u118 u119 u120 u121 u122 u123 u124 u125 u126 u127 u128 : Value) (w' : World) (g2 g3 g4 cs cx co : Nat) (As Ax Ao : Option Addr) (ds : List Value), DoS p w w' g2 g3 g4 hd s A n c As cs Ax cx Ao co ds →
      Part Tryd.prog Tryd.f41 4 Q ⟨List.toArray (u0 :: u1 :: .pointer (some ⟨g2, 0, none⟩) :: .pointer (some ⟨g3, 0, none⟩) :: .pointer (some ⟨g4, 0, none⟩) :: .bool false :: .bool false :: .int .i64 (fiI (fi hd.exts s.id)) :: u8 :: u9 :: u10 :: u11 :: u12 :: u13 :: u14 :: u15 :: u16 :: u17 :: u18 :: u19 :: u20 :: u21 :: u22 :: u23 :: u24 :: u25 :: u26 :: u27 :: u28 :: u29 :: u30 :: u31 :: u32 :: u33 :: u34 :: u35 :: u36 :: u37 :: u38 :: u39 :: u40 :: u41 :: u42 :: u43 :: u44 :: u45 :: u46 :: u47 :: u48 :: u49 :: u50 :: u51 :: u52 :: u53 :: u54 :: u55 :: u56 :: u57 :: u58 :: u59 :: u60 :: u61 :: u62 :: u63 :: u64 :: u65 :: u66 :: u67 :: u68 :: u69 :: u70 :: u71 :: u72 :: u73 :: u74 :: u75 :: u76 :: u77 :: u78 :: u79 :: u80 :: u81 :: u82 :: u83 :: u84 :: u85 :: u86 :: u87 :: u88 :: u89 :: u90 :: u91 :: u92 :: u93 :: u94 :: u95 :: u96 :: u97 :: u98 :: u99 :: u100 :: u101 :: u102 :: u103 :: u104 :: u105 :: u106 :: u107 :: u108 :: u109 :: u110 :: u111 :: u112 :: u113 :: u114 :: u115 :: u116 :: u117 :: u118 :: u119 :: u120 :: u121 :: u122 :: u123 :: u124 :: u125 :: u126 :: u127 :: u128 :: []), []⟩ w') :
    Calls Tryd.prog 41 #[v, .agg (scells s.what s.id A n c s.prof)] w post := by
  have hnl : s.data.length = n := by have := hR.len; rwa [B8_len] at this
  have HH := hide H
  have HNL := hide hnl
  have HPL := hide hpl
  have HR := hide hR
  obtain ⟨sv, xv, rfl, h1, ds, hd2, h2⟩ := hh
  obtain ⟨As, cs, rfl⟩ := h1.shape
  obtain ⟨Ax, cx, rfl⟩ := h2.shape
  have HV0 := hide (show HV w p (.agg (hcells hd (.slice As hd.srcs.length cs) (.slice Ax hd.exts.length cx))) hd from ⟨_, _, rfl, h1, ds, hd2, h2⟩)
  have HSR := hide h1
  have HD := hide hd2
  have HX := hide h2
  clear H hR h1 h2 hd2 hnl hpl
  have HC : hcells hd (.slice As hd.srcs.length cs) (.slice Ax hd.exts.length cx) = #[.int .u8 hd.v, .bool hd.pad, .bool hd.ext, .bool hd.mark, .int .u8 hd.ty, .int .u16 hd.seq, .int .u32 hd.time, .int .u32 hd.ssrc, .slice As hd.srcs.length cs, .int .u16 hd.prof, .slice Ax hd.exts.length cx, .int .u8 hd.padn] := rfl
  have HC2 : scells s.what s.id A n c s.prof = #[.int .i64 s.what, .int .u8 s.id, .slice A n c, .int .u16 s.prof] := rfl
  rw [HC, HC2]
  go_enter Tryd.func41, Tryd.ntmps41
  go_upto_region 1 with fail
  generalize hwa : World.alloc (World.alloc (World.alloc w _) _) _ = wa
  obtain ⟨g3, hg3⟩ : ∃ g3, g3 = w.heap.size + 1 := ⟨_, rfl⟩
  obtain ⟨g4, hg4⟩ : ∃ g4, g4 = w.heap.size + 1 + 1 := ⟨_, rfl⟩
  obtain ⟨g2, hg2⟩ : ∃ g2, g2 = w.heap.size := ⟨_, rfl⟩
  have B2 := hide (show Blk wa w.heap.size 27 (hcells hd (.slice As hd.srcs.length cs) (.slice Ax hd.exts.length cx)) by subst hwa; exact ((Blk.new w _ _).alloc _).alloc _)
  have B3 := hide (show Blk wa g3 73 (scells s.what s.id A n c s.prof) by subst hwa hg3; exact Blk.alloc (Blk.new' (by simp only [World.size_alloc])) _)
  have B4 := hide (show Blk wa g4 27 (hcells hd0 (.slice none 0 0) (.slice none 0 0)) by subst hwa hg4; exact Blk.new' (by simp only [World.size_alloc]))
  have KA := hide (show Keep w wa Nul by subst hwa; exact (((Keep.refl w Nul).alloc _).alloc _).alloc _)
  have hza : wa.heap.size = w.heap.size + 3 := by subst hwa; simp only [World.size_alloc]
  rw [← hg4, ← hg3]
  rw [← hg2] at B2 ⊢
  have n23 : g2 ≠ g3 := by omega
  have n24 : g2 ≠ g4 := by omega
  have n34 : g3 ≠ g4 := by omega
  have m2 : w.heap.size ≤ g2 := by omega
  have m3 : w.heap.size ≤ g3 := by omega
  have m4 : w.heap.size ≤ g4 := by omega
  generalize hv0 : Value.agg _ = v0
  generalize hv1 : Value.agg _ = v1
  clear hwa HC HC2 hv0 hv1 hg2 hg3 hg4
  obtain ⟨x0, x1, x2, x3, x4, x5, x6, x7, x8, x9, x10, x11⟩ := hc12 B2.out
  have l2a := B2.out.lt
  have l4a := B4.out.lt
  go_upto_region 2 with (refine wpList_stRow rfl _ _ rfl rfl rfl B4.out (by kernel_rfl) rfl (by simp [Value.oneCell']) ?_; intro w2 hb2 hk2; have B42 := hide hb2; have K2 := hide hk2; clear hb2 hk2)
  have B42' := hide (show Blk w2 g4 27 (hcells hd (.slice As hd.srcs.length cs) (.slice Ax hd.exts.length cx)) from B42.out)
  have B22 := hide (B2.out.keep K2.out (fun e => by omega))
  have B32 := hide (B3.out.keep K2.out (fun e => by omega))
  have K02 := hide (KA.out.trans K2.out (fun i hi e => by have : i = g4 := e; omega))
  have hz2 : w.heap.size + 3 ≤ w2.heap.size := by rw [← hza]; exact K2.out.size
  have l2 := B22.out.lt
  have l42 := B42'.out.lt
  clear x0 x1 x2 x3 x4 x5 x6 x7 x8 x9 x10 x11 B42
  have X2 := hide (HX.out.keep0 K02.out)
  have z10 := B22.out.cell 10 (v := .slice Ax hd.exts.length cx) rfl
  go_upto_region 3 with (at_builtin; refine wpList_app etS rfl _ _ rfl (Own.of_lit w2 #[] 0 (by decide) rfl) rfl (src_of_rd (P := Tryd.prog) (w2.alloc (.cells #[] 66)) Tryd.underlying25 (X2.out.alloc _) (xcells_one hd.exts ds HD.out)) rfl (by simp only [maxLen]; omega) (by omega) (by simp only [World.size_alloc]; omega) ?_; intro v3 w3 o3 k3 b3 z3 _; have K3 := hide (((Keep.refl w2 Nul).alloc (.cells #[] 66)).trans k3 (fun i hi e => by have e' : some w2.heap.size = some i := e; injection e' with e'; omega)); have O3 := hide (Own.len_eq (o3.low (by omega : w.heap.size ≤ w2.heap.size)) (Nat.zero_add _)); obtain ⟨Ao, co, rfl⟩ := O3.out.rd.shape; have B53 := hide (B42'.out.keep K3.out (fun e => e)); have f10 := B53.out.free 10; have l53 := B53.out.lt; have y10 := B53.out.cell 10 (v := .slice Ax hd.exts.length cx) rfl; clear o3 k3 b3 z3)
  have B54 := hide (B53.out.set_ 10 (.slice Ao hd.exts.length co))
  have kst : Keep w3 (w3.setCell ⟨g4, 10, none⟩ (.slice Ao hd.exts.length co)) (· = g4) := Keep.set1 _ _ _ _
  have O4 := hide (O3.out.keep kst (fun q hq e => (O3.out.ne_ B53.out (by decide)) (e ▸ hq)))
  have K04 := hide ((K02.out.trans0 K3.out).trans kst (fun i hi e => by have : i = g4 := e; omega))
  have B24 := hide ((B22.out.keep K3.out (fun e => e)).keep kst (fun e => n24 e))
  have B34 := hide ((B32.out.keep K3.out (fun e => e)).keep kst (fun e => n34 e))
  generalize hw4 : World.setCell w3 _ _ = w4 at *
  clear hw4 f10 y10 z10 kst
  have hFd := hide (find_walk (id := s.id) w4 (HV0.out.keep0 K04.out) (by omega))
  obtain ⟨x0, x1, x2, x3, x4, x5, x6, x7, x8, x9, x10, x11⟩ := hc12 B24.out
  have s1 := B34.out.cell 1 (v := .int .u8 s.id) rfl
  have l24 := B24.out.lt
  have l34 := B34.out.lt
  go_wp2_with fail
  refine Calls.mono (show Calls _ _ #[.agg (hcells hd (.slice As hd.srcs.length cs) (.slice Ax hd.exts.length cx)), .int .u8 s.id] _ _ from hFd.out) ?_
  rintro e w5 ⟨rfl, k5⟩
  have D5 : DoS p w w5 g2 g3 g4 hd s A n c As cs Ax cx Ao co ds := ⟨HPL.out, K04.out.trans0 k5, m2, m3, m4, n23, n24, n34, B24.out.keep k5 (fun e => e), B34.out.keep k5 (fun e => e), Blk.keep (show Blk w4 g4 _ (hcells hd (.slice As hd.srcs.length cs) (.slice Ao hd.exts.length co)) from B54.out) k5 (fun e => e), O4.out.keep0 k5, HD.out.keep0 (K04.out.trans0 k5), ⟨ds, HD.out.keep0 (K04.out.trans0 k5), HX.out.keep0 (K04.out.trans0 k5)⟩, HSR.out.keep0 (K04.out.trans0 k5), HR.out.keep0 (K04.out.trans0 k5), HNL.out⟩
  have H5 := hide D5
  clear D5 k5 hFd x0 x1 x2 x3 x4 x5 x6 x7 x8 x9 x10 x11 s1
  go_upto_region 4 with fail
  refine part_use (f := Tryd.f41) (n := 4) ?_ rfl rfl (by assumption)
  exact HH.out _ (by intro _ _ h; exact h) (show ∀ a w, _ → _ by assumption) _ _ _ _ _ _ _ _ _ _ _ _ _ _ _ _ _ _ _ _ _ _ _ _ _ _ _ _ _ _ _ _ _ _ _ _ _ _ _ _ _ _ _ _ _ _ _ _ _ _ _ _ _ _ _ _ _ _ _ _ _ _ _ _ _ _ _ _ _ _ _ _ _ _ _ _ _ _ _ _ _ _ _ _ _ _ _ _ _ _ _ _ _ _ _ _ _ _ _ _ _ _ _ _ _ _ _ _ _ _ _ _ _ _ _ _ _ _ _ _ _ _ _ w5 g2 g3 g4 cs cx co As Ax Ao ds H5.out
end Go.Proofs.YtdmnflngafbobaaDoor
namespace Go.Proofs.YtdmnflngafbobaaDoor
open Go.RowKit
set_option linter.unusedVariables false
set_option linter.unusedSimpArgs false

theorem run_appF {P : Program} {t tx e : TypeId} {z : Value} {sz bytes : Nat} (T : ET P t e z sz bytes) (ty : TypeId) (w : World) {p : Nat → Prop} {g o n : Nat} {xs : List Value} (hr : Rd w p sz (.slice (some ⟨g, o, none⟩) n n) n xs)
    {y : Value} {m : Nat} {ys : List Value} (hs : Src P sz tx y m ys w) (h63 : n + m ≤ maxLen) (hbytes : (n + m) * bytes ≤ 140737488355328) :
    ∃ A c w', (Builtin.append_ #[t, tx] ty #[.slice (some ⟨g, o, none⟩) n n, y]).run P w = .ok (.slice A (n + m) c) w' ∧ Rd w' (fun q => p q ∨ w.heap.size ≤ q) sz (.slice A (n + m) c) (n + m) (xs ++ ys) ∧ Keep w w' Nul := by
  obtain ⟨ht, hi, hzs, hsz⟩ := T
  cases hI : P.info? e with
  | none => rw [hI] at hi; cases hi
  | some i =>
    rw [hI] at hi
    simp at hi
    obtain ⟨hz, hsize, hby⟩ := hi
    subst hsize
    subst hby
    have hml : maxLen = 9223372036854775807 := rfl
    by_cases hm : m = 0
    · subst hm
      have hn : ys = [] := List.eq_nil_of_length_eq_zero (by simpa using hs.newsLen)
      subst hn
      have hr' := run_append_room_src (P := P) w t tx ty e i ht hI g o n n y 0 [] hs (by omega) (fun j hj => by simp at hj) (fun j hj => by simp at hj)
      refine ⟨_, _, _, hr', ?_, Keep.refl _ _⟩
      simp only [Nat.add_zero, List.append_nil]
      exact hr.mono fun _ _ h => .inl h
    · have hf := run_firstCells_some (P := P) w.drew i.size n ⟨g, o, none⟩ n n xs hr.1 fun j u hu => by
        obtain ⟨_, A, c, hv, _, _, _, h5⟩ := hr
        obtain ⟨ad, e1, _, hc⟩ := h5 j u hu
        injection hv with hv
        rw [e1] at hv
        injection hv with hv
        subst hv
        exact hc
      have hr' := run_append_grow_src (P := P) w t tx ty e i z ht hI hz (some ⟨g, o, none⟩) n n xs hf y m ys hs (by omega) (by omega) (growslice_fits (by omega) hbytes)
      have hlen : (xs ++ ys).length = (n + m) * i.size := by rw [List.length_append, hr.1, hs.newsLen, Nat.add_mul]
      have hge := grownCap_ge w (n + m) n e
      have hcm := grownCap_le_maxLen w (n + m) n e h63
      refine ⟨_, _, _, hr', ?_, ((Keep.refl w _).drew).alloc _⟩
      refine Rd.mono (p := (w.heap.size ≤ ·)) (Own.rdB (B := w.heap.size) (e := e) ⟨hlen, .inr ⟨w.heap.size, _, _, (0, 0), rfl, Nat.le_refl _, heap_alloc_new w.drew _, hge, hcm, ?_, fun j _ => by simp, ?_⟩⟩) (fun _ _ h => .inr h)
      · simp only [Array.size_append, List.size_toArray, size_zeroCells, hzs, hlen, ← Nat.add_mul]
        congr 1
        omega
      · simp only [Array.toList_append]
        rw [← hlen]
        exact List.take_left
theorem step_appF {P : Program} {w : World} {ops : Array Oper} {o : Oper} {a : Act} {K : Act → World → Prop} {Q : Exit → Act → World → Prop} {E : Prop} {t tx e : TypeId} {z : Value} {sz bytes : Nat} (T : ET P t e z sz bytes) (hgd : o.guard = none) (s x : Operand)
    (ho : o.op = .call { callee := .builtin .append, args := #[s, x], argTypes := #[t, tx] })
    {p : Nat → Prop} {g f n : Nat} {xs : List Value} (hr : Rd w p sz (.slice (some ⟨g, f, none⟩) n n) n xs) (hv : a.eval s = .slice (some ⟨g, f, none⟩) n n) {y : Value} {m : Nat} {ys : List Value} (hs : Src P sz tx y m ys w) (hy : a.eval x = y)
    (h63 : n + m ≤ maxLen) (hbytes : (n + m) * bytes ≤ 140737488355328)
    (h : ∀ A c w', Rd w' (fun q => p q ∨ w.heap.size ≤ q) sz (.slice A (n + m) c) (n + m) (xs ++ ys) → Keep w w' Nul → K (a.put o.dst (.slice A (n + m) c)) w') :
    if Region.wanted o (yielded ops a.tmps) = true then Oper.wp P o a w K Q else E := by
  have hw : Region.wanted o (yielded ops a.tmps) = true := by simp [Region.wanted, hgd]
  rw [if_pos hw]
  obtain ⟨A, c, w', hrr, h1, h2⟩ := run_appF (P := P) T o.type w hr hs h63 hbytes
  unfold Oper.wp execOp
  simp only [ho, resolve, invoke, builtin, Sem.run_bind, Sem.run_pure, Result.andThen_ok, List.map_toArray, List.map_cons, List.map_nil, hv, hy, hrr]
  exact h A c w' h1 h2
end Go.Proofs.YtdmnflngafbobaaDoor
namespace Go.Proofs.YtdmnflngafbobaaDoor
open Go.RowKit
set_option linter.unusedVariables false
set_option linter.unusedSimpArgs false
set_option maxRecDepth 100000

theorem DoS.new {p : Nat → Prop} {w0 : World} {g2 g3 g4 n c cs cx co : Nat} {hd : Hd} {s : St} {A As Ax Ao : Option Addr} {ds : List Value} {hd' : Hd} {A' : Option Addr} {m c' : Nat} {b1 b2 : Bool} {w w' : World} (D : DoS p w0 w g2 g3 g4 hd s A n c As cs Ax cx Ao co ds) {S : Nat → Prop} (k : Keep w w' S) (hS : ∀ i, S i → w0.heap.size ≤ i) (hs : hd'.srcs = hd.srcs) (hx : XR w' (fun q => p q ∨ w0.heap.size ≤ q) (.slice A' m c') hd'.exts) :
    DoR p w0 (hd', b1, b2) (.returned (.tuple #[.agg (hcells hd' (.slice As hd.srcs.length cs) (.slice A' m c')), .bool b1, .bool b2])) w' := by
  have hp : ∀ i, i < w.heap.size → p i → ¬ S i := fun i _ hi e => by have := D.pl i hi; have := hS i e; omega
  exact ⟨D.k.trans k (fun i hi e => by have := hS i e; omega), _, _, _, _, _, _, rfl, _, _, rfl, by rw [hs]; exact (D.sr.keep k hp).mono (fun _ _ h => .inl h), hx⟩

set_option maxHeartbeats 3200000 in
theorem do_p13 {p : Nat → Prop} {w0 : World} {g2 g3 g4 n c cs cx co : Nat} {hd : Hd} {s : St} {A As Ax Ao : Option Addr} {ds : List Value} {pr : Int} {Q : Exit → Act → World → Prop} (hq : ∀ a w, bodyPost Tryd.prog Tryd.f41 (DoR p w0 ({ hd with ext := true, prof := pr, exts := [⟨s.id, s.data⟩] }, true, true)) .ret a w → Q .ret a w) (w w1 : World) (u0 u1 u5 u6 u7 u8 u9 u10 u11 u12 u13 u14 u15 u16 u17 u18 u19 u20 u21 u22 u23 u24 u25 u26 u27 u28 u29 u30 u31 u32 u33 u34 u35 u36 u37 u38 u39 u40 u41 u42 u43 u44 u45 u46 u47 u48 u49 u50 u51 u52 u53 u54 u55 u56 u57 u58 u59 u60 u61 u62 u63 u64 u65 u66 u67 u68 u69 u70 u71 u72 u73 u74 u75 u76 u77 u78 u79 u80 u81 u82 u83 u84 u85 u86 u87 u88 u89 u90 u91 u92 u93 u94 u95 u96 u97 u98 u99 u100 u101 u102 u103 u104 u105 u106 u107 u108 u109 u110 u111 u112 u113 u114 u115 u116 u117 u118 u119 u120 u121 u122 u123 u124 u125 u126 u127 u128 : Value) (D : DoS p w0 w g2 g3 g4 hd s A n c As cs Ax cx Ao co ds)
    (hb : Blk w1 g4 27 (hcells { hd with prof := pr } (.slice As hd.srcs.length cs) (.slice Ao hd.exts.length co))) (k1 : Keep w w1 (· = g4)) :
    Part Tryd.prog Tryd.f41 13 Q ⟨List.toArray (u0 :: u1 :: .pointer (some ⟨g2, 0, none⟩) :: .pointer (some ⟨g3, 0, none⟩) :: .pointer (some ⟨g4, 0, none⟩) :: u5 :: u6 :: u7 :: u8 :: u9 :: u10 :: u11 :: u12 :: u13 :: u14 :: u15 :: u16 :: u17 :: u18 :: u19 :: u20 :: u21 :: u22 :: u23 :: u24 :: u25 :: u26 :: u27 :: u28 :: u29 :: u30 :: u31 :: u32 :: u33 :: u34 :: u35 :: u36 :: u37 :: u38 :: u39 :: u40 :: u41 :: u42 :: u43 :: u44 :: u45 :: u46 :: u47 :: u48 :: u49 :: u50 :: u51 :: u52 :: u53 :: u54 :: u55 :: u56 :: u57 :: u58 :: u59 :: u60 :: u61 :: u62 :: u63 :: u64 :: u65 :: u66 :: u67 :: u68 :: u69 :: u70 :: u71 :: u72 :: u73 :: u74 :: u75 :: u76 :: u77 :: u78 :: u79 :: u80 :: u81 :: u82 :: u83 :: u84 :: u85 :: u86 :: u87 :: u88 :: u89 :: u90 :: u91 :: u92 :: u93 :: u94 :: u95 :: u96 :: u97 :: u98 :: u99 :: u100 :: u101 :: u102 :: u103 :: u104 :: u105 :: u106 :: u107 :: u108 :: u109 :: u110 :: u111 :: u112 :: u113 :: u114 :: u115 :: u116 :: u117 :: u118 :: u119 :: u120 :: u121 :: u122 :: u123 :: u124 :: u125 :: u126 :: u127 :: u128 :: []), []⟩ w1 := by
  have DD := hide D
  have HQ := hide hq
  have HB := hide hb
  have B3 := hide (D.b3.keep k1 (fun e => D.n34 e))
  have K1 := hide k1
  have x31 := B3.out.cell 1 (v := .int .u8 s.id) rfl
  have x32 := B3.out.cell 2 (v := .slice A n c) rfl
  have f4 := fun i => HB.out.free i
  have z2 := HB.out.cell 2 (v := .bool hd.ext) rfl
  have z10 := HB.out.cell 10 (v := .slice Ao hd.exts.length co) rfl
  have l3 := B3.out.lt
  have l4 := HB.out.lt
  have n34 := D.n34
  clear D hq hb k1
  have HF := hide (show ∀ w5 : World, Blk w5 g4 27 (hcells { hd with ext := true, prof := pr, exts := [⟨s.id, s.data⟩] } (.slice As hd.srcs.length cs) (.slice (some ⟨w1.heap.size, 0, none⟩) 1 1)) → Keep w1 w5 (· = g4) → Blk w5 w1.heap.size 66 #[.int .u8 s.id, .slice A n c] → ∀ w', Keep w5 w' (· = g4) → DoR p w0 ({ hd with ext := true, prof := pr, exts := [⟨s.id, s.data⟩] }, true, true) (.returned (.tuple #[.agg (hcells { hd with ext := true, prof := pr, exts := [⟨s.id, s.data⟩] } (.slice As hd.srcs.length cs) (.slice (some ⟨w1.heap.size, 0, none⟩) 1 1)), .bool true, .bool true])) w' from fun w5 b5 k5 o5 w' k' => by
    have hl4 := DD.out.l4
    have hsz := DD.out.k.size
    have hsz1 := K1.out.size
    have hk : Keep w w' (· = g4) := (K1.out.trans k5 (fun _ _ e => e)).trans k' (fun _ _ e => e)
    refine DD.out.new hk (fun i e => by have : i = g4 := e; omega) rfl ⟨[.slice A n c], ⟨rfl, fun k x d h1 h2 => ?_⟩, ?_⟩
    · match k with
      | 0 =>
        simp at h1 h2
        subst h1 h2
        show Rd w' _ 1 (.slice A n c) s.data.length (B8 s.data)
        rw [DD.out.nl]
        exact (DD.out.rd.keep hk (fun i _ hi e => by have := DD.out.pl i hi; have : i = g4 := e; omega)).mono (fun _ _ h => .inl h)
      | k + 1 => simp at h1
    · have ho := (Own.of_blk (B := w0.heap.size) (sz := 2) (n := 1) (cap := 1) o5 (by omega) (Nat.le_refl _) (by decide) rfl).keep k' (fun q hq e => by have e' : q = g4 := e; subst e'; simp [Value.ownBlock] at hq; omega)
      exact ho.rdB.mono (fun _ _ h => .inr h))
  refine part_open (fun c0 hc K hK => ?_)
  conv at hc => rhs; whnf
  subst hc
  dsimp only [xOf, yOf] at hK ⊢
  have KK := hide hK
  clear hK
  refine wp_region_noPanic ?_
  refine region_last2' (S := fun w' => w'.cell? ⟨g3, 1, none⟩ = some (.int .u8 s.id) ∧ w'.cell? ⟨g3, 2, none⟩ = some (.slice A n c)) (by kernel_rfl) (by kernel_rfl) (by simp only [List.dropLast_cons_cons, List.dropLast_singleton]; rfl) (by simp only [List.getLast?_cons_cons, List.getLast?_singleton]; rfl) (⟨x31, x32⟩) (fun hHeld => ?_)
  simp only [List.length_cons, List.length_nil, Nat.reduceAdd, Nat.zero_add]
  refine wpAnyH_take (i := 0) (v := ?_) (by simp only [List.getElem?_toArray, List.getElem?_cons_succ, List.getElem?_cons_zero]; rfl) (by kernel_rfl) (by kernel_rfl) (by kernel_rfl) (fun _ _ _ h => h) (Or.inl ⟨by rfl, ?_⟩) (by assumption) ?_
  rotate_left 1
  · (intro w hSw; (try dsimp only at hSw); go_simp; (try with_reducible rfl))
  try simp only [Act.put, List.setIfInBounds_toArray, List.set_cons_zero, List.set_cons_succ]
  refine wpAnyH_take (i := 1) (v := ?_) (by simp only [List.getElem?_toArray, List.getElem?_cons_succ, List.getElem?_cons_zero]; rfl) (by kernel_rfl) (by kernel_rfl) (by kernel_rfl) (fun _ _ _ h => h) (Or.inl ⟨by rfl, ?_⟩) (by assumption) ?_
  rotate_left 1
  · (intro w hSw; (try dsimp only at hSw); go_simp; (try with_reducible rfl))
  try simp only [Act.put, List.setIfInBounds_toArray, List.set_cons_zero, List.set_cons_succ]
  refine wpAnyH_take (i := 2) (v := ?_) (by simp only [List.getElem?_toArray, List.getElem?_cons_succ, List.getElem?_cons_zero]; rfl) (by kernel_rfl) (by kernel_rfl) (by kernel_rfl) (fun _ _ _ h => h) (Or.inl ⟨by rfl, ?_⟩) (by assumption) ?_
  rotate_left 1
  · (intro w hSw; (try dsimp only at hSw); go_simp; (try with_reducible rfl))
  try simp only [Act.put, List.setIfInBounds_toArray, List.set_cons_zero, List.set_cons_succ]
  refine wpAnyH_take (i := 3) (v := ?_) (by simp only [List.getElem?_toArray, List.getElem?_cons_succ, List.getElem?_cons_zero]; rfl) (by kernel_rfl) (by kernel_rfl) (by kernel_rfl) (fun _ _ _ h => h) (Or.inl ⟨by rfl, ?_⟩) (by assumption) ?_
  rotate_left 1
  · (intro w hSw; (try dsimp only at hSw); go_simp; (try with_reducible rfl))
  try simp only [Act.put, List.setIfInBounds_toArray, List.set_cons_zero, List.set_cons_succ]
  refine wpAnyH_take (i := 4) (v := ?_) (by simp only [List.getElem?_toArray, List.getElem?_cons_succ, List.getElem?_cons_zero]; rfl) (by kernel_rfl) (by kernel_rfl) (by kernel_rfl) (fun _ _ _ h => h) (Or.inl ⟨by rfl, ?_⟩) (by assumption) ?_
  rotate_left 1
  · (intro w hSw; (try dsimp only at hSw); go_simp; (try with_reducible rfl))
  try simp only [Act.put, List.setIfInBounds_toArray, List.set_cons_zero, List.set_cons_succ]
  refine wpAnyH_take (i := 6) (v := ?_) (by simp only [List.getElem?_toArray, List.getElem?_cons_succ, List.getElem?_cons_zero]; rfl) (by kernel_rfl) (by kernel_rfl) (by kernel_rfl) (fun _ _ _ h => h) (Or.inl ⟨by rfl, ?_⟩) (by assumption) ?_
  rotate_left 1
  · (intro w hSw; (try dsimp only at hSw); go_simp; (try with_reducible rfl))
  try simp only [Act.put, List.setIfInBounds_toArray, List.set_cons_zero, List.set_cons_succ]
  refine wpAnyH_ready (rs := [5, 7]) (by kernel_rfl) (by simp) ?_
  refine AllReadyH.cons (by simp only [List.getElem?_toArray, List.getElem?_cons_succ, List.getElem?_cons_zero]; rfl) (fun K hK => ?_) (AllReadyH.cons (by simp only [List.getElem?_toArray, List.getElem?_cons_succ, List.getElem?_cons_zero]; rfl) (fun K hK => ?_) AllReadyH.nil)
  · go_simp
    refine hK.out _ _ (⟨(B3.out.alloc _).cell 1 rfl, (B3.out.alloc _).cell 2 rfl⟩) (fun hHeld => ?_)
    clear hK K
    try simp only [Act.put, List.setIfInBounds_toArray, List.set_cons_zero, List.set_cons_succ]
    have f4a := fun i => (HB.out.alloc (.cells #[.int .u8 s.id, .slice A n c] 66)).free i
    have z2a := (HB.out.alloc (.cells #[.int .u8 s.id, .slice A n c] 66)).cell 2 (v := .bool hd.ext) rfl
    refine wpAnyH_ready (rs := [7]) (by kernel_rfl) (by simp) ?_
    refine AllReadyH.cons (by simp only [List.getElem?_toArray, List.getElem?_cons_succ, List.getElem?_cons_zero]; rfl) (fun K hK => ?_) AllReadyH.nil
    go_simp
    refine hK.out _ _ (⟨((B3.out.far (p := ⟨g4, 2, none⟩) n34 _).alloc _).drew.cell 1 rfl, ((B3.out.far (p := ⟨g4, 2, none⟩) n34 _).alloc _).drew.cell 2 rfl⟩) (fun hHeld => ?_)
    clear hK K
    try simp only [Act.put, List.setIfInBounds_toArray, List.set_cons_zero, List.set_cons_succ]
    have f4b := fun i => ((HB.out.alloc (.cells #[.int .u8 s.id, .slice A n c] 66)).set_ 2 (.bool true)).free i
    have z10b := ((HB.out.alloc (.cells #[.int .u8 s.id, .slice A n c] 66)).set_ 2 (.bool true)).cell 10 (v := .slice Ao hd.exts.length co) rfl
    refine wpAnyH_take (i := 8) (v := ?_) (by simp only [List.getElem?_toArray, List.getElem?_cons_succ, List.getElem?_cons_zero]; rfl) (by kernel_rfl) (by kernel_rfl) (by kernel_rfl) (fun _ _ _ h => h) (Or.inl ⟨by rfl, ?_⟩) (by assumption) ?_
    rotate_left 1
    · (intro w hSw; (try dsimp only at hSw); go_simp; (try with_reducible rfl))
    try simp only [Act.put, List.setIfInBounds_toArray, List.set_cons_zero, List.set_cons_succ]
    refine wpAnyH_done (by kernel_rfl) ?_ _
    intro K hK
    go_simp
    refine hK _ _ (NoPanic.normal ?_)
    clear hK K
    generalize hw5 : World.drew _ = w5
    have HB5 := hide (show Blk w5 g4 27 (hcells { hd with ext := true, prof := pr, exts := [⟨s.id, s.data⟩] } (.slice As hd.srcs.length cs) (.slice (some ⟨w1.heap.size, 0, none⟩) 1 1)) by subst hw5; exact (((HB.out.set_ 2 _).set_ 10 _).alloc _).drew)
    have HK5 := hide (show Keep w1 w5 (· = g4) by subst hw5; exact ((((Keep.refl w1 (· = g4)).setg 2 (fun _ => rfl) _).setg 10 (fun _ => rfl) _).alloc _).drew)
    have HO5 := hide (show Blk w5 w1.heap.size 66 #[.int .u8 s.id, .slice A n c] by subst hw5; exact (Blk.new' (by simp only [World.size_setCell])).drew)
    clear hw5
    refine KK.out _ _ ?_
    clear KK x31 x32 f4 z2 z10 l4
    have l4 := HB5.out.lt
    go_upto_region 14 with fail
    exact part_use (do_r14 (by intro _ _ h; exact HQ.out _ _ h) w5 _ _ _ _ _ _ _ _ _ _ _ _ _ _ _ _ _ _ _ _ _ _ _ _ _ _ _ _ _ _ _ _ _ _ _ _ _ _ _ _ _ _ _ _ _ _ _ _ _ _ _ _ _ _ _ _ _ _ _ _ _ _ _ _ _ _ _ _ _ _ _ _ _ _ _ _ _ _ _ _ _ _ _ _ _ _ _ _ _ _ _ _ _ _ _ _ _ _ _ _ _ _ _ _ _ _ _ _ _ _ _ _ _ _ _ _ _ _ _ _ _ _ _ _ _ _ _ _ HB5.out (fun w' k => HF.out w5 HB5.out HK5.out HO5.out w' k)) rfl rfl (by assumption)
  · go_simp
    refine hK.out _ _ (⟨(B3.out.far (p := ⟨g4, 2, none⟩) n34 _).drew.cell 1 rfl, (B3.out.far (p := ⟨g4, 2, none⟩) n34 _).drew.cell 2 rfl⟩) (fun hHeld => ?_)
    clear hK K
    try simp only [Act.put, List.setIfInBounds_toArray, List.set_cons_zero, List.set_cons_succ]
    have f4b := fun i => (HB.out.set_ 2 (.bool true)).free i
    have z10b := (HB.out.set_ 2 (.bool true)).cell 10 (v := .slice Ao hd.exts.length co) rfl
    refine wpAnyH_ready (rs := [5]) (by kernel_rfl) (by simp) ?_
    refine AllReadyH.cons (by simp only [List.getElem?_toArray, List.getElem?_cons_succ, List.getElem?_cons_zero]; rfl) (fun K hK => ?_) AllReadyH.nil
    go_simp
    refine hK.out _ _ (⟨((B3.out.far (p := ⟨g4, 2, none⟩) n34 _).alloc _).drew.cell 1 rfl, ((B3.out.far (p := ⟨g4, 2, none⟩) n34 _).alloc _).drew.cell 2 rfl⟩) (fun hHeld => ?_)
    clear hK K
    try simp only [Act.put, List.setIfInBounds_toArray, List.set_cons_zero, List.set_cons_succ]
    refine wpAnyH_take (i := 8) (v := ?_) (by simp only [List.getElem?_toArray, List.getElem?_cons_succ, List.getElem?_cons_zero]; rfl) (by kernel_rfl) (by kernel_rfl) (by kernel_rfl) (fun _ _ _ h => h) (Or.inl ⟨by rfl, ?_⟩) (by assumption) ?_
    rotate_left 1
    · (intro w hSw; (try dsimp only at hSw); go_simp; (try with_reducible rfl))
    try simp only [Act.put, List.setIfInBounds_toArray, List.set_cons_zero, List.set_cons_succ]
    refine wpAnyH_done (by kernel_rfl) ?_ _
    intro K hK
    go_simp
    refine hK _ _ (NoPanic.normal ?_)
    clear hK K
    generalize hw5 : World.drew _ = w5
    have HB5 := hide (show Blk w5 g4 27 (hcells { hd with ext := true, prof := pr, exts := [⟨s.id, s.data⟩] } (.slice As hd.srcs.length cs) (.slice (some ⟨w1.heap.size, 0, none⟩) 1 1)) by subst hw5; exact (((HB.out.set_ 2 _).set_ 10 _).alloc _).drew)
    have HK5 := hide (show Keep w1 w5 (· = g4) by subst hw5; exact ((((Keep.refl w1 (· = g4)).setg 2 (fun _ => rfl) _).setg 10 (fun _ => rfl) _).alloc _).drew)
    have HO5 := hide (show Blk w5 w1.heap.size 66 #[.int .u8 s.id, .slice A n c] by subst hw5; exact (Blk.new' (by simp only [World.size_setCell])).drew)
    clear hw5
    refine KK.out _ _ ?_
    clear KK x31 x32 f4 z2 z10 l4
    have l4 := HB5.out.lt
    go_upto_region 14 with fail
    exact part_use (do_r14 (by intro _ _ h; exact HQ.out _ _ h) w5 _ _ _ _ _ _ _ _ _ _ _ _ _ _ _ _ _ _ _ _ _ _ _ _ _ _ _ _ _ _ _ _ _ _ _ _ _ _ _ _ _ _ _ _ _ _ _ _ _ _ _ _ _ _ _ _ _ _ _ _ _ _ _ _ _ _ _ _ _ _ _ _ _ _ _ _ _ _ _ _ _ _ _ _ _ _ _ _ _ _ _ _ _ _ _ _ _ _ _ _ _ _ _ _ _ _ _ _ _ _ _ _ _ _ _ _ _ _ _ _ _ _ _ _ _ _ _ _ HB5.out (fun w' k => HF.out w5 HB5.out HK5.out HO5.out w' k)) rfl rfl (by assumption)
end Go.Proofs.YtdmnflngafbobaaDoor
namespace Go.Proofs.YtdmnflngafbobaaDoor
open Go.RowKit
set_option linter.unusedVariables false
set_option linter.unusedSimpArgs false
set_option maxRecDepth 100000

set_option maxHeartbeats 1600000 in
theorem do_sA1 {p : Nat → Prop} {w0 : World} {g2 g3 g4 n c cs cx co : Nat} {hd : Hd} {s : St} {A As Ax Ao : Option Addr} {ds : List Value} {Q : Exit → Act → World → Prop} (w : World) (u0 u1 u5 u6 u7 u8 u9 u10 u11 u12 u13 u14 u15 u16 u17 u18 u19 u20 u21 u22 u23 u24 u25 u26 u27 u28 u29 u30 u31 u32 u33 u34 u35 u36 u37 u38 u39 u40 u41 u42 u43 u44 u45 u46 u47 u48 u49 u50 u51 u52 u53 u54 u55 u56 u57 u58 u59 u60 u61 u62 u63 u64 u65 u66 u67 u68 u69 u70 u71 u72 u73 u74 u75 u76 u77 u78 u79 u80 u81 u82 u83 u84 u85 u86 u87 u88 u89 u90 u91 u92 u93 u94 u95 u96 u97 u98 u99 u100 u101 u102 u103 u104 u105 u106 u107 u108 u109 u110 u111 u112 u113 u114 u115 u116 u117 u118 u119 u120 u121 u122 u123 u124 u125 u126 u127 u128 : Value) (hq : ∀ a w, bodyPost Tryd.prog Tryd.f41 (DoR p w0 (doE hd s)) .ret a w → Q .ret a w)  (D : DoS p w0 w g2 g3 g4 hd s A n c As cs Ax cx Ao co ds) (h0 : s.what = 0) (he : hd.ext = false) (h1 : 1 ≤ n) (h16 : n ≤ 16) (hf : fitsB 48862 s.id n = true) :
    Part Tryd.prog Tryd.f41 4 Q ⟨List.toArray (u0 :: u1 :: .pointer (some ⟨g2, 0, none⟩) :: .pointer (some ⟨g3, 0, none⟩) :: .pointer (some ⟨g4, 0, none⟩) :: u5 :: u6 :: u7 :: u8 :: u9 :: u10 :: u11 :: u12 :: u13 :: u14 :: u15 :: u16 :: u17 :: u18 :: u19 :: u20 :: u21 :: u22 :: u23 :: u24 :: u25 :: u26 :: u27 :: u28 :: u29 :: u30 :: u31 :: u32 :: u33 :: u34 :: u35 :: u36 :: u37 :: u38 :: u39 :: u40 :: u41 :: u42 :: u43 :: u44 :: u45 :: u46 :: u47 :: u48 :: u49 :: u50 :: u51 :: u52 :: u53 :: u54 :: u55 :: u56 :: u57 :: u58 :: u59 :: u60 :: u61 :: u62 :: u63 :: u64 :: u65 :: u66 :: u67 :: u68 :: u69 :: u70 :: u71 :: u72 :: u73 :: u74 :: u75 :: u76 :: u77 :: u78 :: u79 :: u80 :: u81 :: u82 :: u83 :: u84 :: u85 :: u86 :: u87 :: u88 :: u89 :: u90 :: u91 :: u92 :: u93 :: u94 :: u95 :: u96 :: u97 :: u98 :: u99 :: u100 :: u101 :: u102 :: u103 :: u104 :: u105 :: u106 :: u107 :: u108 :: u109 :: u110 :: u111 :: u112 :: u113 :: u114 :: u115 :: u116 :: u117 :: u118 :: u119 :: u120 :: u121 :: u122 :: u123 :: u124 :: u125 :: u126 :: u127 :: u128 :: []), []⟩ w := by
  have HDE := hide (show doE hd s = ({ hd with ext := true, prof := 48862, exts := [⟨s.id, s.data⟩] }, true, true) by simp [doE, h0, he, D.nl, h1, h16, hf])
  rw [HDE.out] at hq
  have HQ := hide hq
  have DD := hide D
  have x30 := D.b3.cell 0 (v := .int .i64 s.what) rfl
  have x31 := D.b3.cell 1 (v := .int .u8 s.id) rfl
  have x32 := D.b3.cell 2 (v := .slice A n c) rfl
  have x22 := D.b2.cell 2 (v := .bool hd.ext) rfl
  have x29 := D.b2.cell 9 (v := .int .u16 hd.prof) rfl
  have l2 := D.b2.lt
  have l3 := D.b3.lt
  have l4 := D.b4.lt
  have f4 := fun i => D.b4.free i
  have z9 := D.b4.cell 9 (v := .int .u16 hd.prof) rfl
  have z2 := D.b4.cell 2 (v := .bool hd.ext) rfl
  have z10 := D.b4.cell 10 (v := .slice Ao hd.exts.length co) rfl
  have hF := hide (fun pr => fits_walk w pr s.id A n c)
  clear D hq
  rw [h0] at x30
  rw [he] at x22
  clear h0 he x29
  have HFB := hide hf
  have i1 : (1 : Int) ≤ (n : Int) := by omega
  have i2 : (n : Int) ≤ 16 := by omega
  clear hf h1 h16
  refine part_open (fun c0 hc K hK => ?_)
  conv at hc => rhs; whnf
  subst hc
  dsimp only [xOf, yOf] at hK ⊢
  go_wp2_with fail
  refine (hF.out 48862).mono ?_
  rintro e w1 ⟨rfl, rfl⟩
  rw [HFB.out]
  go_upto_region 13 with fail
  generalize hw1 : World.setCell w _ _ = w1
  have hb1 : Blk w1 g4 27 (hcells { hd with prof := 48862 } (.slice As hd.srcs.length cs) (.slice Ao hd.exts.length co)) := by subst hw1; exact DD.out.b4.set_ 9 _
  have hk1 : Keep w w1 (· = g4) := by subst hw1; exact Keep.set1 _ _ _ _
  exact part_use (do_p13 (pr := 48862) (by intro _ _ h; exact HQ.out _ _ h) w w1 _ _ _ _ _ _ _ _ _ _ _ _ _ _ _ _ _ _ _ _ _ _ _ _ _ _ _ _ _ _ _ _ _ _ _ _ _ _ _ _ _ _ _ _ _ _ _ _ _ _ _ _ _ _ _ _ _ _ _ _ _ _ _ _ _ _ _ _ _ _ _ _ _ _ _ _ _ _ _ _ _ _ _ _ _ _ _ _ _ _ _ _ _ _ _ _ _ _ _ _ _ _ _ _ _ _ _ _ _ _ _ _ _ _ _ _ _ _ _ _ _ _ _ _ _ _ DD.out hb1 hk1) rfl rfl (by assumption)

set_option maxHeartbeats 1600000 in
theorem do_sA2 {p : Nat → Prop} {w0 : World} {g2 g3 g4 n c cs cx co : Nat} {hd : Hd} {s : St} {A As Ax Ao : Option Addr} {ds : List Value} {Q : Exit → Act → World → Prop} (w : World) (u0 u1 u5 u6 u7 u8 u9 u10 u11 u12 u13 u14 u15 u16 u17 u18 u19 u20 u21 u22 u23 u24 u25 u26 u27 u28 u29 u30 u31 u32 u33 u34 u35 u36 u37 u38 u39 u40 u41 u42 u43 u44 u45 u46 u47 u48 u49 u50 u51 u52 u53 u54 u55 u56 u57 u58 u59 u60 u61 u62 u63 u64 u65 u66 u67 u68 u69 u70 u71 u72 u73 u74 u75 u76 u77 u78 u79 u80 u81 u82 u83 u84 u85 u86 u87 u88 u89 u90 u91 u92 u93 u94 u95 u96 u97 u98 u99 u100 u101 u102 u103 u104 u105 u106 u107 u108 u109 u110 u111 u112 u113 u114 u115 u116 u117 u118 u119 u120 u121 u122 u123 u124 u125 u126 u127 u128 : Value) (hq : ∀ a w, bodyPost Tryd.prog Tryd.f41 (DoR p w0 (doE hd s)) .ret a w → Q .ret a w)  (D : DoS p w0 w g2 g3 g4 hd s A n c As cs Ax cx Ao co ds) (h0 : s.what = 0) (he : hd.ext = false) (h1 : 1 ≤ n) (h16 : n ≤ 16) (hf : fitsB 48862 s.id n = false) :
    Part Tryd.prog Tryd.f41 4 Q ⟨List.toArray (u0 :: u1 :: .pointer (some ⟨g2, 0, none⟩) :: .pointer (some ⟨g3, 0, none⟩) :: .pointer (some ⟨g4, 0, none⟩) :: u5 :: u6 :: u7 :: u8 :: u9 :: u10 :: u11 :: u12 :: u13 :: u14 :: u15 :: u16 :: u17 :: u18 :: u19 :: u20 :: u21 :: u22 :: u23 :: u24 :: u25 :: u26 :: u27 :: u28 :: u29 :: u30 :: u31 :: u32 :: u33 :: u34 :: u35 :: u36 :: u37 :: u38 :: u39 :: u40 :: u41 :: u42 :: u43 :: u44 :: u45 :: u46 :: u47 :: u48 :: u49 :: u50 :: u51 :: u52 :: u53 :: u54 :: u55 :: u56 :: u57 :: u58 :: u59 :: u60 :: u61 :: u62 :: u63 :: u64 :: u65 :: u66 :: u67 :: u68 :: u69 :: u70 :: u71 :: u72 :: u73 :: u74 :: u75 :: u76 :: u77 :: u78 :: u79 :: u80 :: u81 :: u82 :: u83 :: u84 :: u85 :: u86 :: u87 :: u88 :: u89 :: u90 :: u91 :: u92 :: u93 :: u94 :: u95 :: u96 :: u97 :: u98 :: u99 :: u100 :: u101 :: u102 :: u103 :: u104 :: u105 :: u106 :: u107 :: u108 :: u109 :: u110 :: u111 :: u112 :: u113 :: u114 :: u115 :: u116 :: u117 :: u118 :: u119 :: u120 :: u121 :: u122 :: u123 :: u124 :: u125 :: u126 :: u127 :: u128 :: []), []⟩ w := by
  have HDE := hide (show doE hd s = (hd, false, false) by simp [doE, h0, he, D.nl, h1, h16, hf, Nat.not_lt.2 h16])
  rw [HDE.out] at hq
  have HQ := hide hq
  have DD := hide D
  have x30 := D.b3.cell 0 (v := .int .i64 s.what) rfl
  have x31 := D.b3.cell 1 (v := .int .u8 s.id) rfl
  have x32 := D.b3.cell 2 (v := .slice A n c) rfl
  have x22 := D.b2.cell 2 (v := .bool hd.ext) rfl
  have x29 := D.b2.cell 9 (v := .int .u16 hd.prof) rfl
  have l2 := D.b2.lt
  have l3 := D.b3.lt
  have l4 := D.b4.lt
  have f4 := fun i => D.b4.free i
  have z9 := D.b4.cell 9 (v := .int .u16 hd.prof) rfl
  have z2 := D.b4.cell 2 (v := .bool hd.ext) rfl
  have z10 := D.b4.cell 10 (v := .slice Ao hd.exts.length co) rfl
  have hF := hide (fun pr => fits_walk w pr s.id A n c)
  clear D hq
  rw [h0] at x30
  rw [he] at x22
  clear h0 he x29
  have HFB := hide hf
  have i1 : (1 : Int) ≤ (n : Int) := by omega
  have i2 : (n : Int) ≤ 16 := by omega
  have i3 : ¬ (16 : Int) < (n : Int) := by omega
  clear hf h1 h16
  refine part_open (fun c0 hc K hK => ?_)
  conv at hc => rhs; whnf
  subst hc
  dsimp only [xOf, yOf] at hK ⊢
  go_wp2_with fail
  refine (hF.out 48862).mono ?_
  rintro e w1 ⟨rfl, rfl⟩
  rw [HFB.out]
  go_upto_region 8 with fail
  exact part_use (do_r8 (by intro _ _ h; exact HQ.out _ _ h) _ _ _ _ _ _ _ _ _ _ _ _ _ _ _ _ _ _ _ _ _ _ _ _ _ _ _ _ _ _ _ _ _ _ _ _ _ _ _ _ _ _ _ _ _ _ _ _ _ _ _ _ _ _ _ _ _ _ _ _ _ _ _ _ _ _ _ _ _ _ _ _ _ _ _ _ _ _ _ _ _ _ _ _ _ _ _ _ _ _ _ _ _ _ _ _ _ _ _ _ _ _ _ _ _ _ _ _ _ _ _ _ _ _ _ _ _ _ _ _ _ _ _ _ _ _ _ _ DD.out.b2 DD.out.b4 DD.out.n24 (fun w' k => DD.out.ret k)) rfl rfl (by assumption)

set_option maxHeartbeats 1600000 in
theorem do_sA3 {p : Nat → Prop} {w0 : World} {g2 g3 g4 n c cs cx co : Nat} {hd : Hd} {s : St} {A As Ax Ao : Option Addr} {ds : List Value} {Q : Exit → Act → World → Prop} (w : World) (u0 u1 u5 u6 u7 u8 u9 u10 u11 u12 u13 u14 u15 u16 u17 u18 u19 u20 u21 u22 u23 u24 u25 u26 u27 u28 u29 u30 u31 u32 u33 u34 u35 u36 u37 u38 u39 u40 u41 u42 u43 u44 u45 u46 u47 u48 u49 u50 u51 u52 u53 u54 u55 u56 u57 u58 u59 u60 u61 u62 u63 u64 u65 u66 u67 u68 u69 u70 u71 u72 u73 u74 u75 u76 u77 u78 u79 u80 u81 u82 u83 u84 u85 u86 u87 u88 u89 u90 u91 u92 u93 u94 u95 u96 u97 u98 u99 u100 u101 u102 u103 u104 u105 u106 u107 u108 u109 u110 u111 u112 u113 u114 u115 u116 u117 u118 u119 u120 u121 u122 u123 u124 u125 u126 u127 u128 : Value) (hq : ∀ a w, bodyPost Tryd.prog Tryd.f41 (DoR p w0 (doE hd s)) .ret a w → Q .ret a w)  (D : DoS p w0 w g2 g3 g4 hd s A n c As cs Ax cx Ao co ds) (h0 : s.what = 0) (he : hd.ext = false) (h17 : 16 < n) (hf : fitsB 4096 s.id n = true) :
    Part Tryd.prog Tryd.f41 4 Q ⟨List.toArray (u0 :: u1 :: .pointer (some ⟨g2, 0, none⟩) :: .pointer (some ⟨g3, 0, none⟩) :: .pointer (some ⟨g4, 0, none⟩) :: u5 :: u6 :: u7 :: u8 :: u9 :: u10 :: u11 :: u12 :: u13 :: u14 :: u15 :: u16 :: u17 :: u18 :: u19 :: u20 :: u21 :: u22 :: u23 :: u24 :: u25 :: u26 :: u27 :: u28 :: u29 :: u30 :: u31 :: u32 :: u33 :: u34 :: u35 :: u36 :: u37 :: u38 :: u39 :: u40 :: u41 :: u42 :: u43 :: u44 :: u45 :: u46 :: u47 :: u48 :: u49 :: u50 :: u51 :: u52 :: u53 :: u54 :: u55 :: u56 :: u57 :: u58 :: u59 :: u60 :: u61 :: u62 :: u63 :: u64 :: u65 :: u66 :: u67 :: u68 :: u69 :: u70 :: u71 :: u72 :: u73 :: u74 :: u75 :: u76 :: u77 :: u78 :: u79 :: u80 :: u81 :: u82 :: u83 :: u84 :: u85 :: u86 :: u87 :: u88 :: u89 :: u90 :: u91 :: u92 :: u93 :: u94 :: u95 :: u96 :: u97 :: u98 :: u99 :: u100 :: u101 :: u102 :: u103 :: u104 :: u105 :: u106 :: u107 :: u108 :: u109 :: u110 :: u111 :: u112 :: u113 :: u114 :: u115 :: u116 :: u117 :: u118 :: u119 :: u120 :: u121 :: u122 :: u123 :: u124 :: u125 :: u126 :: u127 :: u128 :: []), []⟩ w := by
  have HDE := hide (show doE hd s = ({ hd with ext := true, prof := 4096, exts := [⟨s.id, s.data⟩] }, true, true) by simp [doE, h0, he, D.nl, h17, hf, Nat.not_le.2 h17])
  rw [HDE.out] at hq
  have HQ := hide hq
  have DD := hide D
  have x30 := D.b3.cell 0 (v := .int .i64 s.what) rfl
  have x31 := D.b3.cell 1 (v := .int .u8 s.id) rfl
  have x32 := D.b3.cell 2 (v := .slice A n c) rfl
  have x22 := D.b2.cell 2 (v := .bool hd.ext) rfl
  have x29 := D.b2.cell 9 (v := .int .u16 hd.prof) rfl
  have l2 := D.b2.lt
  have l3 := D.b3.lt
  have l4 := D.b4.lt
  have f4 := fun i => D.b4.free i
  have z9 := D.b4.cell 9 (v := .int .u16 hd.prof) rfl
  have z2 := D.b4.cell 2 (v := .bool hd.ext) rfl
  have z10 := D.b4.cell 10 (v := .slice Ao hd.exts.length co) rfl
  have hF := hide (fun pr => fits_walk w pr s.id A n c)
  clear D hq
  rw [h0] at x30
  rw [he] at x22
  clear h0 he x29
  have HFB := hide hf
  have i1 : (1 : Int) ≤ (n : Int) := by omega
  have i2 : ¬ (n : Int) ≤ 16 := by omega
  have i3 : (16 : Int) < (n : Int) := by omega
  clear hf h17
  refine part_open (fun c0 hc K hK => ?_)
  conv at hc => rhs; whnf
  subst hc
  dsimp only [xOf, yOf] at hK ⊢
  go_wp2_with fail
  refine (hF.out 4096).mono ?_
  rintro e w1 ⟨rfl, rfl⟩
  rw [HFB.out]
  go_upto_region 13 with fail
  generalize hw1 : World.setCell w _ _ = w1
  have hb1 : Blk w1 g4 27 (hcells { hd with prof := 4096 } (.slice As hd.srcs.length cs) (.slice Ao hd.exts.length co)) := by subst hw1; exact DD.out.b4.set_ 9 _
  have hk1 : Keep w w1 (· = g4) := by subst hw1; exact Keep.set1 _ _ _ _
  exact part_use (do_p13 (pr := 4096) (by intro _ _ h; exact HQ.out _ _ h) w w1 _ _ _ _ _ _ _ _ _ _ _ _ _ _ _ _ _ _ _ _ _ _ _ _ _ _ _ _ _ _ _ _ _ _ _ _ _ _ _ _ _ _ _ _ _ _ _ _ _ _ _ _ _ _ _ _ _ _ _ _ _ _ _ _ _ _ _ _ _ _ _ _ _ _ _ _ _ _ _ _ _ _ _ _ _ _ _ _ _ _ _ _ _ _ _ _ _ _ _ _ _ _ _ _ _ _ _ _ _ _ _ _ _ _ _ _ _ _ _ _ _ _ _ _ _ _ DD.out hb1 hk1) rfl rfl (by assumption)

set_option maxHeartbeats 1600000 in
theorem do_sA4 {p : Nat → Prop} {w0 : World} {g2 g3 g4 n c cs cx co : Nat} {hd : Hd} {s : St} {A As Ax Ao : Option Addr} {ds : List Value} {Q : Exit → Act → World → Prop} (w : World) (u0 u1 u5 u6 u7 u8 u9 u10 u11 u12 u13 u14 u15 u16 u17 u18 u19 u20 u21 u22 u23 u24 u25 u26 u27 u28 u29 u30 u31 u32 u33 u34 u35 u36 u37 u38 u39 u40 u41 u42 u43 u44 u45 u46 u47 u48 u49 u50 u51 u52 u53 u54 u55 u56 u57 u58 u59 u60 u61 u62 u63 u64 u65 u66 u67 u68 u69 u70 u71 u72 u73 u74 u75 u76 u77 u78 u79 u80 u81 u82 u83 u84 u85 u86 u87 u88 u89 u90 u91 u92 u93 u94 u95 u96 u97 u98 u99 u100 u101 u102 u103 u104 u105 u106 u107 u108 u109 u110 u111 u112 u113 u114 u115 u116 u117 u118 u119 u120 u121 u122 u123 u124 u125 u126 u127 u128 : Value) (hq : ∀ a w, bodyPost Tryd.prog Tryd.f41 (DoR p w0 (doE hd s)) .ret a w → Q .ret a w)  (D : DoS p w0 w g2 g3 g4 hd s A n c As cs Ax cx Ao co ds) (h0 : s.what = 0) (he : hd.ext = false) (h17 : 16 < n) (hf : fitsB 4096 s.id n = false) :
    Part Tryd.prog Tryd.f41 4 Q ⟨List.toArray (u0 :: u1 :: .pointer (some ⟨g2, 0, none⟩) :: .pointer (some ⟨g3, 0, none⟩) :: .pointer (some ⟨g4, 0, none⟩) :: u5 :: u6 :: u7 :: u8 :: u9 :: u10 :: u11 :: u12 :: u13 :: u14 :: u15 :: u16 :: u17 :: u18 :: u19 :: u20 :: u21 :: u22 :: u23 :: u24 :: u25 :: u26 :: u27 :: u28 :: u29 :: u30 :: u31 :: u32 :: u33 :: u34 :: u35 :: u36 :: u37 :: u38 :: u39 :: u40 :: u41 :: u42 :: u43 :: u44 :: u45 :: u46 :: u47 :: u48 :: u49 :: u50 :: u51 :: u52 :: u53 :: u54 :: u55 :: u56 :: u57 :: u58 :: u59 :: u60 :: u61 :: u62 :: u63 :: u64 :: u65 :: u66 :: u67 :: u68 :: u69 :: u70 :: u71 :: u72 :: u73 :: u74 :: u75 :: u76 :: u77 :: u78 :: u79 :: u80 :: u81 :: u82 :: u83 :: u84 :: u85 :: u86 :: u87 :: u88 :: u89 :: u90 :: u91 :: u92 :: u93 :: u94 :: u95 :: u96 :: u97 :: u98 :: u99 :: u100 :: u101 :: u102 :: u103 :: u104 :: u105 :: u106 :: u107 :: u108 :: u109 :: u110 :: u111 :: u112 :: u113 :: u114 :: u115 :: u116 :: u117 :: u118 :: u119 :: u120 :: u121 :: u122 :: u123 :: u124 :: u125 :: u126 :: u127 :: u128 :: []), []⟩ w := by
  have HDE := hide (show doE hd s = (hd, false, false) by simp [doE, h0, he, D.nl, h17, hf, Nat.not_le.2 h17])
  rw [HDE.out] at hq
  have HQ := hide hq
  have DD := hide D
  have x30 := D.b3.cell 0 (v := .int .i64 s.what) rfl
  have x31 := D.b3.cell 1 (v := .int .u8 s.id) rfl
  have x32 := D.b3.cell 2 (v := .slice A n c) rfl
  have x22 := D.b2.cell 2 (v := .bool hd.ext) rfl
  have x29 := D.b2.cell 9 (v := .int .u16 hd.prof) rfl
  have l2 := D.b2.lt
  have l3 := D.b3.lt
  have l4 := D.b4.lt
  have f4 := fun i => D.b4.free i
  have z9 := D.b4.cell 9 (v := .int .u16 hd.prof) rfl
  have z2 := D.b4.cell 2 (v := .bool hd.ext) rfl
  have z10 := D.b4.cell 10 (v := .slice Ao hd.exts.length co) rfl
  have hF := hide (fun pr => fits_walk w pr s.id A n c)
  clear D hq
  rw [h0] at x30
  rw [he] at x22
  clear h0 he x29
  have HFB := hide hf
  have i1 : (1 : Int) ≤ (n : Int) := by omega
  have i2 : ¬ (n : Int) ≤ 16 := by omega
  have i3 : (16 : Int) < (n : Int) := by omega
  clear hf h17
  refine part_open (fun c0 hc K hK => ?_)
  conv at hc => rhs; whnf
  subst hc
  dsimp only [xOf, yOf] at hK ⊢
  go_wp2_with fail
  refine (hF.out 4096).mono ?_
  rintro e w1 ⟨rfl, rfl⟩
  rw [HFB.out]
  go_upto_region 8 with fail
  exact part_use (do_r8 (by intro _ _ h; exact HQ.out _ _ h) _ _ _ _ _ _ _ _ _ _ _ _ _ _ _ _ _ _ _ _ _ _ _ _ _ _ _ _ _ _ _ _ _ _ _ _ _ _ _ _ _ _ _ _ _ _ _ _ _ _ _ _ _ _ _ _ _ _ _ _ _ _ _ _ _ _ _ _ _ _ _ _ _ _ _ _ _ _ _ _ _ _ _ _ _ _ _ _ _ _ _ _ _ _ _ _ _ _ _ _ _ _ _ _ _ _ _ _ _ _ _ _ _ _ _ _ _ _ _ _ _ _ _ _ _ _ _ _ DD.out.b2 DD.out.b4 DD.out.n24 (fun w' k => DD.out.ret k)) rfl rfl (by assumption)

set_option maxHeartbeats 1600000 in
theorem do_sA5 {p : Nat → Prop} {w0 : World} {g2 g3 g4 n c cs cx co : Nat} {hd : Hd} {s : St} {A As Ax Ao : Option Addr} {ds : List Value} {Q : Exit → Act → World → Prop} (w : World) (u0 u1 u5 u6 u7 u8 u9 u10 u11 u12 u13 u14 u15 u16 u17 u18 u19 u20 u21 u22 u23 u24 u25 u26 u27 u28 u29 u30 u31 u32 u33 u34 u35 u36 u37 u38 u39 u40 u41 u42 u43 u44 u45 u46 u47 u48 u49 u50 u51 u52 u53 u54 u55 u56 u57 u58 u59 u60 u61 u62 u63 u64 u65 u66 u67 u68 u69 u70 u71 u72 u73 u74 u75 u76 u77 u78 u79 u80 u81 u82 u83 u84 u85 u86 u87 u88 u89 u90 u91 u92 u93 u94 u95 u96 u97 u98 u99 u100 u101 u102 u103 u104 u105 u106 u107 u108 u109 u110 u111 u112 u113 u114 u115 u116 u117 u118 u119 u120 u121 u122 u123 u124 u125 u126 u127 u128 : Value) (hq : ∀ a w, bodyPost Tryd.prog Tryd.f41 (DoR p w0 (doE hd s)) .ret a w → Q .ret a w)  (D : DoS p w0 w g2 g3 g4 hd s A n c As cs Ax cx Ao co ds) (h0 : s.what = 0) (he : hd.ext = false) (hn : n = 0) :
    Part Tryd.prog Tryd.f41 4 Q ⟨List.toArray (u0 :: u1 :: .pointer (some ⟨g2, 0, none⟩) :: .pointer (some ⟨g3, 0, none⟩) :: .pointer (some ⟨g4, 0, none⟩) :: u5 :: u6 :: u7 :: u8 :: u9 :: u10 :: u11 :: u12 :: u13 :: u14 :: u15 :: u16 :: u17 :: u18 :: u19 :: u20 :: u21 :: u22 :: u23 :: u24 :: u25 :: u26 :: u27 :: u28 :: u29 :: u30 :: u31 :: u32 :: u33 :: u34 :: u35 :: u36 :: u37 :: u38 :: u39 :: u40 :: u41 :: u42 :: u43 :: u44 :: u45 :: u46 :: u47 :: u48 :: u49 :: u50 :: u51 :: u52 :: u53 :: u54 :: u55 :: u56 :: u57 :: u58 :: u59 :: u60 :: u61 :: u62 :: u63 :: u64 :: u65 :: u66 :: u67 :: u68 :: u69 :: u70 :: u71 :: u72 :: u73 :: u74 :: u75 :: u76 :: u77 :: u78 :: u79 :: u80 :: u81 :: u82 :: u83 :: u84 :: u85 :: u86 :: u87 :: u88 :: u89 :: u90 :: u91 :: u92 :: u93 :: u94 :: u95 :: u96 :: u97 :: u98 :: u99 :: u100 :: u101 :: u102 :: u103 :: u104 :: u105 :: u106 :: u107 :: u108 :: u109 :: u110 :: u111 :: u112 :: u113 :: u114 :: u115 :: u116 :: u117 :: u118 :: u119 :: u120 :: u121 :: u122 :: u123 :: u124 :: u125 :: u126 :: u127 :: u128 :: []), []⟩ w := by
  have HDE := hide (show doE hd s = (hd, false, false) by simp [doE, h0, he, D.nl, hn])
  rw [HDE.out] at hq
  have HQ := hide hq
  have DD := hide D
  have x30 := D.b3.cell 0 (v := .int .i64 s.what) rfl
  have x31 := D.b3.cell 1 (v := .int .u8 s.id) rfl
  have x32 := D.b3.cell 2 (v := .slice A n c) rfl
  have x22 := D.b2.cell 2 (v := .bool hd.ext) rfl
  have x29 := D.b2.cell 9 (v := .int .u16 hd.prof) rfl
  have l2 := D.b2.lt
  have l3 := D.b3.lt
  have l4 := D.b4.lt
  have f4 := fun i => D.b4.free i
  have z9 := D.b4.cell 9 (v := .int .u16 hd.prof) rfl
  have z2 := D.b4.cell 2 (v := .bool hd.ext) rfl
  have z10 := D.b4.cell 10 (v := .slice Ao hd.exts.length co) rfl
  have hF := hide (fun pr => fits_walk w pr s.id A n c)
  clear D hq
  rw [h0] at x30
  rw [he] at x22
  clear h0 he x29
  have i1 : ¬ (1 : Int) ≤ (n : Int) := by omega
  have i3 : ¬ (16 : Int) < (n : Int) := by omega
  clear hn
  refine part_open (fun c0 hc K hK => ?_)
  conv at hc => rhs; whnf
  subst hc
  dsimp only [xOf, yOf] at hK ⊢
  go_upto_region 8 with fail
  exact part_use (do_r8 (by intro _ _ h; exact HQ.out _ _ h) _ _ _ _ _ _ _ _ _ _ _ _ _ _ _ _ _ _ _ _ _ _ _ _ _ _ _ _ _ _ _ _ _ _ _ _ _ _ _ _ _ _ _ _ _ _ _ _ _ _ _ _ _ _ _ _ _ _ _ _ _ _ _ _ _ _ _ _ _ _ _ _ _ _ _ _ _ _ _ _ _ _ _ _ _ _ _ _ _ _ _ _ _ _ _ _ _ _ _ _ _ _ _ _ _ _ _ _ _ _ _ _ _ _ _ _ _ _ _ _ _ _ _ _ _ _ _ _ DD.out.b2 DD.out.b4 DD.out.n24 (fun w' k => DD.out.ret k)) rfl rfl (by assumption)
end Go.Proofs.YtdmnflngafbobaaDoor
namespace Go.Proofs.YtdmnflngafbobaaDoor
open Go.RowKit
set_option linter.unusedVariables false
set_option linter.unusedSimpArgs false
set_option maxRecDepth 100000

set_option maxHeartbeats 1600000 in
theorem do_sB1 {p : Nat → Prop} {w0 : World} {g2 g3 g4 n c cs cx co : Nat} {hd : Hd} {s : St} {A As Ax Ao : Option Addr} {ds : List Value} {Q : Exit → Act → World → Prop} (w : World) (u0 u1 u5 u6 u7 u8 u9 u10 u11 u12 u13 u14 u15 u16 u17 u18 u19 u20 u21 u22 u23 u24 u25 u26 u27 u28 u29 u30 u31 u32 u33 u34 u35 u36 u37 u38 u39 u40 u41 u42 u43 u44 u45 u46 u47 u48 u49 u50 u51 u52 u53 u54 u55 u56 u57 u58 u59 u60 u61 u62 u63 u64 u65 u66 u67 u68 u69 u70 u71 u72 u73 u74 u75 u76 u77 u78 u79 u80 u81 u82 u83 u84 u85 u86 u87 u88 u89 u90 u91 u92 u93 u94 u95 u96 u97 u98 u99 u100 u101 u102 u103 u104 u105 u106 u107 u108 u109 u110 u111 u112 u113 u114 u115 u116 u117 u118 u119 u120 u121 u122 u123 u124 u125 u126 u127 u128 : Value) (hq : ∀ a w, bodyPost Tryd.prog Tryd.f41 (DoR p w0 (doE hd s)) .ret a w → Q .ret a w)  (D : DoS p w0 w g2 g3 g4 hd s A n c As cs Ax cx Ao co ds) (h0 : s.what = 0) (he : hd.ext = true) (hf : fitsB hd.prof s.id n = false) :
    Part Tryd.prog Tryd.f41 4 Q ⟨List.toArray (u0 :: u1 :: .pointer (some ⟨g2, 0, none⟩) :: .pointer (some ⟨g3, 0, none⟩) :: .pointer (some ⟨g4, 0, none⟩) :: u5 :: u6 :: u7 :: u8 :: u9 :: u10 :: u11 :: u12 :: u13 :: u14 :: u15 :: u16 :: u17 :: u18 :: u19 :: u20 :: u21 :: u22 :: u23 :: u24 :: u25 :: u26 :: u27 :: u28 :: u29 :: u30 :: u31 :: u32 :: u33 :: u34 :: u35 :: u36 :: u37 :: u38 :: u39 :: u40 :: u41 :: u42 :: u43 :: u44 :: u45 :: u46 :: u47 :: u48 :: u49 :: u50 :: u51 :: u52 :: u53 :: u54 :: u55 :: u56 :: u57 :: u58 :: u59 :: u60 :: u61 :: u62 :: u63 :: u64 :: u65 :: u66 :: u67 :: u68 :: u69 :: u70 :: u71 :: u72 :: u73 :: u74 :: u75 :: u76 :: u77 :: u78 :: u79 :: u80 :: u81 :: u82 :: u83 :: u84 :: u85 :: u86 :: u87 :: u88 :: u89 :: u90 :: u91 :: u92 :: u93 :: u94 :: u95 :: u96 :: u97 :: u98 :: u99 :: u100 :: u101 :: u102 :: u103 :: u104 :: u105 :: u106 :: u107 :: u108 :: u109 :: u110 :: u111 :: u112 :: u113 :: u114 :: u115 :: u116 :: u117 :: u118 :: u119 :: u120 :: u121 :: u122 :: u123 :: u124 :: u125 :: u126 :: u127 :: u128 :: []), []⟩ w := by
  have HDE := hide (show doE hd s = (hd, false, true) by simp [doE, h0, he, D.nl, hf])
  rw [HDE.out] at hq
  have HQ := hide hq
  have DD := hide D
  have x30 := D.b3.cell 0 (v := .int .i64 s.what) rfl
  have x31 := D.b3.cell 1 (v := .int .u8 s.id) rfl
  have x32 := D.b3.cell 2 (v := .slice A n c) rfl
  have x22 := D.b2.cell 2 (v := .bool hd.ext) rfl
  have x29 := D.b2.cell 9 (v := .int .u16 hd.prof) rfl
  have l2 := D.b2.lt
  have l3 := D.b3.lt
  have l4 := D.b4.lt
  have f4 := fun i => D.b4.free i
  have z9 := D.b4.cell 9 (v := .int .u16 hd.prof) rfl
  have z2 := D.b4.cell 2 (v := .bool hd.ext) rfl
  have z10 := D.b4.cell 10 (v := .slice Ao hd.exts.length co) rfl
  have hF := hide (fun pr => fits_walk w pr s.id A n c)
  clear D hq
  rw [h0] at x30
  rw [he] at x22
  clear h0 he
  have HFB := hide hf
  clear hf
  refine part_open (fun c0 hc K hK => ?_)
  conv at hc => rhs; whnf
  subst hc
  dsimp only [xOf, yOf] at hK ⊢
  go_wp2_with fail
  refine (hF.out hd.prof).mono ?_
  rintro e w1 ⟨rfl, rfl⟩
  rw [HFB.out]
  go_upto_region 16 with fail
  exact part_use (do_r16 (by intro _ _ h; exact HQ.out _ _ h) _ _ _ _ _ _ _ _ _ _ _ _ _ _ _ _ _ _ _ _ _ _ _ _ _ _ _ _ _ _ _ _ _ _ _ _ _ _ _ _ _ _ _ _ _ _ _ _ _ _ _ _ _ _ _ _ _ _ _ _ _ _ _ _ _ _ _ _ _ _ _ _ _ _ _ _ _ _ _ _ _ _ _ _ _ _ _ _ _ _ _ _ _ _ _ _ _ _ _ _ _ _ _ _ _ _ _ _ _ _ _ _ _ _ _ _ _ _ _ _ _ _ _ _ _ _ _ _ DD.out.b2 DD.out.b4 DD.out.n24 (fun w' k => DD.out.ret k)) rfl rfl (by assumption)

set_option maxHeartbeats 1600000 in
theorem do_sC1 {p : Nat → Prop} {w0 : World} {g2 g3 g4 n c cs cx co : Nat} {hd : Hd} {s : St} {A As Ax Ao : Option Addr} {ds : List Value} {Q : Exit → Act → World → Prop} (w : World) (u0 u1 u5 u6 u7 u8 u9 u10 u11 u12 u13 u14 u15 u16 u17 u18 u19 u20 u21 u22 u23 u24 u25 u26 u27 u28 u29 u30 u31 u32 u33 u34 u35 u36 u37 u38 u39 u40 u41 u42 u43 u44 u45 u46 u47 u48 u49 u50 u51 u52 u53 u54 u55 u56 u57 u58 u59 u60 u61 u62 u63 u64 u65 u66 u67 u68 u69 u70 u71 u72 u73 u74 u75 u76 u77 u78 u79 u80 u81 u82 u83 u84 u85 u86 u87 u88 u89 u90 u91 u92 u93 u94 u95 u96 u97 u98 u99 u100 u101 u102 u103 u104 u105 u106 u107 u108 u109 u110 u111 u112 u113 u114 u115 u116 u117 u118 u119 u120 u121 u122 u123 u124 u125 u126 u127 u128 : Value) (hq : ∀ a w, bodyPost Tryd.prog Tryd.f41 (DoR p w0 (doE hd s)) .ret a w → Q .ret a w)  (D : DoS p w0 w g2 g3 g4 hd s A n c As cs Ax cx Ao co ds) (h0 : s.what = 2) (he : hd.ext = false) :
    Part Tryd.prog Tryd.f41 4 Q ⟨List.toArray (u0 :: u1 :: .pointer (some ⟨g2, 0, none⟩) :: .pointer (some ⟨g3, 0, none⟩) :: .pointer (some ⟨g4, 0, none⟩) :: u5 :: u6 :: u7 :: u8 :: u9 :: u10 :: u11 :: u12 :: u13 :: u14 :: u15 :: u16 :: u17 :: u18 :: u19 :: u20 :: u21 :: u22 :: u23 :: u24 :: u25 :: u26 :: u27 :: u28 :: u29 :: u30 :: u31 :: u32 :: u33 :: u34 :: u35 :: u36 :: u37 :: u38 :: u39 :: u40 :: u41 :: u42 :: u43 :: u44 :: u45 :: u46 :: u47 :: u48 :: u49 :: u50 :: u51 :: u52 :: u53 :: u54 :: u55 :: u56 :: u57 :: u58 :: u59 :: u60 :: u61 :: u62 :: u63 :: u64 :: u65 :: u66 :: u67 :: u68 :: u69 :: u70 :: u71 :: u72 :: u73 :: u74 :: u75 :: u76 :: u77 :: u78 :: u79 :: u80 :: u81 :: u82 :: u83 :: u84 :: u85 :: u86 :: u87 :: u88 :: u89 :: u90 :: u91 :: u92 :: u93 :: u94 :: u95 :: u96 :: u97 :: u98 :: u99 :: u100 :: u101 :: u102 :: u103 :: u104 :: u105 :: u106 :: u107 :: u108 :: u109 :: u110 :: u111 :: u112 :: u113 :: u114 :: u115 :: u116 :: u117 :: u118 :: u119 :: u120 :: u121 :: u122 :: u123 :: u124 :: u125 :: u126 :: u127 :: u128 :: []), []⟩ w := by
  have HDE := hide (show doE hd s = (hd, false, true) by simp [doE, h0, he])
  rw [HDE.out] at hq
  have HQ := hide hq
  have DD := hide D
  have x30 := D.b3.cell 0 (v := .int .i64 s.what) rfl
  have x31 := D.b3.cell 1 (v := .int .u8 s.id) rfl
  have x32 := D.b3.cell 2 (v := .slice A n c) rfl
  have x22 := D.b2.cell 2 (v := .bool hd.ext) rfl
  have x29 := D.b2.cell 9 (v := .int .u16 hd.prof) rfl
  have l2 := D.b2.lt
  have l3 := D.b3.lt
  have l4 := D.b4.lt
  have f4 := fun i => D.b4.free i
  have z9 := D.b4.cell 9 (v := .int .u16 hd.prof) rfl
  have z2 := D.b4.cell 2 (v := .bool hd.ext) rfl
  have z10 := D.b4.cell 10 (v := .slice Ao hd.exts.length co) rfl
  have hF := hide (fun pr => fits_walk w pr s.id A n c)
  clear D hq
  rw [h0] at x30
  rw [he] at x22
  clear h0 he
  refine part_open (fun c0 hc K hK => ?_)
  conv at hc => rhs; whnf
  subst hc
  dsimp only [xOf, yOf] at hK ⊢
  go_upto_region 23 with fail
  exact part_use (do_r23 (by intro _ _ h; exact HQ.out _ _ h) _ _ _ _ _ _ _ _ _ _ _ _ _ _ _ _ _ _ _ _ _ _ _ _ _ _ _ _ _ _ _ _ _ _ _ _ _ _ _ _ _ _ _ _ _ _ _ _ _ _ _ _ _ _ _ _ _ _ _ _ _ _ _ _ _ _ _ _ _ _ _ _ _ _ _ _ _ _ _ _ _ _ _ _ _ _ _ _ _ _ _ _ _ _ _ _ _ _ _ _ _ _ _ _ _ _ _ _ _ _ _ _ _ _ _ _ _ _ _ _ _ _ _ _ _ _ _ _ DD.out.b2 DD.out.b4 DD.out.n24 (fun w' k => DD.out.ret k)) rfl rfl (by assumption)

set_option maxHeartbeats 1600000 in
theorem do_sC2 {p : Nat → Prop} {w0 : World} {g2 g3 g4 n c cs cx co : Nat} {hd : Hd} {s : St} {A As Ax Ao : Option Addr} {ds : List Value} {Q : Exit → Act → World → Prop} (w : World) (u0 u1 u5 u6 u8 u9 u10 u11 u12 u13 u14 u15 u16 u17 u18 u19 u20 u21 u22 u23 u24 u25 u26 u27 u28 u29 u30 u31 u32 u33 u34 u35 u36 u37 u38 u39 u40 u41 u42 u43 u44 u45 u46 u47 u48 u49 u50 u51 u52 u53 u54 u55 u56 u57 u58 u59 u60 u61 u62 u63 u64 u65 u66 u67 u68 u69 u70 u71 u72 u73 u74 u75 u76 u77 u78 u79 u80 u81 u82 u83 u84 u85 u86 u87 u88 u89 u90 u91 u92 u93 u94 u95 u96 u97 u98 u99 u100 u101 u102 u103 u104 u105 u106 u107 u108 u109 u110 u111 u112 u113 u114 u115 u116 u117 u118 u119 u120 u121 u122 u123 u124 u125 u126 u127 u128 : Value) (hq : ∀ a w, bodyPost Tryd.prog Tryd.f41 (DoR p w0 (doE hd s)) .ret a w → Q .ret a w)  (D : DoS p w0 w g2 g3 g4 hd s A n c As cs Ax cx Ao co ds) (h0 : s.what = 2) (he : hd.ext = true) (hf : fi hd.exts s.id = none) :
    Part Tryd.prog Tryd.f41 4 Q ⟨List.toArray (u0 :: u1 :: .pointer (some ⟨g2, 0, none⟩) :: .pointer (some ⟨g3, 0, none⟩) :: .pointer (some ⟨g4, 0, none⟩) :: u5 :: u6 :: .int .i64 (fiI (fi hd.exts s.id)) :: u8 :: u9 :: u10 :: u11 :: u12 :: u13 :: u14 :: u15 :: u16 :: u17 :: u18 :: u19 :: u20 :: u21 :: u22 :: u23 :: u24 :: u25 :: u26 :: u27 :: u28 :: u29 :: u30 :: u31 :: u32 :: u33 :: u34 :: u35 :: u36 :: u37 :: u38 :: u39 :: u40 :: u41 :: u42 :: u43 :: u44 :: u45 :: u46 :: u47 :: u48 :: u49 :: u50 :: u51 :: u52 :: u53 :: u54 :: u55 :: u56 :: u57 :: u58 :: u59 :: u60 :: u61 :: u62 :: u63 :: u64 :: u65 :: u66 :: u67 :: u68 :: u69 :: u70 :: u71 :: u72 :: u73 :: u74 :: u75 :: u76 :: u77 :: u78 :: u79 :: u80 :: u81 :: u82 :: u83 :: u84 :: u85 :: u86 :: u87 :: u88 :: u89 :: u90 :: u91 :: u92 :: u93 :: u94 :: u95 :: u96 :: u97 :: u98 :: u99 :: u100 :: u101 :: u102 :: u103 :: u104 :: u105 :: u106 :: u107 :: u108 :: u109 :: u110 :: u111 :: u112 :: u113 :: u114 :: u115 :: u116 :: u117 :: u118 :: u119 :: u120 :: u121 :: u122 :: u123 :: u124 :: u125 :: u126 :: u127 :: u128 :: []), []⟩ w := by
  have HDE := hide (show doE hd s = (hd, false, true) by simp [doE, h0, he, hf])
  rw [HDE.out] at hq
  have HQ := hide hq
  have DD := hide D
  have x30 := D.b3.cell 0 (v := .int .i64 s.what) rfl
  have x31 := D.b3.cell 1 (v := .int .u8 s.id) rfl
  have x32 := D.b3.cell 2 (v := .slice A n c) rfl
  have x22 := D.b2.cell 2 (v := .bool hd.ext) rfl
  have x29 := D.b2.cell 9 (v := .int .u16 hd.prof) rfl
  have l2 := D.b2.lt
  have l3 := D.b3.lt
  have l4 := D.b4.lt
  have f4 := fun i => D.b4.free i
  have z9 := D.b4.cell 9 (v := .int .u16 hd.prof) rfl
  have z2 := D.b4.cell 2 (v := .bool hd.ext) rfl
  have z10 := D.b4.cell 10 (v := .slice Ao hd.exts.length co) rfl
  have hF := hide (fun pr => fits_walk w pr s.id A n c)
  clear D hq
  rw [h0] at x30
  rw [he] at x22
  rw [hf]
  show Part _ _ _ _ ⟨List.toArray (u0 :: u1 :: .pointer (some ⟨g2, 0, none⟩) :: .pointer (some ⟨g3, 0, none⟩) :: .pointer (some ⟨g4, 0, none⟩) :: u5 :: u6 :: .int .i64 (-1) :: u8 :: u9 :: u10 :: u11 :: u12 :: u13 :: u14 :: u15 :: u16 :: u17 :: u18 :: u19 :: u20 :: u21 :: u22 :: u23 :: u24 :: u25 :: u26 :: u27 :: u28 :: u29 :: u30 :: u31 :: u32 :: u33 :: u34 :: u35 :: u36 :: u37 :: u38 :: u39 :: u40 :: u41 :: u42 :: u43 :: u44 :: u45 :: u46 :: u47 :: u48 :: u49 :: u50 :: u51 :: u52 :: u53 :: u54 :: u55 :: u56 :: u57 :: u58 :: u59 :: u60 :: u61 :: u62 :: u63 :: u64 :: u65 :: u66 :: u67 :: u68 :: u69 :: u70 :: u71 :: u72 :: u73 :: u74 :: u75 :: u76 :: u77 :: u78 :: u79 :: u80 :: u81 :: u82 :: u83 :: u84 :: u85 :: u86 :: u87 :: u88 :: u89 :: u90 :: u91 :: u92 :: u93 :: u94 :: u95 :: u96 :: u97 :: u98 :: u99 :: u100 :: u101 :: u102 :: u103 :: u104 :: u105 :: u106 :: u107 :: u108 :: u109 :: u110 :: u111 :: u112 :: u113 :: u114 :: u115 :: u116 :: u117 :: u118 :: u119 :: u120 :: u121 :: u122 :: u123 :: u124 :: u125 :: u126 :: u127 :: u128 :: []), []⟩ w
  clear h0 he hf
  refine part_open (fun c0 hc K hK => ?_)
  conv at hc => rhs; whnf
  subst hc
  dsimp only [xOf, yOf] at hK ⊢
  go_upto_region 23 with fail
  exact part_use (do_r23 (by intro _ _ h; exact HQ.out _ _ h) _ _ _ _ _ _ _ _ _ _ _ _ _ _ _ _ _ _ _ _ _ _ _ _ _ _ _ _ _ _ _ _ _ _ _ _ _ _ _ _ _ _ _ _ _ _ _ _ _ _ _ _ _ _ _ _ _ _ _ _ _ _ _ _ _ _ _ _ _ _ _ _ _ _ _ _ _ _ _ _ _ _ _ _ _ _ _ _ _ _ _ _ _ _ _ _ _ _ _ _ _ _ _ _ _ _ _ _ _ _ _ _ _ _ _ _ _ _ _ _ _ _ _ _ _ _ _ _ DD.out.b2 DD.out.b4 DD.out.n24 (fun w' k => DD.out.ret k)) rfl rfl (by assumption)

set_option maxHeartbeats 1600000 in
theorem do_sE {p : Nat → Prop} {w0 : World} {g2 g3 g4 n c cs cx co : Nat} {hd : Hd} {s : St} {A As Ax Ao : Option Addr} {ds : List Value} {Q : Exit → Act → World → Prop} (w : World) (u0 u1 u5 u6 u7 u8 u9 u10 u11 u12 u13 u14 u15 u16 u17 u18 u19 u20 u21 u22 u23 u24 u25 u26 u27 u28 u29 u30 u31 u32 u33 u34 u35 u36 u37 u38 u39 u40 u41 u42 u43 u44 u45 u46 u47 u48 u49 u50 u51 u52 u53 u54 u55 u56 u57 u58 u59 u60 u61 u62 u63 u64 u65 u66 u67 u68 u69 u70 u71 u72 u73 u74 u75 u76 u77 u78 u79 u80 u81 u82 u83 u84 u85 u86 u87 u88 u89 u90 u91 u92 u93 u94 u95 u96 u97 u98 u99 u100 u101 u102 u103 u104 u105 u106 u107 u108 u109 u110 u111 u112 u113 u114 u115 u116 u117 u118 u119 u120 u121 u122 u123 u124 u125 u126 u127 u128 : Value) (hq : ∀ a w, bodyPost Tryd.prog Tryd.f41 (DoR p w0 (doE hd s)) .ret a w → Q .ret a w) (hqn : ∀ a w, (fromR Tryd.f41 29).wp Tryd.prog (bodyPost Tryd.prog Tryd.f41 (DoR p w0 (doE hd s))) a w → Q .normal a w) (D : DoS p w0 w g2 g3 g4 hd s A n c As cs Ax cx Ao co ds) (h0 : s.what ≠ 0) (h2 : s.what ≠ 2) (h3 : s.what ≠ 3) :
    Part Tryd.prog Tryd.f41 4 Q ⟨List.toArray (u0 :: u1 :: .pointer (some ⟨g2, 0, none⟩) :: .pointer (some ⟨g3, 0, none⟩) :: .pointer (some ⟨g4, 0, none⟩) :: u5 :: u6 :: u7 :: u8 :: u9 :: u10 :: u11 :: u12 :: u13 :: u14 :: u15 :: u16 :: u17 :: u18 :: u19 :: u20 :: u21 :: u22 :: u23 :: u24 :: u25 :: u26 :: u27 :: u28 :: u29 :: u30 :: u31 :: u32 :: u33 :: u34 :: u35 :: u36 :: u37 :: u38 :: u39 :: u40 :: u41 :: u42 :: u43 :: u44 :: u45 :: u46 :: u47 :: u48 :: u49 :: u50 :: u51 :: u52 :: u53 :: u54 :: u55 :: u56 :: u57 :: u58 :: u59 :: u60 :: u61 :: u62 :: u63 :: u64 :: u65 :: u66 :: u67 :: u68 :: u69 :: u70 :: u71 :: u72 :: u73 :: u74 :: u75 :: u76 :: u77 :: u78 :: u79 :: u80 :: u81 :: u82 :: u83 :: u84 :: u85 :: u86 :: u87 :: u88 :: u89 :: u90 :: u91 :: u92 :: u93 :: u94 :: u95 :: u96 :: u97 :: u98 :: u99 :: u100 :: u101 :: u102 :: u103 :: u104 :: u105 :: u106 :: u107 :: u108 :: u109 :: u110 :: u111 :: u112 :: u113 :: u114 :: u115 :: u116 :: u117 :: u118 :: u119 :: u120 :: u121 :: u122 :: u123 :: u124 :: u125 :: u126 :: u127 :: u128 :: []), []⟩ w := by
  have HDE := hide (show doE hd s = (hd, false, false) by simp [doE, h0, h2, h3])
  rw [HDE.out] at hq
  have HQ := hide hq
  have DD := hide D
  have x30 := D.b3.cell 0 (v := .int .i64 s.what) rfl
  have x31 := D.b3.cell 1 (v := .int .u8 s.id) rfl
  have x32 := D.b3.cell 2 (v := .slice A n c) rfl
  have x22 := D.b2.cell 2 (v := .bool hd.ext) rfl
  have x29 := D.b2.cell 9 (v := .int .u16 hd.prof) rfl
  have l2 := D.b2.lt
  have l3 := D.b3.lt
  have l4 := D.b4.lt
  have f4 := fun i => D.b4.free i
  have z9 := D.b4.cell 9 (v := .int .u16 hd.prof) rfl
  have z2 := D.b4.cell 2 (v := .bool hd.ext) rfl
  have z10 := D.b4.cell 10 (v := .slice Ao hd.exts.length co) rfl
  have hF := hide (fun pr => fits_walk w pr s.id A n c)
  clear D hq
  have e0 : (s.what == 0) = false := by simpa using h0
  have e2 : (s.what == 2) = false := by simpa using h2
  have e3 : (s.what == 3) = false := by simpa using h3
  clear h0 h2 h3
  rw [show doE hd s = (hd, false, false) from HDE.out] at hqn
  have HQN := hide hqn
  clear hqn
  refine part_open (fun c0 hc K hK => ?_)
  conv at hc => rhs; whnf
  subst hc
  dsimp only [xOf, yOf] at hK ⊢
  go_wp2_with fail
  refine HQN.out _ _ ?_
  generalize hc : fromR Tryd.f41 29 = c0
  conv at hc => lhs; whnf
  subst hc
  go_upto_region 29 with fail
  exact part_use (do_r29 (by intro _ _ h; exact h) _ _ _ _ _ _ _ _ _ _ _ _ _ _ _ _ _ _ _ _ _ _ _ _ _ _ _ _ _ _ _ _ _ _ _ _ _ _ _ _ _ _ _ _ _ _ _ _ _ _ _ _ _ _ _ _ _ _ _ _ _ _ _ _ _ _ _ _ _ _ _ _ _ _ _ _ _ _ _ _ _ _ _ _ _ _ _ _ _ _ _ _ _ _ _ _ _ _ _ _ _ _ _ _ _ _ _ _ _ _ _ _ _ _ _ _ _ _ _ _ _ _ _ _ _ _ _ _ DD.out.b2 DD.out.b4 DD.out.n24 (fun w' k => DD.out.ret k)) rfl rfl (by assumption)

set_option maxHeartbeats 1600000 in
theorem do_sD {p : Nat → Prop} {w0 : World} {g2 g3 g4 n c cs cx co : Nat} {hd : Hd} {s : St} {A As Ax Ao : Option Addr} {ds : List Value} {Q : Exit → Act → World → Prop} (w : World) (u0 u1 u5 u6 u7 u8 u9 u10 u11 u12 u13 u14 u15 u16 u17 u18 u19 u20 u21 u22 u23 u24 u25 u26 u27 u28 u29 u30 u31 u32 u33 u34 u35 u36 u37 u38 u39 u40 u41 u42 u43 u44 u45 u46 u47 u48 u49 u50 u51 u52 u53 u54 u55 u56 u57 u58 u59 u60 u61 u62 u63 u64 u65 u66 u67 u68 u69 u70 u71 u72 u73 u74 u75 u76 u77 u78 u79 u80 u81 u82 u83 u84 u85 u86 u87 u88 u89 u90 u91 u92 u93 u94 u95 u96 u97 u98 u99 u100 u101 u102 u103 u104 u105 u106 u107 u108 u109 u110 u111 u112 u113 u114 u115 u116 u117 u118 u119 u120 u121 u122 u123 u124 u125 u126 u127 u128 : Value) (hq : ∀ a w, bodyPost Tryd.prog Tryd.f41 (DoR p w0 (doE hd s)) .ret a w → Q .ret a w)  (D : DoS p w0 w g2 g3 g4 hd s A n c As cs Ax cx Ao co ds) (h0 : s.what = 3) :
    Part Tryd.prog Tryd.f41 4 Q ⟨List.toArray (u0 :: u1 :: .pointer (some ⟨g2, 0, none⟩) :: .pointer (some ⟨g3, 0, none⟩) :: .pointer (some ⟨g4, 0, none⟩) :: u5 :: u6 :: u7 :: u8 :: u9 :: u10 :: u11 :: u12 :: u13 :: u14 :: u15 :: u16 :: u17 :: u18 :: u19 :: u20 :: u21 :: u22 :: u23 :: u24 :: u25 :: u26 :: u27 :: u28 :: u29 :: u30 :: u31 :: u32 :: u33 :: u34 :: u35 :: u36 :: u37 :: u38 :: u39 :: u40 :: u41 :: u42 :: u43 :: u44 :: u45 :: u46 :: u47 :: u48 :: u49 :: u50 :: u51 :: u52 :: u53 :: u54 :: u55 :: u56 :: u57 :: u58 :: u59 :: u60 :: u61 :: u62 :: u63 :: u64 :: u65 :: u66 :: u67 :: u68 :: u69 :: u70 :: u71 :: u72 :: u73 :: u74 :: u75 :: u76 :: u77 :: u78 :: u79 :: u80 :: u81 :: u82 :: u83 :: u84 :: u85 :: u86 :: u87 :: u88 :: u89 :: u90 :: u91 :: u92 :: u93 :: u94 :: u95 :: u96 :: u97 :: u98 :: u99 :: u100 :: u101 :: u102 :: u103 :: u104 :: u105 :: u106 :: u107 :: u108 :: u109 :: u110 :: u111 :: u112 :: u113 :: u114 :: u115 :: u116 :: u117 :: u118 :: u119 :: u120 :: u121 :: u122 :: u123 :: u124 :: u125 :: u126 :: u127 :: u128 :: []), []⟩ w := by
  have HDE := hide (show doE hd s = ({ hd with ext := false, exts := [] }, true, true) by simp [doE, h0])
  rw [HDE.out] at hq
  have HQ := hide hq
  have DD := hide D
  have x30 := D.b3.cell 0 (v := .int .i64 s.what) rfl
  have x31 := D.b3.cell 1 (v := .int .u8 s.id) rfl
  have x32 := D.b3.cell 2 (v := .slice A n c) rfl
  have x22 := D.b2.cell 2 (v := .bool hd.ext) rfl
  have x29 := D.b2.cell 9 (v := .int .u16 hd.prof) rfl
  have l2 := D.b2.lt
  have l3 := D.b3.lt
  have l4 := D.b4.lt
  have f4 := fun i => D.b4.free i
  have z9 := D.b4.cell 9 (v := .int .u16 hd.prof) rfl
  have z2 := D.b4.cell 2 (v := .bool hd.ext) rfl
  have z10 := D.b4.cell 10 (v := .slice Ao hd.exts.length co) rfl
  have hF := hide (fun pr => fits_walk w pr s.id A n c)
  clear D hq
  rw [h0] at x30
  clear h0
  refine part_open (fun c0 hc K hK => ?_)
  conv at hc => rhs; whnf
  subst hc
  dsimp only [xOf, yOf] at hK ⊢
  go_upto_region 28 with fail
  generalize hw1 : World.setCell (World.setCell w _ _) _ _ = w1
  have hb1 : Blk w1 g4 27 (hcells { hd with ext := false, exts := [] } (.slice As hd.srcs.length cs) (.slice none 0 0)) := by subst hw1; exact (DD.out.b4.set_ 2 _).set_ 10 _
  have hk1 : Keep w w1 (· = g4) := by subst hw1; exact ((Keep.refl w (· = g4)).setg 2 (fun _ => rfl) _).setg 10 (fun _ => rfl) _
  exact part_use (do_r28 (by intro _ _ h; exact HQ.out _ _ h) w1 _ _ _ _ _ _ _ _ _ _ _ _ _ _ _ _ _ _ _ _ _ _ _ _ _ _ _ _ _ _ _ _ _ _ _ _ _ _ _ _ _ _ _ _ _ _ _ _ _ _ _ _ _ _ _ _ _ _ _ _ _ _ _ _ _ _ _ _ _ _ _ _ _ _ _ _ _ _ _ _ _ _ _ _ _ _ _ _ _ _ _ _ _ _ _ _ _ _ _ _ _ _ _ _ _ _ _ _ _ _ _ _ _ _ _ _ _ _ _ _ _ _ _ _ _ _ _ _ hb1 (fun w' k => DD.out.new (hd' := { hd with ext := false, exts := [] }) (hk1.trans k (fun _ _ e => e)) (fun i e => by have := DD.out.l4; have : i = g4 := e; omega) rfl ⟨[], ⟨rfl, by simp⟩, Rd.nil_ _ _ _⟩)) rfl rfl (by assumption)
end Go.Proofs.YtdmnflngafbobaaDoor
namespace Go.Proofs.YtdmnflngafbobaaDoor
open Go.RowKit
set_option linter.unusedVariables false
set_option linter.unusedSimpArgs false
set_option maxRecDepth 100000

set_option maxHeartbeats 1600000 in
theorem do_sB2 {p : Nat → Prop} {w0 : World} {g2 g3 g4 n c cs cx co : Nat} {hd : Hd} {s : St} {A As Ax Ao : Option Addr} {ds : List Value} {Q : Exit → Act → World → Prop} (w : World) (u0 u1 u5 u6 u8 u9 u10 u11 u12 u13 u14 u15 u16 u17 u18 u19 u20 u21 u22 u23 u24 u25 u26 u27 u28 u29 u30 u31 u32 u33 u34 u35 u36 u37 u38 u39 u40 u41 u42 u43 u44 u45 u46 u47 u48 u49 u50 u51 u52 u53 u54 u55 u56 u57 u58 u59 u60 u61 u62 u63 u64 u65 u66 u67 u68 u69 u70 u71 u72 u73 u74 u75 u76 u77 u78 u79 u80 u81 u82 u83 u84 u85 u86 u87 u88 u89 u90 u91 u92 u93 u94 u95 u96 u97 u98 u99 u100 u101 u102 u103 u104 u105 u106 u107 u108 u109 u110 u111 u112 u113 u114 u115 u116 u117 u118 u119 u120 u121 u122 u123 u124 u125 u126 u127 u128 : Value) (hq : ∀ a w, bodyPost Tryd.prog Tryd.f41 (DoR p w0 (doE hd s)) .ret a w → Q .ret a w)  (D : DoS p w0 w g2 g3 g4 hd s A n c As cs Ax cx Ao co ds) (h0 : s.what = 0) (he : hd.ext = true) (hf : fitsB hd.prof s.id n = true) (hfi : fi hd.exts s.id = none) (hx : hd.exts.length ≤ 1000000) :
    Part Tryd.prog Tryd.f41 4 Q ⟨List.toArray (u0 :: u1 :: .pointer (some ⟨g2, 0, none⟩) :: .pointer (some ⟨g3, 0, none⟩) :: .pointer (some ⟨g4, 0, none⟩) :: u5 :: u6 :: .int .i64 (fiI (fi hd.exts s.id)) :: u8 :: u9 :: u10 :: u11 :: u12 :: u13 :: u14 :: u15 :: u16 :: u17 :: u18 :: u19 :: u20 :: u21 :: u22 :: u23 :: u24 :: u25 :: u26 :: u27 :: u28 :: u29 :: u30 :: u31 :: u32 :: u33 :: u34 :: u35 :: u36 :: u37 :: u38 :: u39 :: u40 :: u41 :: u42 :: u43 :: u44 :: u45 :: u46 :: u47 :: u48 :: u49 :: u50 :: u51 :: u52 :: u53 :: u54 :: u55 :: u56 :: u57 :: u58 :: u59 :: u60 :: u61 :: u62 :: u63 :: u64 :: u65 :: u66 :: u67 :: u68 :: u69 :: u70 :: u71 :: u72 :: u73 :: u74 :: u75 :: u76 :: u77 :: u78 :: u79 :: u80 :: u81 :: u82 :: u83 :: u84 :: u85 :: u86 :: u87 :: u88 :: u89 :: u90 :: u91 :: u92 :: u93 :: u94 :: u95 :: u96 :: u97 :: u98 :: u99 :: u100 :: u101 :: u102 :: u103 :: u104 :: u105 :: u106 :: u107 :: u108 :: u109 :: u110 :: u111 :: u112 :: u113 :: u114 :: u115 :: u116 :: u117 :: u118 :: u119 :: u120 :: u121 :: u122 :: u123 :: u124 :: u125 :: u126 :: u127 :: u128 :: []), []⟩ w := by
  have HDE := hide (show doE hd s = ({ hd with exts := hd.exts ++ [⟨s.id, s.data⟩] }, true, true) by simp [doE, h0, he, D.nl, hf, hfi])
  rw [HDE.out] at hq
  have HQ := hide hq
  have DD := hide D
  have x30 := D.b3.cell 0 (v := .int .i64 s.what) rfl
  have x31 := D.b3.cell 1 (v := .int .u8 s.id) rfl
  have x32 := D.b3.cell 2 (v := .slice A n c) rfl
  have x22 := D.b2.cell 2 (v := .bool hd.ext) rfl
  have x29 := D.b2.cell 9 (v := .int .u16 hd.prof) rfl
  have l2 := D.b2.lt
  have l3 := D.b3.lt
  have l4 := D.b4.lt
  have f4 := fun i => D.b4.free i
  have z9 := D.b4.cell 9 (v := .int .u16 hd.prof) rfl
  have z2 := D.b4.cell 2 (v := .bool hd.ext) rfl
  have z10 := D.b4.cell 10 (v := .slice Ao hd.exts.length co) rfl
  have hF := hide (fun pr => fits_walk w pr s.id A n c)
  clear D hq
  rw [h0] at x30
  rw [he] at x22
  have HE := hide he
  clear h0 he
  have HFB := hide hf
  clear hf
  have OO := hide DD.out.o
  have HNX := hide (show ¬ (Value.slice Ao hd.exts.length co).ownBlock = some g4 from DD.out.o.ne_ DD.out.b4 (by decide))
  have hsz := DD.out.k.size
  rw [hfi]
  show Part _ _ _ _ ⟨List.toArray (u0 :: u1 :: .pointer (some ⟨g2, 0, none⟩) :: .pointer (some ⟨g3, 0, none⟩) :: .pointer (some ⟨g4, 0, none⟩) :: u5 :: u6 :: .int .i64 (-1) :: u8 :: u9 :: u10 :: u11 :: u12 :: u13 :: u14 :: u15 :: u16 :: u17 :: u18 :: u19 :: u20 :: u21 :: u22 :: u23 :: u24 :: u25 :: u26 :: u27 :: u28 :: u29 :: u30 :: u31 :: u32 :: u33 :: u34 :: u35 :: u36 :: u37 :: u38 :: u39 :: u40 :: u41 :: u42 :: u43 :: u44 :: u45 :: u46 :: u47 :: u48 :: u49 :: u50 :: u51 :: u52 :: u53 :: u54 :: u55 :: u56 :: u57 :: u58 :: u59 :: u60 :: u61 :: u62 :: u63 :: u64 :: u65 :: u66 :: u67 :: u68 :: u69 :: u70 :: u71 :: u72 :: u73 :: u74 :: u75 :: u76 :: u77 :: u78 :: u79 :: u80 :: u81 :: u82 :: u83 :: u84 :: u85 :: u86 :: u87 :: u88 :: u89 :: u90 :: u91 :: u92 :: u93 :: u94 :: u95 :: u96 :: u97 :: u98 :: u99 :: u100 :: u101 :: u102 :: u103 :: u104 :: u105 :: u106 :: u107 :: u108 :: u109 :: u110 :: u111 :: u112 :: u113 :: u114 :: u115 :: u116 :: u117 :: u118 :: u119 :: u120 :: u121 :: u122 :: u123 :: u124 :: u125 :: u126 :: u127 :: u128 :: []), []⟩ w
  clear hfi
  refine part_open (fun c0 hc K hK => ?_)
  conv at hc => rhs; whnf
  subst hc
  dsimp only [xOf, yOf] at hK ⊢
  go_wp2_with fail
  refine (hF.out hd.prof).mono ?_
  rintro e w1 ⟨rfl, rfl⟩
  rw [HFB.out]
  go_upto_region 20 with (at_builtin; refine wpList_app etS rfl _ _ rfl (OO.out.alloc _) rfl (src_one (cs := #[.int .u8 s.id, .slice A n c]) Tryd.underlying25 (by first | rfl | simp only [World.size_alloc]) rfl (by simp [Value.oneCell'])) rfl (by simp only [maxLen]; omega) (by omega) (by simp only [World.size_alloc]; omega) ?_; intro v3 w3 o3 k3 b3 z3 _; have HB3 := hide ((DD.out.b4.alloc (.cells #[.int .u8 s.id, .slice A n c] 66)).keep k3 HNX.out); have y10 := HB3.out.cell 10 (v := .slice Ao hd.exts.length co) rfl; have g10 := HB3.out.free 10; have l3 := HB3.out.lt; have K3 := hide k3; have O3 := hide o3; obtain ⟨A5, c5, rfl⟩ := O3.out.rd.shape; clear k3 o3 b3 z3)
  have hO3 := O3.out
  have hK3 := K3.out
  have k13 : Keep w w3 (fun q => (Value.slice Ao hd.exts.length co).ownBlock = some q) := ((Keep.refl w _).alloc _).trans hK3 (fun _ _ e => e)
  have hgo3 : ∀ q, (Value.slice A5 (hd.exts.length + 1) c5).ownBlock = some q → ¬ q = g4 := fun q hq e => (hO3.ne_ HB3.out (by decide)) (e ▸ hq)
  have K13 := hide k13
  have HGO := hide hgo3
  clear k13 hgo3 hO3 hK3 y10 g10 z10 z2 z9 f4
  generalize hw4 : World.setCell w3 _ _ = w4
  have kst : Keep w3 w4 (· = g4) := by subst hw4; exact Keep.set1 _ _ _ _
  have hb4 : Blk w4 g4 27 (hcells { hd with exts := hd.exts ++ [⟨s.id, s.data⟩] } (.slice As hd.srcs.length cs) (.slice A5 (hd.exts.length + 1) c5)) := by subst hw4; exact HB3.out.set_ 10 _
  have HB4 := hide hb4
  have KST := hide kst
  have l44 := hb4.lt
  clear hw4 kst hb4
  exact part_use (do_r20 (by intro _ _ h; exact HQ.out _ _ h) w4 _ _ _ _ _ _ _ _ _ _ _ _ _ _ _ _ _ _ _ _ _ _ _ _ _ _ _ _ _ _ _ _ _ _ _ _ _ _ _ _ _ _ _ _ _ _ _ _ _ _ _ _ _ _ _ _ _ _ _ _ _ _ _ _ _ _ _ _ _ _ _ _ _ _ _ _ _ _ _ _ _ _ _ _ _ _ _ _ _ _ _ _ _ _ _ _ _ _ _ _ _ _ _ _ _ _ _ _ _ _ _ _ _ _ _ _ _ _ _ _ _ _ _ _ _ _ _ _ HB4.out (fun w' k => by
    have hl4 := DD.out.l4
    have hk : Keep w w' (fun i => i = g4 ∨ (Value.slice Ao hd.exts.length co).ownBlock = some i) := ((K13.out.mono (S' := fun i => i = g4 ∨ (Value.slice Ao hd.exts.length co).ownBlock = some i) (fun _ _ e => .inr e)).trans KST.out (fun _ _ e => .inl e)).trans k (fun _ _ e => .inl e)
    have hS : ∀ i, (i = g4 ∨ (Value.slice Ao hd.exts.length co).ownBlock = some i) → w0.heap.size ≤ i := fun i e => by
      rcases e with e | e
      · omega
      · exact (OO.out.at_ i e).1
    have hp : ∀ i, i < w.heap.size → p i → ¬ (i = g4 ∨ (Value.slice Ao hd.exts.length co).ownBlock = some i) := fun i _ hi e => by have := DD.out.pl i hi; have := hS i e; omega
    refine DD.out.new (hd' := { hd with exts := hd.exts ++ [⟨s.id, s.data⟩] }) hk hS rfl ⟨ds ++ [.slice A n c], ((DD.out.d.keep hk hp).snoc (by rw [DD.out.nl]; exact DD.out.rd.keep hk hp)).mono (fun _ _ h => .inl h), ?_⟩
    show Rd w' _ 2 _ (hd.exts ++ [(⟨s.id, s.data⟩ : Ex)]).length (xcells (hd.exts ++ [(⟨s.id, s.data⟩ : Ex)]) _)
    rw [xcells_snoc _ _ _ _ DD.out.d.1, List.length_append]
    exact ((O3.out.keep KST.out (fun q hq e => HGO.out q hq e)).keep k (fun q hq e => HGO.out q hq e)).rdB.mono (fun _ _ h => .inr h))) rfl rfl (by assumption)

set_option maxHeartbeats 1600000 in
theorem do_sB3 {p : Nat → Prop} {w0 : World} {g2 g3 g4 n c cs cx co : Nat} {hd : Hd} {s : St} {A As Ax Ao : Option Addr} {ds : List Value} {Q : Exit → Act → World → Prop} (w : World) (u0 u1 u5 u6 u8 u9 u10 u11 u12 u13 u14 u15 u16 u17 u18 u19 u20 u21 u22 u23 u24 u25 u26 u27 u28 u29 u30 u31 u32 u33 u34 u35 u36 u37 u38 u39 u40 u41 u42 u43 u44 u45 u46 u47 u48 u49 u50 u51 u52 u53 u54 u55 u56 u57 u58 u59 u60 u61 u62 u63 u64 u65 u66 u67 u68 u69 u70 u71 u72 u73 u74 u75 u76 u77 u78 u79 u80 u81 u82 u83 u84 u85 u86 u87 u88 u89 u90 u91 u92 u93 u94 u95 u96 u97 u98 u99 u100 u101 u102 u103 u104 u105 u106 u107 u108 u109 u110 u111 u112 u113 u114 u115 u116 u117 u118 u119 u120 u121 u122 u123 u124 u125 u126 u127 u128 : Value) (hq : ∀ a w, bodyPost Tryd.prog Tryd.f41 (DoR p w0 (doE hd s)) .ret a w → Q .ret a w)  (D : DoS p w0 w g2 g3 g4 hd s A n c As cs Ax cx Ao co ds) {k : Nat} (h0 : s.what = 0) (he : hd.ext = true) (hf : fitsB hd.prof s.id n = true) (hfi : fi hd.exts s.id = some k) (hx : hd.exts.length ≤ 1000000) :
    Part Tryd.prog Tryd.f41 4 Q ⟨List.toArray (u0 :: u1 :: .pointer (some ⟨g2, 0, none⟩) :: .pointer (some ⟨g3, 0, none⟩) :: .pointer (some ⟨g4, 0, none⟩) :: u5 :: u6 :: .int .i64 (fiI (fi hd.exts s.id)) :: u8 :: u9 :: u10 :: u11 :: u12 :: u13 :: u14 :: u15 :: u16 :: u17 :: u18 :: u19 :: u20 :: u21 :: u22 :: u23 :: u24 :: u25 :: u26 :: u27 :: u28 :: u29 :: u30 :: u31 :: u32 :: u33 :: u34 :: u35 :: u36 :: u37 :: u38 :: u39 :: u40 :: u41 :: u42 :: u43 :: u44 :: u45 :: u46 :: u47 :: u48 :: u49 :: u50 :: u51 :: u52 :: u53 :: u54 :: u55 :: u56 :: u57 :: u58 :: u59 :: u60 :: u61 :: u62 :: u63 :: u64 :: u65 :: u66 :: u67 :: u68 :: u69 :: u70 :: u71 :: u72 :: u73 :: u74 :: u75 :: u76 :: u77 :: u78 :: u79 :: u80 :: u81 :: u82 :: u83 :: u84 :: u85 :: u86 :: u87 :: u88 :: u89 :: u90 :: u91 :: u92 :: u93 :: u94 :: u95 :: u96 :: u97 :: u98 :: u99 :: u100 :: u101 :: u102 :: u103 :: u104 :: u105 :: u106 :: u107 :: u108 :: u109 :: u110 :: u111 :: u112 :: u113 :: u114 :: u115 :: u116 :: u117 :: u118 :: u119 :: u120 :: u121 :: u122 :: u123 :: u124 :: u125 :: u126 :: u127 :: u128 :: []), []⟩ w := by
  have HDE := hide (show doE hd s = ({ hd with exts := hd.exts.set k ⟨s.id, s.data⟩ }, true, true) by simp [doE, h0, he, D.nl, hf, hfi])
  rw [HDE.out] at hq
  have HQ := hide hq
  have DD := hide D
  have x30 := D.b3.cell 0 (v := .int .i64 s.what) rfl
  have x31 := D.b3.cell 1 (v := .int .u8 s.id) rfl
  have x32 := D.b3.cell 2 (v := .slice A n c) rfl
  have x22 := D.b2.cell 2 (v := .bool hd.ext) rfl
  have x29 := D.b2.cell 9 (v := .int .u16 hd.prof) rfl
  have l2 := D.b2.lt
  have l3 := D.b3.lt
  have l4 := D.b4.lt
  have f4 := fun i => D.b4.free i
  have z9 := D.b4.cell 9 (v := .int .u16 hd.prof) rfl
  have z2 := D.b4.cell 2 (v := .bool hd.ext) rfl
  have z10 := D.b4.cell 10 (v := .slice Ao hd.exts.length co) rfl
  have hF := hide (fun pr => fits_walk w pr s.id A n c)
  clear D hq
  rw [h0] at x30
  rw [he] at x22
  have HE := hide he
  clear h0 he
  have HFB := hide hf
  clear hf
  have OO := hide DD.out.o
  have HNX := hide (show ¬ (Value.slice Ao hd.exts.length co).ownBlock = some g4 from DD.out.o.ne_ DD.out.b4 (by decide))
  have hsz := DD.out.k.size
  rw [hfi]
  show Part _ _ _ _ ⟨List.toArray (u0 :: u1 :: .pointer (some ⟨g2, 0, none⟩) :: .pointer (some ⟨g3, 0, none⟩) :: .pointer (some ⟨g4, 0, none⟩) :: u5 :: u6 :: .int .i64 ((k : Int)) :: u8 :: u9 :: u10 :: u11 :: u12 :: u13 :: u14 :: u15 :: u16 :: u17 :: u18 :: u19 :: u20 :: u21 :: u22 :: u23 :: u24 :: u25 :: u26 :: u27 :: u28 :: u29 :: u30 :: u31 :: u32 :: u33 :: u34 :: u35 :: u36 :: u37 :: u38 :: u39 :: u40 :: u41 :: u42 :: u43 :: u44 :: u45 :: u46 :: u47 :: u48 :: u49 :: u50 :: u51 :: u52 :: u53 :: u54 :: u55 :: u56 :: u57 :: u58 :: u59 :: u60 :: u61 :: u62 :: u63 :: u64 :: u65 :: u66 :: u67 :: u68 :: u69 :: u70 :: u71 :: u72 :: u73 :: u74 :: u75 :: u76 :: u77 :: u78 :: u79 :: u80 :: u81 :: u82 :: u83 :: u84 :: u85 :: u86 :: u87 :: u88 :: u89 :: u90 :: u91 :: u92 :: u93 :: u94 :: u95 :: u96 :: u97 :: u98 :: u99 :: u100 :: u101 :: u102 :: u103 :: u104 :: u105 :: u106 :: u107 :: u108 :: u109 :: u110 :: u111 :: u112 :: u113 :: u114 :: u115 :: u116 :: u117 :: u118 :: u119 :: u120 :: u121 :: u122 :: u123 :: u124 :: u125 :: u126 :: u127 :: u128 :: []), []⟩ w
  obtain ⟨x, hxk, hxid, -⟩ := fi_at hfi
  have hk := fi_lt hfi
  have HXK := hide hxk
  have HXI := hide hxid
  obtain ⟨gx, rfl⟩ : ∃ gx, Ao = some ⟨gx, 0, none⟩ := by
    rcases DD.out.o.2 with ⟨h0, hz⟩ | ⟨g', _, _, _, hv', _⟩
    · omega
    · injection hv' with e
      exact ⟨g', e⟩
  have hgxg : gx ≠ g4 := fun e => HNX.out (by rw [e]; rfl)
  obtain ⟨hset, ⟨vo, hvo⟩, hfz⟩ := DD.out.o.setc (k * 2) (.int .u8 s.id) (by omega)
  obtain ⟨hset2, ⟨vo2, hvo2⟩, hfz2⟩ := DD.out.o.setc (k * 2 + 1) (.slice A n c) (by omega)
  have HSET := hide (hset.setc (k * 2 + 1) (.slice A n c) (by omega)).1
  have lgx : gx < w.heap.size := (DD.out.o.at_ gx rfl).2.1
  have hkc : (k : Int) < (hd.exts.length : Int) := by omega
  clear hfi hxk hxid hset hset2
  refine part_open (fun c0 hc K hK => ?_)
  conv at hc => rhs; whnf
  subst hc
  dsimp only [xOf, yOf] at hK ⊢
  go_wp2_with fail
  refine (hF.out hd.prof).mono ?_
  rintro e w1 ⟨rfl, rfl⟩
  rw [HFB.out]
  go_upto_region 20 with fail
  have hcs : xcells (hd.exts.set k ⟨s.id, s.data⟩) (ds.set k (.slice A n c)) = ((xcells hd.exts ds).set (k * 2) (.int .u8 s.id)).set (k * 2 + 1) (.slice A n c) := by
    have hdk : ds[k]? = some (ds[k]'(by rw [DD.out.d.1]; exact hk)) := List.getElem?_eq_getElem _
    have e1 := xcells_set hd.exts ds k x s.data (.slice A n c) DD.out.d.1 HXK.out
    have e2 := (xcells_get hd.exts ds k HXK.out hdk).1
    rw [HXI.out] at e1 e2
    rw [e1, Nat.mul_comm 2 k]
    rw [Nat.mul_comm 2 k] at e2
    congr 1
    obtain ⟨hlt, e3⟩ := List.getElem?_eq_some_iff.1 e2
    rw [← e3, List.set_getElem_self]
  have HCS := hide hcs
  clear hcs
  generalize hw4 : World.setCell (World.setCell w _ _) _ _ = w4 at HSET ⊢
  have hb4 : Blk w4 g4 27 (hcells { hd with exts := hd.exts.set k ⟨s.id, s.data⟩ } (.slice As hd.srcs.length cs) (.slice (some ⟨gx, 0, none⟩) hd.exts.length co)) := by subst hw4; exact (DD.out.b4.far (p := ⟨gx, k * 2, none⟩) (fun e => hgxg e.symm) _).far (p := ⟨gx, k * 2 + 1, none⟩) (fun e => hgxg e.symm) _
  have hk4 : Keep w w4 (· = gx) := by subst hw4; exact ((Keep.refl w (· = gx)).setg (k * 2) (fun _ => rfl) _).setg (k * 2 + 1) (fun _ => rfl) _
  have hgB := (DD.out.o.at_ gx rfl).1
  exact part_use (do_r20 (by intro _ _ h; exact HQ.out _ _ h) w4 _ _ _ _ _ _ _ _ _ _ _ _ _ _ _ _ _ _ _ _ _ _ _ _ _ _ _ _ _ _ _ _ _ _ _ _ _ _ _ _ _ _ _ _ _ _ _ _ _ _ _ _ _ _ _ _ _ _ _ _ _ _ _ _ _ _ _ _ _ _ _ _ _ _ _ _ _ _ _ _ _ _ _ _ _ _ _ _ _ _ _ _ _ _ _ _ _ _ _ _ _ _ _ _ _ _ _ _ _ _ _ _ _ _ _ _ _ _ _ _ _ _ _ _ _ _ _ _ hb4 (fun w' k' => by
    have hl4 := DD.out.l4
    have hkk : Keep w w' (fun i => i = g4 ∨ i = gx) := (hk4.mono (S' := fun i => i = g4 ∨ i = gx) (fun _ _ e => .inr e)).trans k' (fun _ _ e => .inl e)
    have hS : ∀ i, (i = g4 ∨ i = gx) → w0.heap.size ≤ i := fun i e => by omega
    have hp : ∀ i, i < w.heap.size → p i → ¬ (i = g4 ∨ i = gx) := fun i _ hi e => by have := DD.out.pl i hi; omega
    refine DD.out.new (hd' := { hd with exts := hd.exts.set k ⟨s.id, s.data⟩ }) hkk hS rfl ⟨ds.set k (.slice A n c), ((DD.out.d.keep hkk hp).set_ (by rw [DD.out.nl]; exact DD.out.rd.keep hkk hp)).mono (fun _ _ h => .inl h), ?_⟩
    show Rd w' _ 2 _ (hd.exts.set k (⟨s.id, s.data⟩ : Ex)).length (xcells (hd.exts.set k (⟨s.id, s.data⟩ : Ex)) _)
    rw [HCS.out, List.length_set]
    exact (HSET.out.keep k' (fun q hq e => by have e' : q = g4 := e; subst e'; exact HNX.out hq)).rdB.mono (fun _ _ h => .inr h))) rfl rfl (by assumption)
end Go.Proofs.YtdmnflngafbobaaDoor
namespace Go.Proofs.YtdmnflngafbobaaDoor
open Go.RowKit
set_option linter.unusedVariables false
set_option linter.unusedSimpArgs false
set_option maxRecDepth 100000

theorem Rd.cap {w : World} {p : Nat → Prop} {sz n c : Nat} {A : Option Addr} {xs : List Value} (h : Rd w p sz (.slice A n c) n xs) : Rd w p sz (.slice A n n) n xs := by
  obtain ⟨h1, A', c', hv, h2, h3, h4, h5⟩ := h
  injection hv with e1 _ e3
  subst e1 e3
  exact ⟨h1, A, n, rfl, Nat.le_refl _, Nat.le_trans h2 h3, fun h => by have := h4 h; omega, h5⟩

set_option maxHeartbeats 1600000 in
theorem do_sC3 {p : Nat → Prop} {w0 : World} {g2 g3 g4 n c cs cx co : Nat} {hd : Hd} {s : St} {A As Ax Ao : Option Addr} {ds : List Value} {Q : Exit → Act → World → Prop} (w : World) (u0 u1 u5 u6 u8 u9 u10 u11 u12 u13 u14 u15 u16 u17 u18 u19 u20 u21 u22 u23 u24 u25 u26 u27 u28 u29 u30 u31 u32 u33 u34 u35 u36 u37 u38 u39 u40 u41 u42 u43 u44 u45 u46 u47 u48 u49 u50 u51 u52 u53 u54 u55 u56 u57 u58 u59 u60 u61 u62 u63 u64 u65 u66 u67 u68 u69 u70 u71 u72 u73 u74 u75 u76 u77 u78 u79 u80 u81 u82 u83 u84 u85 u86 u87 u88 u89 u90 u91 u92 u93 u94 u95 u96 u97 u98 u99 u100 u101 u102 u103 u104 u105 u106 u107 u108 u109 u110 u111 u112 u113 u114 u115 u116 u117 u118 u119 u120 u121 u122 u123 u124 u125 u126 u127 u128 : Value) (hq : ∀ a w, bodyPost Tryd.prog Tryd.f41 (DoR p w0 (doE hd s)) .ret a w → Q .ret a w)  (D : DoS p w0 w g2 g3 g4 hd s A n c As cs Ax cx Ao co ds) {k : Nat} (h0 : s.what = 2) (he : hd.ext = true) (hfi : fi hd.exts s.id = some k) (hx : hd.exts.length ≤ 1000000) :
    Part Tryd.prog Tryd.f41 4 Q ⟨List.toArray (u0 :: u1 :: .pointer (some ⟨g2, 0, none⟩) :: .pointer (some ⟨g3, 0, none⟩) :: .pointer (some ⟨g4, 0, none⟩) :: u5 :: u6 :: .int .i64 (fiI (fi hd.exts s.id)) :: u8 :: u9 :: u10 :: u11 :: u12 :: u13 :: u14 :: u15 :: u16 :: u17 :: u18 :: u19 :: u20 :: u21 :: u22 :: u23 :: u24 :: u25 :: u26 :: u27 :: u28 :: u29 :: u30 :: u31 :: u32 :: u33 :: u34 :: u35 :: u36 :: u37 :: u38 :: u39 :: u40 :: u41 :: u42 :: u43 :: u44 :: u45 :: u46 :: u47 :: u48 :: u49 :: u50 :: u51 :: u52 :: u53 :: u54 :: u55 :: u56 :: u57 :: u58 :: u59 :: u60 :: u61 :: u62 :: u63 :: u64 :: u65 :: u66 :: u67 :: u68 :: u69 :: u70 :: u71 :: u72 :: u73 :: u74 :: u75 :: u76 :: u77 :: u78 :: u79 :: u80 :: u81 :: u82 :: u83 :: u84 :: u85 :: u86 :: u87 :: u88 :: u89 :: u90 :: u91 :: u92 :: u93 :: u94 :: u95 :: u96 :: u97 :: u98 :: u99 :: u100 :: u101 :: u102 :: u103 :: u104 :: u105 :: u106 :: u107 :: u108 :: u109 :: u110 :: u111 :: u112 :: u113 :: u114 :: u115 :: u116 :: u117 :: u118 :: u119 :: u120 :: u121 :: u122 :: u123 :: u124 :: u125 :: u126 :: u127 :: u128 :: []), []⟩ w := by
  have HDE := hide (show doE hd s = ({ hd with exts := hd.exts.eraseIdx k }, true, decide (0 < (hd.exts.eraseIdx k).length)) by simp [doE, h0, he, hfi])
  rw [HDE.out] at hq
  have HQ := hide hq
  have DD := hide D
  have x30 := D.b3.cell 0 (v := .int .i64 s.what) rfl
  have x31 := D.b3.cell 1 (v := .int .u8 s.id) rfl
  have x32 := D.b3.cell 2 (v := .slice A n c) rfl
  have x22 := D.b2.cell 2 (v := .bool hd.ext) rfl
  have x29 := D.b2.cell 9 (v := .int .u16 hd.prof) rfl
  have l2 := D.b2.lt
  have l3 := D.b3.lt
  have l4 := D.b4.lt
  have f4 := fun i => D.b4.free i
  have z9 := D.b4.cell 9 (v := .int .u16 hd.prof) rfl
  have z2 := D.b4.cell 2 (v := .bool hd.ext) rfl
  have z10 := D.b4.cell 10 (v := .slice Ao hd.exts.length co) rfl
  have hF := hide (fun pr => fits_walk w pr s.id A n c)
  clear D hq
  rw [h0] at x30
  rw [he] at x22
  clear h0 he
  have OO := hide DD.out.o
  have HNX := hide (show ¬ (Value.slice Ao hd.exts.length co).ownBlock = some g4 from DD.out.o.ne_ DD.out.b4 (by decide))
  have hsz := DD.out.k.size
  rw [hfi]
  show Part _ _ _ _ ⟨List.toArray (u0 :: u1 :: .pointer (some ⟨g2, 0, none⟩) :: .pointer (some ⟨g3, 0, none⟩) :: .pointer (some ⟨g4, 0, none⟩) :: u5 :: u6 :: .int .i64 (k : Int) :: u8 :: u9 :: u10 :: u11 :: u12 :: u13 :: u14 :: u15 :: u16 :: u17 :: u18 :: u19 :: u20 :: u21 :: u22 :: u23 :: u24 :: u25 :: u26 :: u27 :: u28 :: u29 :: u30 :: u31 :: u32 :: u33 :: u34 :: u35 :: u36 :: u37 :: u38 :: u39 :: u40 :: u41 :: u42 :: u43 :: u44 :: u45 :: u46 :: u47 :: u48 :: u49 :: u50 :: u51 :: u52 :: u53 :: u54 :: u55 :: u56 :: u57 :: u58 :: u59 :: u60 :: u61 :: u62 :: u63 :: u64 :: u65 :: u66 :: u67 :: u68 :: u69 :: u70 :: u71 :: u72 :: u73 :: u74 :: u75 :: u76 :: u77 :: u78 :: u79 :: u80 :: u81 :: u82 :: u83 :: u84 :: u85 :: u86 :: u87 :: u88 :: u89 :: u90 :: u91 :: u92 :: u93 :: u94 :: u95 :: u96 :: u97 :: u98 :: u99 :: u100 :: u101 :: u102 :: u103 :: u104 :: u105 :: u106 :: u107 :: u108 :: u109 :: u110 :: u111 :: u112 :: u113 :: u114 :: u115 :: u116 :: u117 :: u118 :: u119 :: u120 :: u121 :: u122 :: u123 :: u124 :: u125 :: u126 :: u127 :: u128 :: []), []⟩ w
  have hk := fi_lt hfi
  have HKL := hide hk
  obtain ⟨gx, rfl⟩ : ∃ gx, Ao = some ⟨gx, 0, none⟩ := by
    rcases DD.out.o.2 with ⟨h0, hz⟩ | ⟨g', _, _, _, hv', _⟩
    · omega
    · injection hv' with e
      exact ⟨g', e⟩
  have hgxg : gx ≠ g4 := fun e => HNX.out (by rw [e]; rfl)
  have hgB := (DD.out.o.at_ gx rfl).1
  have hgx4 := (DD.out.o.at_ gx rfl).2.1
  have hcol : hd.exts.length ≤ co := by
    obtain ⟨_, _, _, hv, hle, _⟩ := DD.out.o.rd
    injection hv with _ _ e
    omega
  have hm63 : co ≤ maxLen := by
    obtain ⟨_, _, _, hv, _, hle, _⟩ := DD.out.o.rd
    injection hv with _ _ e
    omega
  have HTK := hide ((DD.out.o.rd.take k (by omega)).cap)
  have HNE := hide (show ∀ q, ((Value.slice (some ⟨gx, 0, none⟩) hd.exts.length co).ownBlock = some q ∨ w.drew.heap.size ≤ q) → ¬ q = g4 from fun q hq e => by
    rcases hq with hq | hq
    · exact HNX.out (e ▸ hq)
    · have : w.heap.size ≤ q := hq; omega)
  have i1 : (k : Int) ≤ (co : Int) := by omega
  have i2 : (k : Int) + 1 ≤ (hd.exts.length : Int) := by omega
  have i3 : ((k : Int) + 1).toNat = k + 1 := by omega
  have i4 : IntKind.i64.wrap ((k : Int) + 1) = (k : Int) + 1 := by rw [IntKind.wrap_i64]; simp only [maxLen] at hm63; omega
  have i5 : k ≤ co := by omega
  have i6 : k + 1 ≤ hd.exts.length := by omega
  have i7 : (0 : Int) ≤ (k : Int) + 1 := by omega
  clear hfi
  refine part_open (fun c0 hc K hK => ?_)
  conv at hc => rhs; whnf
  subst hc
  dsimp only [xOf, yOf] at hK ⊢
  go_upto_region 24 with fail
  rename_i K1 hK1
  have KK := hide hK1
  clear hK1
  by_cases hck : co = k + 1
  · subst hck
    have hrd0 := (OO.out.keep0 ((Keep.refl w Nul).drew)).from_ (k + 1) i6 (some ⟨gx, 0, none⟩) (fun h => absurd rfl h) (by simp)
    rw [Nat.sub_self] at hrd0
    rw [show hd.exts.length - (k + 1) = 0 by omega] at hrd0
    have hrd := hide hrd0
    clear hrd0
    have i8 : (k : Int) ≤ (k : Int) + 1 := by omega
    refine wp_region_noPanic ?_
    refine region_last2' (S := fun w' => w'.cell? ⟨g4, 10, none⟩ = some (.slice (some ⟨gx, 0, none⟩) hd.exts.length (k + 1))) (by kernel_rfl) (by kernel_rfl) (by simp only [List.dropLast_cons_cons, List.dropLast_singleton]; rfl) (by simp only [List.getLast?_cons_cons, List.getLast?_singleton]; rfl) (z10) (fun hHeld => ?_)
    simp only [List.length_cons, List.length_nil, Nat.reduceAdd, Nat.zero_add]
    refine wpAnyH_take (i := 0) (v := ?_) (by simp only [List.getElem?_toArray, List.getElem?_cons_succ, List.getElem?_cons_zero]; rfl) (by kernel_rfl) (by kernel_rfl) (by kernel_rfl) (fun _ _ _ h => h) (Or.inl ⟨by rfl, ?_⟩) (by assumption) ?_
    rotate_left 1
    · (intro w hSw; (try dsimp only at hSw); go_simp; (try with_reducible rfl))
    try simp only [Act.put, List.setIfInBounds_toArray, List.set_cons_zero, List.set_cons_succ]
    refine wpAnyH_take (i := 1) (v := ?_) (by simp only [List.getElem?_toArray, List.getElem?_cons_succ, List.getElem?_cons_zero]; rfl) (by kernel_rfl) (by kernel_rfl) (by kernel_rfl) (fun _ _ _ h => h) (Or.inl ⟨by rfl, ?_⟩) (by assumption) ?_
    rotate_left 1
    · (intro w hSw; (try dsimp only at hSw); go_simp; (try with_reducible rfl))
    try simp only [Act.put, List.setIfInBounds_toArray, List.set_cons_zero, List.set_cons_succ]
    refine wpAnyH_take (i := 2) (v := ?_) (by simp only [List.getElem?_toArray, List.getElem?_cons_succ, List.getElem?_cons_zero]; rfl) (by kernel_rfl) (by kernel_rfl) (by kernel_rfl) (fun _ _ _ h => h) (Or.inl ⟨by rfl, ?_⟩) (by assumption) ?_
    rotate_left 1
    · (intro w hSw; (try dsimp only at hSw); go_simp; (try with_reducible rfl))
    try simp only [Act.put, List.setIfInBounds_toArray, List.set_cons_zero, List.set_cons_succ]
    refine wpAnyH_take (i := 3) (v := ?_) (by simp only [List.getElem?_toArray, List.getElem?_cons_succ, List.getElem?_cons_zero]; rfl) (by kernel_rfl) (by kernel_rfl) (by kernel_rfl) (fun _ _ _ h => h) (Or.inl ⟨by rfl, ?_⟩) (by assumption) ?_
    rotate_left 1
    · (intro w hSw; (try dsimp only at hSw); go_simp; (try with_reducible rfl))
    try simp only [Act.put, List.setIfInBounds_toArray, List.set_cons_zero, List.set_cons_succ]
    refine wpAnyH_take (i := 4) (v := ?_) (by simp only [List.getElem?_toArray, List.getElem?_cons_succ, List.getElem?_cons_zero]; rfl) (by kernel_rfl) (by kernel_rfl) (by kernel_rfl) (fun _ _ _ h => h) (Or.inl ⟨by rfl, ?_⟩) (by assumption) ?_
    rotate_left 1
    · (intro w hSw; (try dsimp only at hSw); go_simp; (try with_reducible rfl))
    try simp only [Act.put, List.setIfInBounds_toArray, List.set_cons_zero, List.set_cons_succ]
    refine wpAnyH_take (i := 5) (v := ?_) (by simp only [List.getElem?_toArray, List.getElem?_cons_succ, List.getElem?_cons_zero]; rfl) (by kernel_rfl) (by kernel_rfl) (by kernel_rfl) (fun _ _ _ h => h) (Or.inl ⟨by rfl, ?_⟩) (by assumption) ?_
    rotate_left 1
    · (intro w hSw; (try dsimp only at hSw); go_simp; (try with_reducible rfl))
    try simp only [Act.put, List.setIfInBounds_toArray, List.set_cons_zero, List.set_cons_succ]
    refine wpAnyH_take (i := 6) (v := ?_) (by simp only [List.getElem?_toArray, List.getElem?_cons_succ, List.getElem?_cons_zero]; rfl) (by kernel_rfl) (by kernel_rfl) (by kernel_rfl) (fun _ _ _ h => h) (Or.inl ⟨by rfl, ?_⟩) (by assumption) ?_
    rotate_left 1
    · (intro w hSw; (try dsimp only at hSw); go_simp; (try with_reducible rfl))
    try simp only [Act.put, List.setIfInBounds_toArray, List.set_cons_zero, List.set_cons_succ]
    refine wpAnyH_take (i := 7) (v := ?_) (by simp only [List.getElem?_toArray, List.getElem?_cons_succ, List.getElem?_cons_zero]; rfl) (by kernel_rfl) (by kernel_rfl) (by kernel_rfl) (fun _ _ _ h => h) (Or.inl ⟨by rfl, ?_⟩) (by assumption) ?_
    rotate_left 1
    · (intro w hSw; (try dsimp only at hSw); go_simp; (try with_reducible rfl))
    try simp only [Act.put, List.setIfInBounds_toArray, List.set_cons_zero, List.set_cons_succ]
    refine wpAnyH_take (i := 8) (v := ?_) (by simp only [List.getElem?_toArray, List.getElem?_cons_succ, List.getElem?_cons_zero]; rfl) (by kernel_rfl) (by kernel_rfl) (by kernel_rfl) (fun _ _ _ h => h) (Or.inl ⟨by rfl, ?_⟩) (by assumption) ?_
    rotate_left 1
    · (intro w hSw; (try dsimp only at hSw); go_simp; (try with_reducible rfl))
    try simp only [Act.put, List.setIfInBounds_toArray, List.set_cons_zero, List.set_cons_succ]
    refine wpAnyH_take (i := 9) (v := ?_) (by simp only [List.getElem?_toArray, List.getElem?_cons_succ, List.getElem?_cons_zero]; rfl) (by kernel_rfl) (by kernel_rfl) (by kernel_rfl) (fun _ _ _ h => h) (Or.inl ⟨by rfl, ?_⟩) (by assumption) ?_
    rotate_left 1
    · (intro w hSw; (try dsimp only at hSw); go_simp; (try with_reducible rfl))
    try simp only [Act.put, List.setIfInBounds_toArray, List.set_cons_zero, List.set_cons_succ]
    refine wpAnyH_ready (rs := [10]) (by kernel_rfl) (by simp) ?_
    refine AllReadyH.cons (by simp only [List.getElem?_toArray, List.getElem?_cons_succ, List.getElem?_cons_zero]; rfl) (fun K hK => ?_) AllReadyH.nil
    refine step_appF etS (by rfl) _ _ (by rfl) (HTK.out.drew) (by rfl) (src_of_rd (P := Tryd.prog) w.drew Tryd.underlying25 hrd.out (fun u hu => xcells_one _ _ DD.out.d u (List.mem_of_mem_drop hu))) (by rfl) (by simp only [maxLen]; omega) (by omega) ?_
    intro A5 c5 w3 r3 k3
    have hb3 := DD.out.b4.drew.keep k3 (fun e => e)
    have f10 := hb3.free 10
    have g10 := hb3.cell 10 (v := .slice (some ⟨gx, 0, none⟩) hd.exts.length (k + 1)) rfl
    have l3 := hb3.lt
    refine hK.out _ _ (hb3.cell 10 rfl) (fun hHeld => ?_)
    clear hK K
    try simp only [Act.put, List.setIfInBounds_toArray, List.set_cons_zero, List.set_cons_succ]
    refine wpAnyH_take (i := 11) (v := ?_) (by simp only [List.getElem?_toArray, List.getElem?_cons_succ, List.getElem?_cons_zero]; rfl) (by kernel_rfl) (by kernel_rfl) (by kernel_rfl) (fun _ _ _ h => h) (Or.inl ⟨by rfl, ?_⟩) (by assumption) ?_
    rotate_left 1
    · (intro w hSw; (try dsimp only at hSw); go_simp; (try with_reducible rfl))
    try simp only [Act.put, List.setIfInBounds_toArray, List.set_cons_zero, List.set_cons_succ]
    refine wpAnyH_done (by kernel_rfl) ?_ _
    intro K hK
    go_simp
    refine hK _ _ (NoPanic.normal ?_)
    clear hK K
    have R3 := hide r3
    have K3 := hide k3
    have hml : (hd.exts.eraseIdx k).length = k := by rw [List.length_eraseIdx, if_pos hk]; omega
    have HML := hide hml
    have HB3 := hide hb3
    clear r3 k3 hml hb3 hHeld f10 g10 z10 z2 z9 f4 l3
    simp only [Nat.add_zero] at R3
    generalize hw4 : World.setCell w3 _ _ = w4
    have kst : Keep w3 w4 (· = g4) := by subst hw4; exact Keep.set1 _ _ _ _
    have hb4 : Blk w4 g4 27 (hcells { hd with exts := hd.exts.eraseIdx k } (.slice As hd.srcs.length cs) (.slice A5 k c5)) := by subst hw4; exact HB3.out.set_ 10 _
    have HB4 := hide hb4
    have KST := hide kst
    have l44 := hb4.lt
    clear hw4 kst hb4
    refine KK.out _ _ ?_
    go_upto_region 25 with fail
    have hdec : decide ((0 : Int) < (k : Int)) = decide (0 < (hd.exts.eraseIdx k).length) := by rw [HML.out]; exact decide_eq_decide.2 (by omega)
    exact part_use (do_r25 (by intro _ _ h; exact HQ.out _ _ h) w4 _ _ _ _ _ _ _ _ _ _ _ _ _ _ _ _ _ _ _ _ _ _ _ _ _ _ _ _ _ _ _ _ _ _ _ _ _ _ _ _ _ _ _ _ _ _ _ _ _ _ _ _ _ _ _ _ _ _ _ _ _ _ _ _ _ _ _ _ _ _ _ _ _ _ _ _ _ _ _ _ _ _ _ _ _ _ _ _ _ _ _ _ _ _ _ _ _ _ _ _ _ _ _ _ _ _ _ _ _ _ _ _ _ _ _ _ _ _ _ _ _ _ _ _ _ _ _ _ HB4.out (fun w' k' => by
      have hl4 := DD.out.l4
      rw [hdec]
      have hk : Keep w w' (fun i => i = g4) := ((((Keep.refl w Nul).drew).trans0 K3.out).nul (· = g4)).trans (KST.out.trans k' (fun _ _ e => e)) (fun _ _ e => e)
      have hS : ∀ i, (i = g4) → w0.heap.size ≤ i := fun i e => by omega
      have hp : ∀ i, i < w.heap.size → p i → ¬ (i = g4) := fun i _ hi e => by have := DD.out.pl i hi; omega
      refine DD.out.new (hd' := { hd with exts := hd.exts.eraseIdx k }) hk hS rfl ⟨ds.eraseIdx k, ((DD.out.d.keep hk hp).erase k).mono (fun _ _ h => .inl h), ?_⟩
      show Rd w' _ 2 _ (hd.exts.eraseIdx k).length (xcells (hd.exts.eraseIdx k) _)
      rw [HML.out, ← xcells_erase hd.exts ds k DD.out.d.1 HKL.out]
      exact ((R3.out.keep KST.out (fun q _ hq e => HNE.out q hq e)).keep k' (fun q _ hq e => HNE.out q hq e)).mono (fun q _ h => .inr (by rcases h with h | h; exact (OO.out.at_ q h).1; exact Nat.le_trans hsz h)))) rfl rfl (by assumption)
  · have hc1 : ¬ co = k + 1 := hck
    refine wp_region_noPanic ?_
    refine region_last2' (S := fun w' => w'.cell? ⟨g4, 10, none⟩ = some (.slice (some ⟨gx, 0, none⟩) hd.exts.length co)) (by kernel_rfl) (by kernel_rfl) (by simp only [List.dropLast_cons_cons, List.dropLast_singleton]; rfl) (by simp only [List.getLast?_cons_cons, List.getLast?_singleton]; rfl) (z10) (fun hHeld => ?_)
    simp only [List.length_cons, List.length_nil, Nat.reduceAdd, Nat.zero_add]
    refine wpAnyH_take (i := 0) (v := ?_) (by simp only [List.getElem?_toArray, List.getElem?_cons_succ, List.getElem?_cons_zero]; rfl) (by kernel_rfl) (by kernel_rfl) (by kernel_rfl) (fun _ _ _ h => h) (Or.inl ⟨by rfl, ?_⟩) (by assumption) ?_
    rotate_left 1
    · (intro w hSw; (try dsimp only at hSw); go_simp; (try with_reducible rfl))
    try simp only [Act.put, List.setIfInBounds_toArray, List.set_cons_zero, List.set_cons_succ]
    refine wpAnyH_take (i := 1) (v := ?_) (by simp only [List.getElem?_toArray, List.getElem?_cons_succ, List.getElem?_cons_zero]; rfl) (by kernel_rfl) (by kernel_rfl) (by kernel_rfl) (fun _ _ _ h => h) (Or.inl ⟨by rfl, ?_⟩) (by assumption) ?_
    rotate_left 1
    · (intro w hSw; (try dsimp only at hSw); go_simp; (try with_reducible rfl))
    try simp only [Act.put, List.setIfInBounds_toArray, List.set_cons_zero, List.set_cons_succ]
    refine wpAnyH_take (i := 2) (v := ?_) (by simp only [List.getElem?_toArray, List.getElem?_cons_succ, List.getElem?_cons_zero]; rfl) (by kernel_rfl) (by kernel_rfl) (by kernel_rfl) (fun _ _ _ h => h) (Or.inl ⟨by rfl, ?_⟩) (by assumption) ?_
    rotate_left 1
    · (intro w hSw; (try dsimp only at hSw); go_simp; (try with_reducible rfl))
    try simp only [Act.put, List.setIfInBounds_toArray, List.set_cons_zero, List.set_cons_succ]
    refine wpAnyH_take (i := 3) (v := ?_) (by simp only [List.getElem?_toArray, List.getElem?_cons_succ, List.getElem?_cons_zero]; rfl) (by kernel_rfl) (by kernel_rfl) (by kernel_rfl) (fun _ _ _ h => h) (Or.inl ⟨by rfl, ?_⟩) (by assumption) ?_
    rotate_left 1
    · (intro w hSw; (try dsimp only at hSw); go_simp; (try with_reducible rfl))
    try simp only [Act.put, List.setIfInBounds_toArray, List.set_cons_zero, List.set_cons_succ]
    refine wpAnyH_take (i := 4) (v := ?_) (by simp only [List.getElem?_toArray, List.getElem?_cons_succ, List.getElem?_cons_zero]; rfl) (by kernel_rfl) (by kernel_rfl) (by kernel_rfl) (fun _ _ _ h => h) (Or.inl ⟨by rfl, ?_⟩) (by assumption) ?_
    rotate_left 1
    · (intro w hSw; (try dsimp only at hSw); go_simp; (try with_reducible rfl))
    try simp only [Act.put, List.setIfInBounds_toArray, List.set_cons_zero, List.set_cons_succ]
    refine wpAnyH_take (i := 5) (v := ?_) (by simp only [List.getElem?_toArray, List.getElem?_cons_succ, List.getElem?_cons_zero]; rfl) (by kernel_rfl) (by kernel_rfl) (by kernel_rfl) (fun _ _ _ h => h) (Or.inl ⟨by rfl, ?_⟩) (by assumption) ?_
    rotate_left 1
    · (intro w hSw; (try dsimp only at hSw); go_simp; (try with_reducible rfl))
    try simp only [Act.put, List.setIfInBounds_toArray, List.set_cons_zero, List.set_cons_succ]
    refine wpAnyH_take (i := 6) (v := ?_) (by simp only [List.getElem?_toArray, List.getElem?_cons_succ, List.getElem?_cons_zero]; rfl) (by kernel_rfl) (by kernel_rfl) (by kernel_rfl) (fun _ _ _ h => h) (Or.inl ⟨by rfl, ?_⟩) (by assumption) ?_
    rotate_left 1
    · (intro w hSw; (try dsimp only at hSw); go_simp; (try with_reducible rfl))
    try simp only [Act.put, List.setIfInBounds_toArray, List.set_cons_zero, List.set_cons_succ]
    refine wpAnyH_take (i := 7) (v := ?_) (by simp only [List.getElem?_toArray, List.getElem?_cons_succ, List.getElem?_cons_zero]; rfl) (by kernel_rfl) (by kernel_rfl) (by kernel_rfl) (fun _ _ _ h => h) (Or.inl ⟨by rfl, ?_⟩) (by assumption) ?_
    rotate_left 1
    · (intro w hSw; (try dsimp only at hSw); go_simp; (try with_reducible rfl))
    try simp only [Act.put, List.setIfInBounds_toArray, List.set_cons_zero, List.set_cons_succ]
    refine wpAnyH_take (i := 8) (v := ?_) (by simp only [List.getElem?_toArray, List.getElem?_cons_succ, List.getElem?_cons_zero]; rfl) (by kernel_rfl) (by kernel_rfl) (by kernel_rfl) (fun _ _ _ h => h) (Or.inl ⟨by rfl, ?_⟩) (by assumption) ?_
    rotate_left 1
    · (intro w hSw; (try dsimp only at hSw); go_simp; (try with_reducible rfl))
    try simp only [Act.put, List.setIfInBounds_toArray, List.set_cons_zero, List.set_cons_succ]
    refine wpAnyH_take (i := 9) (v := ?_) (by simp only [List.getElem?_toArray, List.getElem?_cons_succ, List.getElem?_cons_zero]; rfl) (by kernel_rfl) (by kernel_rfl) (by kernel_rfl) (fun _ _ _ h => h) (Or.inl ⟨by rfl, ?_⟩) (by assumption) ?_
    rotate_left 1
    · (intro w hSw; (try dsimp only at hSw); go_simp; (try with_reducible rfl))
    try simp only [Act.put, List.setIfInBounds_toArray, List.set_cons_zero, List.set_cons_succ]
    refine wpAnyH_ready (rs := [10]) (by kernel_rfl) (by simp) ?_
    refine AllReadyH.cons (by simp only [List.getElem?_toArray, List.getElem?_cons_succ, List.getElem?_cons_zero]; rfl) (fun K hK => ?_) AllReadyH.nil
    refine step_appF etS (by rfl) _ _ (by rfl) (HTK.out.drew) (by rfl) (src_of_rd (P := Tryd.prog) w.drew Tryd.underlying25 ((OO.out.keep0 ((Keep.refl w Nul).drew)).from_ (k + 1) i6 (some ⟨gx, (k + 1) * 2, none⟩) (fun _ => rfl) (by simp)) (fun u hu => xcells_one _ _ DD.out.d u (List.mem_of_mem_drop hu))) (by rfl) (by simp only [maxLen]; omega) (by omega) ?_
    intro A5 c5 w3 r3 k3
    have hb3 := DD.out.b4.drew.keep k3 (fun e => e)
    have f10 := hb3.free 10
    have g10 := hb3.cell 10 (v := .slice (some ⟨gx, 0, none⟩) hd.exts.length co) rfl
    have l3 := hb3.lt
    refine hK.out _ _ (hb3.cell 10 rfl) (fun hHeld => ?_)
    clear hK K
    try simp only [Act.put, List.setIfInBounds_toArray, List.set_cons_zero, List.set_cons_succ]
    refine wpAnyH_take (i := 11) (v := ?_) (by simp only [List.getElem?_toArray, List.getElem?_cons_succ, List.getElem?_cons_zero]; rfl) (by kernel_rfl) (by kernel_rfl) (by kernel_rfl) (fun _ _ _ h => h) (Or.inl ⟨by rfl, ?_⟩) (by assumption) ?_
    rotate_left 1
    · (intro w hSw; (try dsimp only at hSw); go_simp; (try with_reducible rfl))
    try simp only [Act.put, List.setIfInBounds_toArray, List.set_cons_zero, List.set_cons_succ]
    refine wpAnyH_done (by kernel_rfl) ?_ _
    intro K hK
    go_simp
    refine hK _ _ (NoPanic.normal ?_)
    clear hK K
    have R3 := hide r3
    have K3 := hide k3
    have hml : (hd.exts.eraseIdx k).length = k + (hd.exts.length - (k + 1)) := by rw [List.length_eraseIdx, if_pos hk]; omega
    have HML := hide hml
    have HB3 := hide hb3
    clear r3 k3 hml hb3 hHeld f10 g10 z10 z2 z9 f4 l3
    generalize hm : k + (hd.exts.length - (k + 1)) = m at R3 HML ⊢
    generalize hw4 : World.setCell w3 _ _ = w4
    have kst : Keep w3 w4 (· = g4) := by subst hw4; exact Keep.set1 _ _ _ _
    have hb4 : Blk w4 g4 27 (hcells { hd with exts := hd.exts.eraseIdx k } (.slice As hd.srcs.length cs) (.slice A5 m c5)) := by subst hw4; exact HB3.out.set_ 10 _
    have HB4 := hide hb4
    have KST := hide kst
    have l44 := hb4.lt
    clear hw4 kst hb4 hm
    refine KK.out _ _ ?_
    go_upto_region 25 with fail
    have hdec : decide ((0 : Int) < (m : Int)) = decide (0 < (hd.exts.eraseIdx k).length) := by rw [HML.out]; exact decide_eq_decide.2 (by omega)
    exact part_use (do_r25 (by intro _ _ h; exact HQ.out _ _ h) w4 _ _ _ _ _ _ _ _ _ _ _ _ _ _ _ _ _ _ _ _ _ _ _ _ _ _ _ _ _ _ _ _ _ _ _ _ _ _ _ _ _ _ _ _ _ _ _ _ _ _ _ _ _ _ _ _ _ _ _ _ _ _ _ _ _ _ _ _ _ _ _ _ _ _ _ _ _ _ _ _ _ _ _ _ _ _ _ _ _ _ _ _ _ _ _ _ _ _ _ _ _ _ _ _ _ _ _ _ _ _ _ _ _ _ _ _ _ _ _ _ _ _ _ _ _ _ _ _ HB4.out (fun w' k' => by
      have hl4 := DD.out.l4
      rw [hdec]
      have hk : Keep w w' (fun i => i = g4) := ((((Keep.refl w Nul).drew).trans0 K3.out).nul (· = g4)).trans (KST.out.trans k' (fun _ _ e => e)) (fun _ _ e => e)
      have hS : ∀ i, (i = g4) → w0.heap.size ≤ i := fun i e => by omega
      have hp : ∀ i, i < w.heap.size → p i → ¬ (i = g4) := fun i _ hi e => by have := DD.out.pl i hi; omega
      refine DD.out.new (hd' := { hd with exts := hd.exts.eraseIdx k }) hk hS rfl ⟨ds.eraseIdx k, ((DD.out.d.keep hk hp).erase k).mono (fun _ _ h => .inl h), ?_⟩
      show Rd w' _ 2 _ (hd.exts.eraseIdx k).length (xcells (hd.exts.eraseIdx k) _)
      rw [HML.out, ← xcells_erase hd.exts ds k DD.out.d.1 HKL.out]
      exact ((R3.out.keep KST.out (fun q _ hq e => HNE.out q hq e)).keep k' (fun q _ hq e => HNE.out q hq e)).mono (fun q _ h => .inr (by rcases h with h | h; exact (OO.out.at_ q h).1; exact Nat.le_trans hsz h)))) rfl rfl (by assumption)
end Go.Proofs.YtdmnflngafbobaaDoor
namespace Go.Proofs.YtdmnflngafbobaaDoor
open Go.RowKit
set_option linter.unusedVariables false
set_option linter.unusedSimpArgs false
set_option maxRecDepth 100000

theorem do_walk {p : Nat → Prop} {v : Value} {hd : Hd} {s : St} {A : Option Addr} {n c : Nat} (w : World) (hh : HV w p v hd) (hR : Rd w p 1 (.slice A n c) n (B8 s.data)) (hx : hd.exts.length ≤ 1000000) (hpl : ∀ k, p k → k < w.heap.size) :
    Calls Tryd.prog 41 #[v, .agg (scells s.what s.id A n c s.prof)] w (DoR p w (doE hd s)) := by
  refine do_p0 w hh hR hx hpl ?_
  intro Q hq hqn
  intros
  rename_i w' g2 g3 g4 cs cx co As Ax Ao ds D
  have heb : hd.ext = false ∨ hd.ext = true := by cases hd.ext <;> simp
  by_cases h0 : s.what = 0
  · rcases heb with he | he
    · by_cases h1 : 1 ≤ n
      · by_cases h16 : n ≤ 16
        · cases hf : fitsB 48862 s.id n with
          | true => exact do_sA1 w' _ _ _ _ _ _ _ _ _ _ _ _ _ _ _ _ _ _ _ _ _ _ _ _ _ _ _ _ _ _ _ _ _ _ _ _ _ _ _ _ _ _ _ _ _ _ _ _ _ _ _ _ _ _ _ _ _ _ _ _ _ _ _ _ _ _ _ _ _ _ _ _ _ _ _ _ _ _ _ _ _ _ _ _ _ _ _ _ _ _ _ _ _ _ _ _ _ _ _ _ _ _ _ _ _ _ _ _ _ _ _ _ _ _ _ _ _ _ _ _ _ _ _ _ _ _ hq D h0 he h1 h16 hf
          | false => exact do_sA2 w' _ _ _ _ _ _ _ _ _ _ _ _ _ _ _ _ _ _ _ _ _ _ _ _ _ _ _ _ _ _ _ _ _ _ _ _ _ _ _ _ _ _ _ _ _ _ _ _ _ _ _ _ _ _ _ _ _ _ _ _ _ _ _ _ _ _ _ _ _ _ _ _ _ _ _ _ _ _ _ _ _ _ _ _ _ _ _ _ _ _ _ _ _ _ _ _ _ _ _ _ _ _ _ _ _ _ _ _ _ _ _ _ _ _ _ _ _ _ _ _ _ _ _ _ _ _ hq D h0 he h1 h16 hf
        · cases hf : fitsB 4096 s.id n with
          | true => exact do_sA3 w' _ _ _ _ _ _ _ _ _ _ _ _ _ _ _ _ _ _ _ _ _ _ _ _ _ _ _ _ _ _ _ _ _ _ _ _ _ _ _ _ _ _ _ _ _ _ _ _ _ _ _ _ _ _ _ _ _ _ _ _ _ _ _ _ _ _ _ _ _ _ _ _ _ _ _ _ _ _ _ _ _ _ _ _ _ _ _ _ _ _ _ _ _ _ _ _ _ _ _ _ _ _ _ _ _ _ _ _ _ _ _ _ _ _ _ _ _ _ _ _ _ _ _ _ _ _ hq D h0 he (by omega) hf
          | false => exact do_sA4 w' _ _ _ _ _ _ _ _ _ _ _ _ _ _ _ _ _ _ _ _ _ _ _ _ _ _ _ _ _ _ _ _ _ _ _ _ _ _ _ _ _ _ _ _ _ _ _ _ _ _ _ _ _ _ _ _ _ _ _ _ _ _ _ _ _ _ _ _ _ _ _ _ _ _ _ _ _ _ _ _ _ _ _ _ _ _ _ _ _ _ _ _ _ _ _ _ _ _ _ _ _ _ _ _ _ _ _ _ _ _ _ _ _ _ _ _ _ _ _ _ _ _ _ _ _ _ hq D h0 he (by omega) hf
      · exact do_sA5 w' _ _ _ _ _ _ _ _ _ _ _ _ _ _ _ _ _ _ _ _ _ _ _ _ _ _ _ _ _ _ _ _ _ _ _ _ _ _ _ _ _ _ _ _ _ _ _ _ _ _ _ _ _ _ _ _ _ _ _ _ _ _ _ _ _ _ _ _ _ _ _ _ _ _ _ _ _ _ _ _ _ _ _ _ _ _ _ _ _ _ _ _ _ _ _ _ _ _ _ _ _ _ _ _ _ _ _ _ _ _ _ _ _ _ _ _ _ _ _ _ _ _ _ _ _ _ hq D h0 he (by omega)
    · cases hf : fitsB hd.prof s.id n with
      | false => exact do_sB1 w' _ _ _ _ _ _ _ _ _ _ _ _ _ _ _ _ _ _ _ _ _ _ _ _ _ _ _ _ _ _ _ _ _ _ _ _ _ _ _ _ _ _ _ _ _ _ _ _ _ _ _ _ _ _ _ _ _ _ _ _ _ _ _ _ _ _ _ _ _ _ _ _ _ _ _ _ _ _ _ _ _ _ _ _ _ _ _ _ _ _ _ _ _ _ _ _ _ _ _ _ _ _ _ _ _ _ _ _ _ _ _ _ _ _ _ _ _ _ _ _ _ _ _ _ _ _ hq D h0 he hf
      | true =>
        obtain ⟨r, hfi⟩ : ∃ r, fi hd.exts s.id = r := ⟨_, rfl⟩
        cases r with
        | none => exact do_sB2 w' _ _ _ _ _ _ _ _ _ _ _ _ _ _ _ _ _ _ _ _ _ _ _ _ _ _ _ _ _ _ _ _ _ _ _ _ _ _ _ _ _ _ _ _ _ _ _ _ _ _ _ _ _ _ _ _ _ _ _ _ _ _ _ _ _ _ _ _ _ _ _ _ _ _ _ _ _ _ _ _ _ _ _ _ _ _ _ _ _ _ _ _ _ _ _ _ _ _ _ _ _ _ _ _ _ _ _ _ _ _ _ _ _ _ _ _ _ _ _ _ _ _ _ _ _ hq D h0 he hf hfi hx
        | some k => exact do_sB3 w' _ _ _ _ _ _ _ _ _ _ _ _ _ _ _ _ _ _ _ _ _ _ _ _ _ _ _ _ _ _ _ _ _ _ _ _ _ _ _ _ _ _ _ _ _ _ _ _ _ _ _ _ _ _ _ _ _ _ _ _ _ _ _ _ _ _ _ _ _ _ _ _ _ _ _ _ _ _ _ _ _ _ _ _ _ _ _ _ _ _ _ _ _ _ _ _ _ _ _ _ _ _ _ _ _ _ _ _ _ _ _ _ _ _ _ _ _ _ _ _ _ _ _ _ _ hq D h0 he hf hfi hx
  · by_cases h2 : s.what = 2
    · rcases heb with he | he
      · exact do_sC1 w' _ _ _ _ _ _ _ _ _ _ _ _ _ _ _ _ _ _ _ _ _ _ _ _ _ _ _ _ _ _ _ _ _ _ _ _ _ _ _ _ _ _ _ _ _ _ _ _ _ _ _ _ _ _ _ _ _ _ _ _ _ _ _ _ _ _ _ _ _ _ _ _ _ _ _ _ _ _ _ _ _ _ _ _ _ _ _ _ _ _ _ _ _ _ _ _ _ _ _ _ _ _ _ _ _ _ _ _ _ _ _ _ _ _ _ _ _ _ _ _ _ _ _ _ _ _ hq D h2 he
      · obtain ⟨r, hfi⟩ : ∃ r, fi hd.exts s.id = r := ⟨_, rfl⟩
        cases r with
        | none => exact do_sC2 w' _ _ _ _ _ _ _ _ _ _ _ _ _ _ _ _ _ _ _ _ _ _ _ _ _ _ _ _ _ _ _ _ _ _ _ _ _ _ _ _ _ _ _ _ _ _ _ _ _ _ _ _ _ _ _ _ _ _ _ _ _ _ _ _ _ _ _ _ _ _ _ _ _ _ _ _ _ _ _ _ _ _ _ _ _ _ _ _ _ _ _ _ _ _ _ _ _ _ _ _ _ _ _ _ _ _ _ _ _ _ _ _ _ _ _ _ _ _ _ _ _ _ _ _ _ hq D h2 he hfi
        | some k => exact do_sC3 w' _ _ _ _ _ _ _ _ _ _ _ _ _ _ _ _ _ _ _ _ _ _ _ _ _ _ _ _ _ _ _ _ _ _ _ _ _ _ _ _ _ _ _ _ _ _ _ _ _ _ _ _ _ _ _ _ _ _ _ _ _ _ _ _ _ _ _ _ _ _ _ _ _ _ _ _ _ _ _ _ _ _ _ _ _ _ _ _ _ _ _ _ _ _ _ _ _ _ _ _ _ _ _ _ _ _ _ _ _ _ _ _ _ _ _ _ _ _ _ _ _ _ _ _ _ hq D h2 he hfi hx
    · by_cases h3 : s.what = 3
      · exact do_sD w' _ _ _ _ _ _ _ _ _ _ _ _ _ _ _ _ _ _ _ _ _ _ _ _ _ _ _ _ _ _ _ _ _ _ _ _ _ _ _ _ _ _ _ _ _ _ _ _ _ _ _ _ _ _ _ _ _ _ _ _ _ _ _ _ _ _ _ _ _ _ _ _ _ _ _ _ _ _ _ _ _ _ _ _ _ _ _ _ _ _ _ _ _ _ _ _ _ _ _ _ _ _ _ _ _ _ _ _ _ _ _ _ _ _ _ _ _ _ _ _ _ _ _ _ _ _ hq D h3
      · exact do_sE w' _ _ _ _ _ _ _ _ _ _ _ _ _ _ _ _ _ _ _ _ _ _ _ _ _ _ _ _ _ _ _ _ _ _ _ _ _ _ _ _ _ _ _ _ _ _ _ _ _ _ _ _ _ _ _ _ _ _ _ _ _ _ _ _ _ _ _ _ _ _ _ _ _ _ _ _ _ _ _ _ _ _ _ _ _ _ _ _ _ _ _ _ _ _ _ _ _ _ _ _ _ _ _ _ _ _ _ _ _ _ _ _ _ _ _ _ _ _ _ _ _ _ _ _ _ _ hq hqn D h0 h2 h3
end Go.Proofs.YtdmnflngafbobaaDoor
