/-
  The law FnSteps: a step of the reference taken over. Conditions: those that stand in each theorem.
-/
import Derived.Test.YtdmnflngafbobaaDoorGDo
import Derived.Test.YtdmnflngafbobaaDoorGSt
import Derived.Test.YtdmnflngafbobaaDoorArgss
import Derived.Test.YtdmnflngafbobaaDoorGPk
import Derived.Deep.DeepCutAuto
import Derived.Test.YtdmnflngafbobaaDoorWorks
import Derived.Test.YtdmnflngafbobaaDoorGiven
import Derived.Test.YtdmnflngafbobaaDoorSame
import Derived.Deep.QuietTactic
import Derived.BigQuiet
namespace Go.Proofs.YtdmnflngafbobaaDoor
open Go.RowKit
set_option linter.unusedVariables false
set_option linter.unusedSimpArgs false
set_option maxRecDepth 100000

theorem step_stRow {P : Program} {w : World} {ops : Array Oper} {o : Oper} {a : Act} {K : Act → World → Prop} {Q : Exit → Act → World → Prop} {E : Prop} {ty t : TypeId} {p x : Operand} {g : Nat} {old cs : Array Value} (hgd : o.guard = none) (ho : o.op = .store ty p x) (hp : a.eval p = .pointer (some ⟨g, 0, none⟩)) (hx : a.eval x = .agg cs) (hb : Blk w g t old)
    (hi : (P.info? ty).map (·.size) = some cs.size) (hs : old.size = cs.size) (h1 : cs.all (·.oneCell') = true) (h : ∀ w', Blk w' g t cs → Keep w w' (· = g) → K (a.put o.dst undef) w') :
    if Region.wanted o (yielded ops a.tmps) = true then Oper.wp P o a w K Q else E := by
  have hw : Region.wanted o (yielded ops a.tmps) = true := by simp [Region.wanted, hgd]
  rw [if_pos hw]
  exact wp_stRow ho hp hx hb hi hs h1 h

set_option maxHeartbeats 6400000 in
theorem stp_p13 {Q : Exit → Act → World → Prop} {b b' : Hd} {g7 g12 n1 c1 n2 c2 B k c9 : Nat} {A1 A2 A9 : Option Addr} {s7 x7 : Value} {ok : Bool} {bs : List Value} (w : World) (u0 u1 u2 u3 u4 u5 u6 u8 u10 u11 u14 u15 u16 u17 u18 u19 u20 u21 u22 u23 u24 u25 u26 u27 u28 u29 u30 u31 u32 u33 u34 u35 u36 u37 u38 u39 u40 u41 u42 u43 u44 u45 u46 u47 u48 u49 u50 u51 u52 u53 u54 u55 u56 u57 u58 u59 u60 u61 u62 u63 u64 u65 u66 u67 u68 u69 u70 u71 u72 u73 u74 u75 u76 u77 u78 u79 u80 u81 u82 u83 u84 u85 u86 u87 u88 u89 u90 u91 u92 u93 u94 u95 u96 u97 u98 u99 u100 u101 u102 u103 u104 u105 u106 u107 u108 u109 u110 u111 u112 u113 u114 u115 u116 u117 u118 u119 u120 u121 : Value)
    (h12 : Blk w g12 27 (hcells b' (.slice A1 n1 c1) (.slice A2 n2 c2))) (h7 : Blk w g7 27 (hcells b s7 x7)) (ho : Own w B 4 1 (.slice A9 k c9) k bs) (hk : k ≤ 100) (hB : B ≤ w.heap.size) (hg : g12 ≠ g7)
    (hQ : ∀ (w' : World) (v77 v78 v79 v80 v81 : Value) (A' : Option Addr) (c' : Nat), Own w' B 4 1 (.slice A' (k + 1) c') (k + 1) (bs ++ [.bool ok]) → (∀ q, (Value.slice A' (k + 1) c').ownBlock = some q → (Value.slice A9 k c9).ownBlock = some q ∨ w.heap.size ≤ q) → Blk w' g7 27 (hcells b' (.slice A1 n1 c1) (.slice A2 n2 c2)) → Keep w w' (fun q => q = g7 ∨ (Value.slice A9 k c9).ownBlock = some q) →
      (yOf (fromR Tryd.f12 13)).wp Tryd.prog Q ⟨List.toArray (u0 :: u1 :: u2 :: u3 :: u4 :: u5 :: u6 :: .pointer (some ⟨g7, 0, none⟩) :: u8 :: .slice A' (k + 1) c' :: u10 :: u11 :: .pointer (some ⟨g12, 0, none⟩) :: .bool ok :: u14 :: u15 :: u16 :: u17 :: u18 :: u19 :: u20 :: u21 :: u22 :: u23 :: u24 :: u25 :: u26 :: u27 :: u28 :: u29 :: u30 :: u31 :: u32 :: u33 :: u34 :: u35 :: u36 :: u37 :: u38 :: u39 :: u40 :: u41 :: u42 :: u43 :: u44 :: u45 :: u46 :: u47 :: u48 :: u49 :: u50 :: u51 :: u52 :: u53 :: u54 :: u55 :: u56 :: u57 :: u58 :: u59 :: u60 :: u61 :: u62 :: u63 :: u64 :: u65 :: u66 :: u67 :: u68 :: u69 :: u70 :: u71 :: u72 :: u73 :: u74 :: u75 :: u76 :: v77 :: v78 :: v79 :: v80 :: v81 :: u82 :: u83 :: u84 :: u85 :: u86 :: u87 :: u88 :: u89 :: u90 :: u91 :: u92 :: u93 :: u94 :: u95 :: u96 :: u97 :: u98 :: u99 :: u100 :: u101 :: u102 :: u103 :: u104 :: u105 :: u106 :: u107 :: u108 :: u109 :: u110 :: u111 :: u112 :: u113 :: u114 :: u115 :: u116 :: u117 :: u118 :: u119 :: u120 :: u121 :: []), []⟩ w') :
    Part Tryd.prog Tryd.f12 13 Q ⟨List.toArray (u0 :: u1 :: u2 :: u3 :: u4 :: u5 :: u6 :: .pointer (some ⟨g7, 0, none⟩) :: u8 :: .slice A9 k c9 :: u10 :: u11 :: .pointer (some ⟨g12, 0, none⟩) :: .bool ok :: u14 :: u15 :: u16 :: u17 :: u18 :: u19 :: u20 :: u21 :: u22 :: u23 :: u24 :: u25 :: u26 :: u27 :: u28 :: u29 :: u30 :: u31 :: u32 :: u33 :: u34 :: u35 :: u36 :: u37 :: u38 :: u39 :: u40 :: u41 :: u42 :: u43 :: u44 :: u45 :: u46 :: u47 :: u48 :: u49 :: u50 :: u51 :: u52 :: u53 :: u54 :: u55 :: u56 :: u57 :: u58 :: u59 :: u60 :: u61 :: u62 :: u63 :: u64 :: u65 :: u66 :: u67 :: u68 :: u69 :: u70 :: u71 :: u72 :: u73 :: u74 :: u75 :: u76 :: u77 :: u78 :: u79 :: u80 :: u81 :: u82 :: u83 :: u84 :: u85 :: u86 :: u87 :: u88 :: u89 :: u90 :: u91 :: u92 :: u93 :: u94 :: u95 :: u96 :: u97 :: u98 :: u99 :: u100 :: u101 :: u102 :: u103 :: u104 :: u105 :: u106 :: u107 :: u108 :: u109 :: u110 :: u111 :: u112 :: u113 :: u114 :: u115 :: u116 :: u117 :: u118 :: u119 :: u120 :: u121 :: []), []⟩ w := by
  have HQ := hide hQ
  have B12 := hide h12
  have B7 := hide h7
  have O9 := hide ho
  have HN9 := hide (show ¬ (Value.slice A9 k c9).ownBlock = some g7 from ho.ne_ h7 (by decide))
  have HN12 := hide (show ¬ (Value.slice A9 k c9).ownBlock = some g12 from ho.ne_ h12 (by decide))
  have SO := hide (show ∀ w', Blk w' g12 27 (hcells b' (.slice A1 n1 c1) (.slice A2 n2 c2)) → (w'.cell? ⟨g12, 0, none⟩ = some (.int .u8 b'.v) ∧ w'.cell? ⟨g12, 1, none⟩ = some (.bool b'.pad) ∧ w'.cell? ⟨g12, 2, none⟩ = some (.bool b'.ext) ∧ w'.cell? ⟨g12, 3, none⟩ = some (.bool b'.mark) ∧ w'.cell? ⟨g12, 4, none⟩ = some (.int .u8 b'.ty) ∧ w'.cell? ⟨g12, 5, none⟩ = some (.int .u16 b'.seq) ∧ w'.cell? ⟨g12, 6, none⟩ = some (.int .u32 b'.time) ∧ w'.cell? ⟨g12, 7, none⟩ = some (.int .u32 b'.ssrc) ∧ w'.cell? ⟨g12, 8, none⟩ = some (.slice A1 n1 c1) ∧ w'.cell? ⟨g12, 9, none⟩ = some (.int .u16 b'.prof) ∧ w'.cell? ⟨g12, 10, none⟩ = some (.slice A2 n2 c2) ∧ w'.cell? ⟨g12, 11, none⟩ = some (.int .u8 b'.padn)) from fun w' h => hc12 h)
  clear hQ ho
  refine part_open (fun c0 hc K hK => ?_)
  have HK := hide hK
  clear hK
  generalize hfr : yOf c0 = yy at HK
  have hyy : yOf (fromR Tryd.f12 13) = yy := by rw [← hc]; exact hfr
  conv at hc => rhs; whnf
  subst hc
  clear hfr
  dsimp only [xOf, yOf]
  refine wp_region_noPanic ?_
  refine region_last2' (S := fun w' => w'.cell? ⟨g12, 0, none⟩ = some (.int .u8 b'.v) ∧ w'.cell? ⟨g12, 1, none⟩ = some (.bool b'.pad) ∧ w'.cell? ⟨g12, 2, none⟩ = some (.bool b'.ext) ∧ w'.cell? ⟨g12, 3, none⟩ = some (.bool b'.mark) ∧ w'.cell? ⟨g12, 4, none⟩ = some (.int .u8 b'.ty) ∧ w'.cell? ⟨g12, 5, none⟩ = some (.int .u16 b'.seq) ∧ w'.cell? ⟨g12, 6, none⟩ = some (.int .u32 b'.time) ∧ w'.cell? ⟨g12, 7, none⟩ = some (.int .u32 b'.ssrc) ∧ w'.cell? ⟨g12, 8, none⟩ = some (.slice A1 n1 c1) ∧ w'.cell? ⟨g12, 9, none⟩ = some (.int .u16 b'.prof) ∧ w'.cell? ⟨g12, 10, none⟩ = some (.slice A2 n2 c2) ∧ w'.cell? ⟨g12, 11, none⟩ = some (.int .u8 b'.padn)) (by kernel_rfl) (by kernel_rfl) (by simp only [List.dropLast_cons_cons, List.dropLast_singleton]; rfl) (by simp only [List.getLast?_cons_cons, List.getLast?_singleton]; rfl) (SO.out _ B12.out.drew) (fun hHeld => ?_)
  simp only [List.length_cons, List.length_nil, Nat.reduceAdd, Nat.zero_add]
  refine wpAnyH_take (i := 0) (v := ?_) (by simp only [List.getElem?_toArray, List.getElem?_cons_succ, List.getElem?_cons_zero]; rfl) (by kernel_rfl) (by kernel_rfl) (by kernel_rfl) (fun _ _ _ h => h) (Or.inl ⟨by rfl, ?_⟩) (by assumption) ?_
  rotate_left 1
  · (intro w hSw; (try dsimp only at hSw); go_simp; (try with_reducible rfl))
  try simp only [Act.put, List.setIfInBounds_toArray, List.set_cons_zero, List.set_cons_succ]
  refine wpAnyH_take (i := 1) (v := ?_) (by simp only [List.getElem?_toArray, List.getElem?_cons_succ, List.getElem?_cons_zero]; rfl) (by kernel_rfl) (by kernel_rfl) (by kernel_rfl) (fun _ _ _ h => h) (Or.inl ⟨by rfl, ?_⟩) (by assumption) ?_
  rotate_left 1
  · (intro w hSw; (try dsimp only at hSw); go_simp; (try with_reducible rfl))
  try simp only [Act.put, List.setIfInBounds_toArray, List.set_cons_zero, List.set_cons_succ]
  refine wpAnyH_take (i := 2) (v := ?_) (by simp only [List.getElem?_toArray, List.getElem?_cons_succ, List.getElem?_cons_zero]; rfl) (by kernel_rfl) (by kernel_rfl) (by kernel_rfl) (fun _ _ _ h => h) (Or.inl ⟨by rfl, ?_⟩) (by assumption) ?_
  rotate_left 1
  · (intro w hSw; (try dsimp only at hSw); go_simp; (try with_reducible rfl))
  try simp only [Act.put, List.setIfInBounds_toArray, List.set_cons_zero, List.set_cons_succ]
  refine wpAnyH_ready (rs := [3]) (by kernel_rfl) (by simp) ?_
  refine AllReadyH.cons (by simp only [List.getElem?_toArray, List.getElem?_cons_succ, List.getElem?_cons_zero]; rfl) (fun K hK => ?_) AllReadyH.nil
  go_simp
  refine hK.out _ _ (SO.out _ (B12.out.alloc _).drew) (fun hHeld => ?_)
  clear hK K
  try simp only [Act.put, List.setIfInBounds_toArray, List.set_cons_zero, List.set_cons_succ]
  refine wpAnyH_ready (rs := [4]) (by kernel_rfl) (by simp) ?_
  refine AllReadyH.cons (by simp only [List.getElem?_toArray, List.getElem?_cons_succ, List.getElem?_cons_zero]; rfl) (fun K hK => ?_) AllReadyH.nil
  refine step_app etBo (by rfl) _ _ (by rfl) ((O9.out.alloc (.cells #[.bool ok] 4)).keep0 ((Keep.refl _ Nul).drew)) (by rfl) (src_one (w := w.drew) (cs := #[.bool ok]) Tryd.underlying71 rfl rfl (by simp [Value.oneCell'])) (by rfl) (by simp only [maxLen]; omega) (by omega) (by have : (w.alloc (.cells #[.bool ok] 4)).drew.heap.size = w.heap.size + 1 := World.size_alloc _ _; omega) ?_
  intro v3 w3 o3 k3 b3 z3 _
  have kw : Keep w w3 (fun q => (Value.slice A9 k c9).ownBlock = some q) := (((Keep.refl w (fun q => (Value.slice A9 k c9).ownBlock = some q)).alloc (.cells #[.bool ok] 4)).drew).trans k3 (fun _ _ e => e)
  have b12 := B12.out.keep kw HN12.out
  have b7 := B7.out.keep kw HN9.out
  have hoB : ∀ q, v3.ownBlock = some q → (Value.slice A9 k c9).ownBlock = some q ∨ w.heap.size ≤ q := fun q hq => by
    rcases b3 with b3 | b3
    · exact .inl (b3 ▸ hq)
    · rw [b3] at hq
      have : (w.alloc (.cells #[.bool ok] 4)).drew.heap.size = w.heap.size + 1 := World.size_alloc _ _
      injection hq with hq
      exact .inr (by omega)
  refine hK.out _ _ (SO.out _ b12) (fun hHeld => ?_)
  clear hK K
  try simp only [Act.put, List.setIfInBounds_toArray, List.set_cons_zero, List.set_cons_succ]
  refine wpAnyH_ready (rs := [5]) (by kernel_rfl) (by simp) ?_
  refine AllReadyH.cons (by simp only [List.getElem?_toArray, List.getElem?_cons_succ, List.getElem?_cons_zero]; rfl) (fun K hK => ?_) AllReadyH.nil
  refine step_stRow (cs := hcells b' (.slice A1 n1 c1) (.slice A2 n2 c2)) (by rfl) (by rfl) (by rfl) (by rfl) b7 (by kernel_rfl) rfl (by simp [hcells, Value.oneCell']) ?_
  intro w4 b4 k4
  have b124 := b12.keep k4 (fun e => hg e)
  have o4 := o3.keep k4 (fun q hq e => (o3.ne_ b7 (by decide)) (e ▸ hq))
  have kw4 : Keep w w4 (fun q => q = g7 ∨ (Value.slice A9 k c9).ownBlock = some q) := (kw.mono (fun _ _ e => .inr e)).trans k4 (fun _ _ e => .inl e)
  refine hK.out _ _ (SO.out _ b124) (fun hHeld => ?_)
  clear hK K
  try simp only [Act.put, List.setIfInBounds_toArray, List.set_cons_zero, List.set_cons_succ]
  refine wpAnyH_done (by kernel_rfl) ?_ _
  intro K hK
  obtain ⟨A', c', rfl⟩ := o4.rd.shape
  go_simp
  refine hK _ _ (NoPanic.normal ?_)
  clear hK K
  refine HK.out _ _ ?_
  rw [← hyy]
  exact HQ.out w4 _ _ _ _ _ A' c' o4 hoB b4 kw4
end Go.Proofs.YtdmnflngafbobaaDoor
namespace Go.Proofs.YtdmnflngafbobaaDoor
open Go.RowKit
set_option linter.unusedVariables false
set_option linter.unusedSimpArgs false
set_option maxRecDepth 100000

theorem stc_snoc : ∀ (ss : List St) (ds : List Value) (s : St) (d : Value), ds.length = ss.length → stc (ss ++ [s]) (ds ++ [d]) = stc ss ds ++ [.int .i64 s.what, .int .u8 s.id, d, .int .u16 s.prof]
  | [], [], _, _, _ => rfl
  | t :: ss, e :: ds, s, d, h => by
    have := stc_snoc ss ds s d (by simpa using h)
    simp only [List.cons_append, stc, this]
  | [], _ :: _, _, _, h => by simp at h
  | _ :: _, [], _, _, h => by simp at h
theorem etIS : ET Tryd.prog 70 76 (.agg #[.int .i64 0, .int .u8 0, .slice none 0 0, .int .u16 0]) 4 48 := ⟨Tryd.underlying70, by kernel_rfl, rfl, by decide⟩

/-- What stands in memory at the head of the loop, when k steps are done. -/
structure LS (w0 w : World) (B g7 : Nat) (hd : Hd) (ss : List St) (k : Nat) (b : Hd) (A1 : Option Addr) (n1 c1 : Nat) (A2 : Option Addr) (n2 c2 : Nat) (A8 : Option Addr) (c8 : Nat) (A9 : Option Addr) (c9 : Nat) (ds : List Value) : Prop where
  kp : Keep w0 w (B ≤ ·)
  gB : B ≤ g7
  wB : B ≤ w.heap.size
  rl : Rl (runE hd (ss.take k)).1 b
  b7 : Blk w g7 27 (hcells b (.slice A1 n1 c1) (.slice A2 n2 c2))
  hv : HV w (fun q => q ≠ g7 ∧ (Value.slice A8 k c8).ownBlock ≠ some q ∧ (Value.slice A9 k c9).ownBlock ≠ some q) (.agg (hcells b (.slice A1 n1 c1) (.slice A2 n2 c2))) b
  o9 : Own w B 4 1 (.slice A9 k c9) k (Bs (runE hd (ss.take k)).2)
  o8 : Own w B 76 4 (.slice A8 k c8) k (stc (ss.take k) ds)
  dl : ds.length = (ss.take k).length
  dr : ∀ (j : Nat) (s : St) (d : Value), (ss.take k)[j]? = some s → ds[j]? = some d → Rd w (· < B) 1 d s.data.length (B8 s.data)
  w3 : ∀ s ∈ ss.take k, s.what = 0 ∨ s.what = 2 ∨ s.what = 3

theorem LS.keep0 {w0 w w' : World} {B g7 : Nat} {hd : Hd} {ss : List St} {k : Nat} {b : Hd} {A1 : Option Addr} {n1 c1 : Nat} {A2 : Option Addr} {n2 c2 : Nat} {A8 : Option Addr} {c8 : Nat} {A9 : Option Addr} {c9 : Nat} {ds : List Value}
    (L : LS w0 w B g7 hd ss k b A1 n1 c1 A2 n2 c2 A8 c8 A9 c9 ds) (h : Keep w w' Nul) : LS w0 w' B g7 hd ss k b A1 n1 c1 A2 n2 c2 A8 c8 A9 c9 ds :=
  ⟨L.kp.trans0 h, L.gB, Nat.le_trans L.wB h.size, L.rl, L.b7.keep h (fun e => e), L.hv.keep0 h, L.o9.keep0 h, L.o8.keep0 h, L.dl, fun j s d h1 h2 => (L.dr j s d h1 h2).keep0 h, L.w3⟩

/-- A round that takes a step over. -/
theorem LS.next {w0 wr w11 w14 : World} {B g7 : Nat} {hd : Hd} {ss : List St} {k : Nat} {b b' : Hd} {A1 : Option Addr} {n1 c1 : Nat} {A2 : Option Addr} {n2 c2 : Nat} {A8 : Option Addr} {c8 : Nat} {A9 : Option Addr} {c9 : Nat} {ds : List Value} {s : St} {ok : Bool}
    {A1' : Option Addr} {n1' c1' : Nat} {A2' : Option Addr} {n2' c2' : Nat} {A8' : Option Addr} {c8' : Nat} {A9' : Option Addr} {c9' : Nat} {Ad : Option Addr} {cd : Nat} {S : Nat → Prop} {w10 : World}
    (L : LS w0 wr B g7 hd ss k b A1 n1 c1 A2 n2 c2 A8 c8 A9 c9 ds) (hs : ss[k]? = some s) (hdo : doE b s = (b', ok, true)) (hz : s.what = 0 → s.data.length ≠ 0)
    (hrd : Rd wr (· < B) 1 (.slice Ad s.data.length cd) s.data.length (B8 s.data))
    (k10 : Keep wr w10 Nul) (k11 : Keep w10 w11 Nul) (hv : HV w11 (fun q => ((q ≠ g7 ∧ (Value.slice A8 k c8).ownBlock ≠ some q ∧ (Value.slice A9 k c9).ownBlock ≠ some q) ∧ q < wr.heap.size) ∨ w10.heap.size ≤ q) (.agg (hcells b' (.slice A1' n1' c1') (.slice A2' n2' c2'))) b')
    (k14 : Keep w11 w14 S) (hS : ∀ q, S q → q = g7 ∨ (Value.slice A8 k c8).ownBlock = some q ∨ (Value.slice A9 k c9).ownBlock = some q)
    (b7 : Blk w14 g7 27 (hcells b' (.slice A1' n1' c1') (.slice A2' n2' c2')))
    (o9 : Own w14 B 4 1 (.slice A9' (k + 1) c9') (k + 1) (Bs (runE hd (ss.take k)).2 ++ [.bool ok])) (h9 : ∀ q, (Value.slice A9' (k + 1) c9').ownBlock = some q → (Value.slice A9 k c9).ownBlock = some q ∨ w11.heap.size ≤ q)
    (o8 : Own w14 B 76 4 (.slice A8' (k + 1) c8') (k + 1) (stc (ss.take k) ds ++ [.int .i64 s.what, .int .u8 s.id, .slice Ad s.data.length cd, .int .u16 s.prof])) (h8 : ∀ q, (Value.slice A8' (k + 1) c8').ownBlock = some q → (Value.slice A8 k c8).ownBlock = some q ∨ w11.heap.size ≤ q) :
    LS w0 w14 B g7 hd ss (k + 1) b' A1' n1' c1' A2' n2' c2' A8' c8' A9' c9' (ds ++ [.slice Ad s.data.length cd]) := by
  have hlt : k < ss.length := (List.getElem?_eq_some_iff.1 hs).1
  have hsn : ss.take (k + 1) = ss.take k ++ [s] := by
    rw [List.take_succ_eq_append_getElem hlt, (List.getElem?_eq_some_iff.1 hs).2]
  have hrs := runE_snoc (ss.take k) hd s
  rw [← hsn] at hrs
  obtain ⟨m1, m2, m3⟩ := sim L.rl hdo hz
  have k011 := k10.trans0 k11
  have z1 := k10.size
  have z2 := k11.size
  have z3 := k14.size
  have hg7 := L.b7.lt
  have hSB : ∀ q, S q → B ≤ q := fun q hq => by
    rcases hS q hq with e | e | e
    · have := L.gB; omega
    · exact (L.o8.at_ q e).1
    · exact (L.o9.at_ q e).1
  have hSl : ∀ q, S q → q < wr.heap.size := fun q hq => by
    rcases hS q hq with e | e | e
    · omega
    · exact (L.o8.at_ q e).2.1
    · exact (L.o9.at_ q e).2.1
  have kall : Keep wr w14 (B ≤ ·) := (k011.nul (B ≤ ·)).trans k14 (fun i _ e => hSB i e)
  have hwB := L.wB
  refine ⟨L.kp.trans kall (fun _ _ e => e), L.gB, by omega, by rw [hrs]; exact m2, b7, ?_, ?_, ?_, ?_, ?_, ?_⟩
  · refine ((hv.mono (q := fun q => (((q ≠ g7 ∧ (Value.slice A8 k c8).ownBlock ≠ some q ∧ (Value.slice A9 k c9).ownBlock ≠ some q) ∧ q < wr.heap.size) ∨ w10.heap.size ≤ q) ∧ q < w11.heap.size) (fun q hq h => ⟨h, hq⟩)).keep k14 (fun q hq h e => ?_)).mono (fun q hq h => ?_)
    · have h1 := hSl q e
      have h2 := hS q e
      rcases h.1 with ⟨⟨a1, a2, a3⟩, a4⟩ | a
      · rcases h2 with h2 | h2 | h2
        · exact a1 h2
        · exact a2 h2
        · exact a3 h2
      · omega
    · obtain ⟨h1, h2⟩ := h
      have l8 := fun e => (L.o8.at_ q e).2.1
      have l9 := fun e => (L.o9.at_ q e).2.1
      rcases h1 with ⟨⟨a1, a2, a3⟩, a4⟩ | a
      · refine ⟨a1, fun e => ?_, fun e => ?_⟩
        · rcases h8 q e with h | h
          · exact a2 h
          · omega
        · rcases h9 q e with h | h
          · exact a3 h
          · omega
      · refine ⟨by omega, fun e => ?_, fun e => ?_⟩
        · rcases h8 q e with h | h
          · have := l8 h; omega
          · omega
        · rcases h9 q e with h | h
          · have := l9 h; omega
          · omega
  · rw [hrs]
    show Own _ _ _ _ _ _ (Bs ((runE hd (ss.take k)).2 ++ [(stepE (runE hd (ss.take k)).1 s).isSome]))
    rw [m1]
    unfold Bs
    rw [List.map_append]
    exact o9
  · rw [hsn, stc_snoc _ _ _ _ L.dl]
    exact o8
  · rw [hsn, List.length_append, List.length_append, L.dl]
    rfl
  · intro j t d h1 h2
    rw [hsn] at h1
    have hlen := L.dl
    by_cases hj : j < (ss.take k).length
    · rw [List.getElem?_append_left hj] at h1
      rw [List.getElem?_append_left (by omega)] at h2
      exact (L.dr j t d h1 h2).keep kall (fun i _ hi e => by have : B ≤ i := e; have : i < B := hi; omega)
    · rw [List.getElem?_append_right (by omega)] at h1 h2
      have hj0 : j - (ss.take k).length = 0 := by
        have := (List.getElem?_eq_some_iff.1 h1).1
        simpa using this
      rw [hlen] at h2
      rw [hj0] at h1 h2
      simp at h1 h2
      subst h1 h2
      exact hrd.keep kall (fun i _ hi e => by have : B ≤ i := e; have : i < B := hi; omega)
  · intro t ht
    rw [hsn] at ht
    rcases List.mem_append.1 ht with ht | ht
    · exact L.w3 t ht
    · simp at ht
      rw [ht]; exact m3
end Go.Proofs.YtdmnflngafbobaaDoor
namespace Go.Proofs.YtdmnflngafbobaaDoor
open Go.RowKit
set_option linter.unusedVariables false
set_option linter.unusedSimpArgs false
set_option maxRecDepth 100000

set_option maxHeartbeats 6400000 in
theorem stp_p8 {Q : Exit → Act → World → Prop} {hd : Hd} {ss : List St} {B g2 g7 n1 c1 n2 c2 cs c8 : Nat} {A1 A2 A8 As : Option Addr} (w : World) (u0 u3 u4 u5 u6 u10 u11 u12 u13 u14 u15 u16 u17 u18 u19 u20 u21 u22 u23 u24 u25 u26 u27 u28 u29 u30 u31 u32 u33 u34 u35 u36 u37 u38 u39 u40 u41 u42 u43 u44 u45 u46 u47 u48 u49 u50 u51 u52 u53 u54 u55 u56 u57 u58 u59 u60 u61 u62 u63 u64 u65 u66 u67 u68 u69 u70 u71 u72 u73 u74 u75 u76 u77 u78 u79 u80 u81 u82 u83 u84 u85 u86 u87 u88 u89 u90 u91 u92 u93 u94 u95 u96 u97 u98 u99 u100 u101 u102 u103 u104 u105 u106 u107 u108 u109 u110 u111 u112 u113 u114 u115 u116 u117 u118 u119 u120 u121 : Value)
    (L0 : LS w w B g7 hd ss 0 hd A1 n1 c1 A2 n2 c2 A8 c8 none 0 []) (hsr : SR w (· < B) (.slice As ss.length cs) ss) (hlen : ss.length ≤ 100) (hx : hd.exts.length ≤ 900000)
    (hQ : ∀ (u0 u3 u4 u5 u6 u10 u11 u12 u13 u14 u15 u16 u17 u18 u19 u20 u21 u22 u23 u24 u25 u26 u27 u28 u29 u30 u31 u32 u33 u34 u35 u36 u37 u38 u39 u40 u41 u42 u43 u44 u45 u46 u47 u48 u49 u50 u51 u52 u53 u54 u55 u56 u57 u58 u59 u60 u61 u62 u63 u64 u65 u66 u67 u68 u69 u70 u71 u72 u73 u74 u75 u76 u77 u78 u79 u80 u81 u82 u83 u84 u85 u86 u87 u88 u89 u90 u91 u92 u93 u94 u95 u96 u97 u98 u99 u100 u101 u102 u103 u104 u105 u106 u107 u108 u109 u110 u111 u112 u113 u114 u115 u116 u117 u118 u119 u120 u121 : Value) (w' : World) (k : Nat) (b : Hd) (A1 : Option Addr) (n1 c1 : Nat) (A2 : Option Addr) (n2 c2 : Nat) (A8 : Option Addr) (c8 : Nat) (A9 : Option Addr) (c9 : Nat) (ds : List Value), k ≤ ss.length → LS w w' B g7 hd ss k b A1 n1 c1 A2 n2 c2 A8 c8 A9 c9 ds →
      Q .normal ⟨List.toArray (u0 :: .slice As ss.length cs :: .pointer (some ⟨g2, 0, none⟩) :: u3 :: u4 :: u5 :: u6 :: .pointer (some ⟨g7, 0, none⟩) :: .slice A8 k c8 :: .slice A9 k c9 :: u10 :: u11 :: u12 :: u13 :: u14 :: u15 :: u16 :: u17 :: u18 :: u19 :: u20 :: u21 :: u22 :: u23 :: u24 :: u25 :: u26 :: u27 :: u28 :: u29 :: u30 :: u31 :: u32 :: u33 :: u34 :: u35 :: u36 :: u37 :: u38 :: u39 :: u40 :: u41 :: u42 :: u43 :: u44 :: u45 :: u46 :: u47 :: u48 :: u49 :: u50 :: u51 :: u52 :: u53 :: u54 :: u55 :: u56 :: u57 :: u58 :: u59 :: u60 :: u61 :: u62 :: u63 :: u64 :: u65 :: u66 :: u67 :: u68 :: u69 :: u70 :: u71 :: u72 :: u73 :: u74 :: u75 :: u76 :: u77 :: u78 :: u79 :: u80 :: u81 :: u82 :: u83 :: u84 :: u85 :: u86 :: u87 :: u88 :: u89 :: u90 :: u91 :: u92 :: u93 :: u94 :: u95 :: u96 :: u97 :: u98 :: u99 :: u100 :: u101 :: u102 :: u103 :: u104 :: u105 :: u106 :: u107 :: u108 :: u109 :: u110 :: u111 :: u112 :: u113 :: u114 :: u115 :: u116 :: u117 :: u118 :: u119 :: u120 :: u121 :: []), []⟩ w') :
    Part Tryd.prog Tryd.f12 8 Q ⟨List.toArray (u0 :: .slice As ss.length cs :: .pointer (some ⟨g2, 0, none⟩) :: u3 :: u4 :: u5 :: u6 :: .pointer (some ⟨g7, 0, none⟩) :: .slice A8 0 c8 :: .slice none 0 0 :: u10 :: u11 :: u12 :: u13 :: u14 :: u15 :: u16 :: u17 :: u18 :: u19 :: u20 :: u21 :: u22 :: u23 :: u24 :: u25 :: u26 :: u27 :: u28 :: u29 :: u30 :: u31 :: u32 :: u33 :: u34 :: u35 :: u36 :: u37 :: u38 :: u39 :: u40 :: u41 :: u42 :: u43 :: u44 :: u45 :: u46 :: u47 :: u48 :: u49 :: u50 :: u51 :: u52 :: u53 :: u54 :: u55 :: u56 :: u57 :: u58 :: u59 :: u60 :: u61 :: u62 :: u63 :: u64 :: u65 :: u66 :: u67 :: u68 :: u69 :: u70 :: u71 :: u72 :: u73 :: u74 :: u75 :: u76 :: u77 :: u78 :: u79 :: u80 :: u81 :: u82 :: u83 :: u84 :: u85 :: u86 :: u87 :: u88 :: u89 :: u90 :: u91 :: u92 :: u93 :: u94 :: u95 :: u96 :: u97 :: u98 :: u99 :: u100 :: u101 :: u102 :: u103 :: u104 :: u105 :: u106 :: u107 :: u108 :: u109 :: u110 :: u111 :: u112 :: u113 :: u114 :: u115 :: u116 :: u117 :: u118 :: u119 :: u120 :: u121 :: []), []⟩ w := by
  have HQ := hide hQ
  have HL0 := hide L0
  have HSR := hide hsr
  clear hQ L0 hsr
  refine part_open (fun c0 hc K hK => ?_)
  conv at hc => rhs; whnf
  subst hc
  dsimp only [xOf, yOf] at hK ⊢
  go_wp2_with fail
  go_loopw [8, 9, 47] (fun s8 s9 s47 wr => ∃ (k : Nat) (b : Hd) (A1 : Option Addr) (n1 c1 : Nat) (A2 : Option Addr) (n2 c2 : Nat) (A8 : Option Addr) (c8 : Nat) (A9 : Option Addr) (c9 : Nat) (ds : List Value), k ≤ ss.length ∧ s47 = .int .i64 (k : Int) ∧ s8 = .slice A8 k c8 ∧ s9 = .slice A9 k c9 ∧ LS w wr B g7 hd ss k b A1 n1 c1 A2 n2 c2 A8 c8 A9 c9 ds) (fun _ _ s47 _ => ss.length - (intOf s47).toNat)
  case atStart => exact ⟨0, hd, _, _, _, _, _, _, _, _, none, 0, [], Nat.zero_le _, rfl, rfl, rfl, HL0.out⟩
  case round =>
    obtain ⟨k, b, A1, n1, c1, A2, n2, c2, A8, c8, A9, c9, ds, hk, rfl, rfl, rfl, hL⟩ := hrel
    have LL := hide hL
    clear hL
    by_cases hlt : k < ss.length
    · have hsk : ss[k]? = some ss[k] := List.getElem?_eq_getElem _
      have hSRr := HSR.out.keep LL.out.kp (fun i _ (hi : i < B) e => by have : B ≤ i := e; omega)
      obtain ⟨bs, os, c', dv, hv, hbl, p0, p1, p2, p3, rdv⟩ := hSRr.at_ hsk
      injection hv with e1 _ e3
      subst e1 e3
      generalize ss[k] = s at *
      have HSK := hide hsk
      obtain ⟨Ad, cd, rfl⟩ := rdv.shape
      have RDV := hide rdv
      clear hsk rdv hSRr
      go_upto_region 11 with fail
      generalize hw10 : World.alloc wr _ = w10
      obtain ⟨g11, hg11⟩ : ∃ g11, g11 = wr.heap.size := ⟨_, rfl⟩
      rw [← hg11]
      have B11 := hide (show Blk w10 g11 73 (scells s.what s.id Ad s.data.length cd s.prof) by subst hw10 hg11; exact Blk.new wr _ _)
      have K10 := hide (show Keep wr w10 Nul by subst hw10; exact (Keep.refl wr Nul).alloc _)
      have hz10 : w10.heap.size = wr.heap.size + 1 := by subst hw10; exact World.size_alloc _ _
      have hg7l := LL.out.b7.lt
      have hg117 : g11 ≠ g7 := by omega
      have HG11 := hide hg11
      obtain ⟨⟨b', ok, sure⟩, hdo⟩ : ∃ r, doE b s = r := ⟨_, rfl⟩
      have hxb : b.exts.length ≤ 1000000 := by
        have e1 : b.exts = (runE hd (ss.take k)).1.exts := by rw [LL.out.rl.eq]
        have e2 := runE_len (ss.take k) hd
        have e3 : (ss.take k).length ≤ k := by rw [List.length_take]; omega
        rw [e1]; omega
      have hDo := hide (do_walk (p := fun q => (q ≠ g7 ∧ (Value.slice A8 k c8).ownBlock ≠ some q ∧ (Value.slice A9 k c9).ownBlock ≠ some q) ∧ q < wr.heap.size) (s := s) w10 ((LL.out.hv.mono (fun q hq h => ⟨h, hq⟩)).keep0 K10.out)
        ((RDV.out.mono (fun q hq (h : q < B) => ⟨⟨by have := LL.out.gB; omega, fun e => by have := (LL.out.o8.at_ q e).1; omega, fun e => by have := (LL.out.o9.at_ q e).1; omega⟩, hq⟩)).keep0 K10.out) hxb (fun q hq => by have := hq.2; omega))
      rw [hdo] at hDo
      have HDO := hide hdo
      obtain ⟨x0, x1, x2, x3, x4, x5, x6, x7, x8, x9, x10, x11⟩ := hc12 (LL.out.b7.keep K10.out (fun e => e))
      have s0 := B11.out.cell 0 (v := .int .i64 s.what) rfl
      have s1 := B11.out.cell 1 (v := .int .u8 s.id) rfl
      have s2 := B11.out.cell 2 (v := .slice Ad s.data.length cd) rfl
      have s3 := B11.out.cell 3 (v := .int .u16 s.prof) rfl
      have l7 : g7 < w10.heap.size := by omega
      have l11 : g11 < w10.heap.size := B11.out.lt
      clear hw10 hg11 hdo p0 p1 p2 p3
      go_wp2_with fail
      refine Calls.mono (show Calls _ _ #[.agg (hcells b (.slice A1 n1 c1) (.slice A2 n2 c2)), .agg (scells s.what s.id Ad s.data.length cd s.prof)] _ _ from hDo.out) ?_
      rintro e w11 ⟨k11, A1', n1', c1', A2', n2', c2', rfl, hv11⟩
      have K11 := hide k11
      have HV11 := hide hv11
      have B711 := hide ((LL.out.b7.keep K10.out (fun e => e)).keep k11 (fun e => e))
      have B111 := hide (B11.out.keep k11 (fun e => e))
      clear x0 x1 x2 x3 x4 x5 x6 x7 x8 x9 x10 x11 s0 s1 s2 s3 k11 hv11 hDo
      go_upto_region 12 with (refine wpList_stA rfl _ _ rfl rfl rfl (by kernel_rfl) rfl (by simp [hcells, Value.oneCell']) ?_)
      generalize hw12 : World.alloc w11 _ = w12
      obtain ⟨g12, hg12⟩ : ∃ g12, g12 = w11.heap.size := ⟨_, rfl⟩
      rw [← hg12]
      have B12 := hide (show Blk w12 g12 27 (hcells b' (.slice A1' n1' c1') (.slice A2' n2' c2')) by subst hw12 hg12; exact Blk.new w11 _ _)
      have K12 := hide (show Keep w11 w12 Nul by subst hw12; exact (Keep.refl w11 Nul).alloc _)
      have hz11 := K11.out.size
      have hz12 := K12.out.size
      have hg127 : g12 ≠ g7 := by omega
      have hg1211 : g12 ≠ g11 := by have := HG11.out; omega
      have HG12 := hide hg12
      have B1112 := hide (B111.out.keep K12.out (fun e => e))
      have s0 := B1112.out.cell 0 (v := .int .i64 s.what) rfl
      have s2 := B1112.out.cell 2 (v := .slice Ad s.data.length cd) rfl
      have l11' := B1112.out.lt
      clear hw12 hg12
      go_cut [76] from 58 to 76 (fun cc wx => wx = w12 ∧ (cc = .bool true ∨ (cc = .bool false ∧ sure = true ∧ (s.what = 0 → s.data.length ≠ 0) ∧ s.data.length ≤ 1000)))
      case first =>
        cases sure with
        | false =>
          go_wp2_with fail
          go_meet
          exact ⟨rfl, .inl rfl⟩
        | true =>
          by_cases hb : (1000 : Int) < (s.data.length : Int)
          · by_cases hw0 : s.what = 0
            · have e1 : (s.what == 0) = true := by simp [hw0]
              generalize hcq : ((s.data.length : Int) == 0) = cq
              clear hw0
              cases cq
              · go_wp2_with fail
                go_meet
                exact ⟨rfl, .inl rfl⟩
              · go_wp2_with fail
                go_meet
                exact ⟨rfl, .inl rfl⟩
            · have e1 : (s.what == 0) = false := by simpa using hw0
              clear hw0
              go_wp2_with fail
              go_meet
              exact ⟨rfl, .inl rfl⟩
          · have h1000 : s.data.length ≤ 1000 := by omega
            have H1000 := hide h1000
            clear h1000
            by_cases hw0 : s.what = 0
            · have e1 : (s.what == 0) = true := by simp [hw0]
              clear hw0
              by_cases hn0 : s.data.length = 0
              · have e2 : ((s.data.length : Int) == 0) = true := by simp [hn0]
                clear hn0
                go_wp2_with fail
                go_meet
                exact ⟨rfl, .inl rfl⟩
              · have e2 : ((s.data.length : Int) == 0) = false := beq_eq_false_iff_ne.2 (by omega)
                have HN0 := hide hn0
                clear hn0
                go_wp2_with fail
                go_meet
                exact ⟨rfl, .inr ⟨rfl, by first | rfl | trivial, fun _ => HN0.out, H1000.out⟩⟩
            · have e1 : (s.what == 0) = false := by simpa using hw0
              have HW0 := hide hw0
              clear hw0
              go_wp2_with fail
              go_meet
              exact ⟨rfl, .inr ⟨rfl, by first | rfl | trivial, fun h => (HW0.out h).elim, H1000.out⟩⟩
      case rest =>
        obtain ⟨rfl, hcut⟩ := hcut
        rcases hcut with rfl | ⟨rfl, rfl, hz, h1000⟩
        · go_wp2_with fail
          exact HQ.out _ _ _ _ _ _ _ _ _ _ _ _ _ _ _ _ _ _ _ _ _ _ _ _ _ _ _ _ _ _ _ _ _ _ _ _ _ _ _ _ _ _ _ _ _ _ _ _ _ _ _ _ _ _ _ _ _ _ _ _ _ _ _ _ _ _ _ _ _ _ _ _ _ _ _ _ _ _ _ _ _ _ _ _ _ _ _ _ _ _ _ _ _ _ _ _ _ _ _ _ _ _ _ _ _ _ _ _ _ _ _ _ _ _ _ _ _ _ k b A1 n1 c1 A2 n2 c2 A8 c8 A9 c9 ds hk (LL.out.keep0 ((K10.out.trans0 K11.out).trans0 K12.out))
        · go_upto_region 13 with fail
          have K1012 := hide ((K10.out.trans0 K11.out).trans0 K12.out)
          have O9 := hide (LL.out.o9.keep0 K1012.out)
          have O8 := hide (LL.out.o8.keep0 K1012.out)
          have HZ := hide hz
          clear hz
          refine part_use (stp_p13 (b := b) _ _ _ _ _ _ _ _ _ _ _ _ _ _ _ _ _ _ _ _ _ _ _ _ _ _ _ _ _ _ _ _ _ _ _ _ _ _ _ _ _ _ _ _ _ _ _ _ _ _ _ _ _ _ _ _ _ _ _ _ _ _ _ _ _ _ _ _ _ _ _ _ _ _ _ _ _ _ _ _ _ _ _ _ _ _ _ _ _ _ _ _ _ _ _ _ _ _ _ _ _ _ _ _ _ _ _ _ _ _ _ _ _ _ _ _ _ _ _ B12.out (B711.out.keep K12.out (fun e => e)) O9.out (by omega) (by have := LL.out.gB; omega) hg127 ?_) rfl rfl (by assumption)
          intro w13 v77 v78 v79 v80 v81 A9' c9' o9 h9 b7 k13
          have O9' := hide o9
          have H9' := hide h9
          have B713 := hide b7
          have K13 := hide k13
          have B1113 := hide (B1112.out.keep k13 (fun e => by
            rcases e with e | e
            · exact hg117 e
            · exact (O9.out.ne_ B1112.out (by decide)) e))
          have O813 := hide (O8.out.keep k13 (fun q hq e => by
            rcases e with e | e
            · exact (O8.out.ne_ (B711.out.keep K12.out (fun e => e)) (by decide)) (e ▸ hq)
            · exact (O8.out.ne_own O9.out (by decide) hq) e))
          have hz13 := k13.size
          have t0 := B1113.out.cell 0 (v := .int .i64 s.what) rfl
          have t1 := B1113.out.cell 1 (v := .int .u8 s.id) rfl
          have t2 := B1113.out.cell 2 (v := .slice Ad s.data.length cd) rfl
          have t3 := B1113.out.cell 3 (v := .int .u16 s.prof) rfl
          have l113 := B1113.out.lt
          have hBw : B ≤ w13.heap.size := by have := LL.out.gB; omega
          clear o9 h9 b7 k13 s0 s2
          generalize hc : fromR Tryd.f12 13 = c0
          conv at hc => lhs; whnf
          subst hc
          dsimp only [yOf]
          go_wp2_with (at_builtin; refine wpList_app etIS rfl _ _ rfl (O813.out.alloc _) rfl (src_one (w := w13) (cs := scells s.what s.id Ad s.data.length cd s.prof) Tryd.underlying70 (by first | rfl | simp only [World.size_alloc]) rfl (by simp [scells, Value.oneCell'])) rfl (by simp only [maxLen]; omega) (by omega) (by simp only [World.size_alloc]; omega) ?_; intro v14 w14 o14 k14 b14 z14 _; have O14 := hide o14; have K14 := hide k14; have H14 := hide b14; obtain ⟨A8', c8', rfl⟩ := O14.out.rd.shape; clear o14 k14 b14 z14)
          go_roundw
          case rel =>
            have kw14 : Keep w13 w14 (fun q => (Value.slice A8 k c8).ownBlock = some q) := ((Keep.refl w13 (fun q => (Value.slice A8 k c8).ownBlock = some q)).alloc (.cells (scells s.what s.id Ad s.data.length cd s.prof) 76)).trans K14.out (fun _ _ e => e)
            have h78 : ¬ (Value.slice A8 k c8).ownBlock = some g7 := O8.out.ne_ (B711.out.keep K12.out (fun e => e)) (by decide)
            have L2 := LL.out.next (w10 := w10) (w11 := w11) (w14 := w14) (S := fun q => q = g7 ∨ (Value.slice A8 k c8).ownBlock = some q ∨ (Value.slice A9 k c9).ownBlock = some q) (A8' := A8') (c8' := c8') (A9' := A9') (c9' := c9') HSK.out HDO.out HZ.out RDV.out K10.out K11.out HV11.out
              (((K12.out.nul (fun q => q = g7 ∨ (Value.slice A8 k c8).ownBlock = some q ∨ (Value.slice A9 k c9).ownBlock = some q)).trans K13.out (fun q _ e => by rcases e with e | e; exact .inl e; exact .inr (.inr e))).trans kw14 (fun q _ e => .inr (.inl e))) (fun q h => h)
              (B713.out.keep kw14 (fun e => h78 e))
              (O9'.out.keep kw14 (fun q hq e => (O9'.out.ne_own O813.out (by decide) hq) e)) (fun q hq => by rcases H9'.out q hq with h | h; exact .inl h; exact .inr (Nat.le_trans hz12 h))
              O14.out (fun q hq => by
                rcases H14.out with h | h
                · exact .inl (h ▸ hq)
                · rw [h] at hq
                  injection hq with hq
                  rw [World.size_alloc] at hq
                  exact .inr (by omega))
            exact ⟨k + 1, b', _, _, _, _, _, _, _, _, _, _, _, by omega, by go_num, rfl, rfl, L2⟩
          case measure => simp [intOf]; omega
    · have e0 : ¬ (k : Int) < (ss.length : Int) := by omega
      go_wp2_with fail
      exact HQ.out _ _ _ _ _ _ _ _ _ _ _ _ _ _ _ _ _ _ _ _ _ _ _ _ _ _ _ _ _ _ _ _ _ _ _ _ _ _ _ _ _ _ _ _ _ _ _ _ _ _ _ _ _ _ _ _ _ _ _ _ _ _ _ _ _ _ _ _ _ _ _ _ _ _ _ _ _ _ _ _ _ _ _ _ _ _ _ _ _ _ _ _ _ _ _ _ _ _ _ _ _ _ _ _ _ _ _ _ _ _ _ _ _ _ _ _ _ wr k b A1 n1 c1 A2 n2 c2 A8 c8 A9 c9 ds hk LL.out
end Go.Proofs.YtdmnflngafbobaaDoor
namespace Go.Proofs.YtdmnflngafbobaaDoor
open Go.RowKit
set_option linter.unusedVariables false
set_option linter.unusedSimpArgs false
set_option maxRecDepth 100000

def SErrs (w : World) : Prop := HErrs w ∧ DErrs w
theorem SErrs.keepB {w w' : World} (h : SErrs w) (k : Keep w w' (w.heap.size ≤ ·)) : SErrs w' := ⟨h.1.keepB k, h.2.keepB k⟩
theorem stepOK3 {s : St} (h : s.what = 0 ∨ s.what = 2 ∨ s.what = 3) : StepE SErrs s := by
  intro p hd g B n c A w h1 h2 h3 h4 h5 h6
  rcases h with h | h | h
  · rw [stepE0 h, h]
    exact step0_walk w h1 h2 h3 h4 h5 (fun w' k => (h6 w' k).1)
  · rw [stepE2 h, h]
    exact step2_walk w h1 h2 h5 (fun w' k => (h6 w' k).2)
  · rw [stepE3 h, h]
    exact step3_walk w h1

set_option maxHeartbeats 6400000 in
theorem stp_p16 {hd b : Hd} {ss : List St} {B g2 g7 k n1 c1 n2 c2 m1 d1 m2 d2 cs c8 c9 : Nat} {A1 A2 X1 X2 A8 A9 As : Option Addr} {ds : List Value} (w00 w0 w : World) (u0 u3 u4 u5 u6 u10 u11 u12 u13 u14 u15 u16 u17 u18 u19 u20 u21 u22 u23 u24 u25 u26 u27 u28 u29 u30 u31 u32 u33 u34 u35 u36 u37 u38 u39 u40 u41 u42 u43 u44 u45 u46 u47 u48 u49 u50 u51 u52 u53 u54 u55 u56 u57 u58 u59 u60 u61 u62 u63 u64 u65 u66 u67 u68 u69 u70 u71 u72 u73 u74 u75 u76 u77 u78 u79 u80 u81 u82 u83 u84 u85 u86 u87 u88 u89 u90 u91 u92 u93 u94 u95 u96 u97 u98 u99 u100 u101 u102 u103 u104 u105 u106 u107 u108 u109 u110 u111 u112 u113 u114 u115 u116 u117 u118 u119 u120 u121 : Value)
    (hK0 : Keep w00 w0 Nul) (hB0 : w00.heap.size ≤ B) (L : LS w0 w B g7 hd ss k b A1 n1 c1 A2 n2 c2 A8 c8 A9 c9 ds) (hk : k ≤ ss.length)
    (h2 : Blk w0 g2 27 (hcells hd (.slice X1 m1 d1) (.slice X2 m2 d2))) (hg2 : g2 < B) (hV : HV w0 (· < B) (.agg (hcells hd (.slice X1 m1 d1) (.slice X2 m2 d2))) hd) (hok : hd.Ok) (hss : ∀ s ∈ ss, StOk s) (hlen : ss.length ≤ 100) (hx : hd.exts.length ≤ 900000)
    (hs1 : hd.srcs.length ≤ 2147483647) (hdn : ∀ x ∈ hd.exts, x.data.length ≤ 2147483647) (hsd : ∀ s ∈ ss, s.data.length ≤ 2147483647) (he : Errs w00) (hse : SErrs w00) :
    Part Tryd.prog Tryd.f12 16 (bodyPost Tryd.prog Tryd.f12 (fun e w' => e = .returned (.bool true) ∧ Below w00.heap.size w00 w')) ⟨List.toArray (u0 :: .slice As ss.length cs :: .pointer (some ⟨g2, 0, none⟩) :: u3 :: u4 :: u5 :: u6 :: .pointer (some ⟨g7, 0, none⟩) :: .slice A8 k c8 :: .slice A9 k c9 :: u10 :: u11 :: u12 :: u13 :: u14 :: u15 :: u16 :: u17 :: u18 :: u19 :: u20 :: u21 :: u22 :: u23 :: u24 :: u25 :: u26 :: u27 :: u28 :: u29 :: u30 :: u31 :: u32 :: u33 :: u34 :: u35 :: u36 :: u37 :: u38 :: u39 :: u40 :: u41 :: u42 :: u43 :: u44 :: u45 :: u46 :: u47 :: u48 :: u49 :: u50 :: u51 :: u52 :: u53 :: u54 :: u55 :: u56 :: u57 :: u58 :: u59 :: u60 :: u61 :: u62 :: u63 :: u64 :: u65 :: u66 :: u67 :: u68 :: u69 :: u70 :: u71 :: u72 :: u73 :: u74 :: u75 :: u76 :: u77 :: u78 :: u79 :: u80 :: u81 :: u82 :: u83 :: u84 :: u85 :: u86 :: u87 :: u88 :: u89 :: u90 :: u91 :: u92 :: u93 :: u94 :: u95 :: u96 :: u97 :: u98 :: u99 :: u100 :: u101 :: u102 :: u103 :: u104 :: u105 :: u106 :: u107 :: u108 :: u109 :: u110 :: u111 :: u112 :: u113 :: u114 :: u115 :: u116 :: u117 :: u118 :: u119 :: u120 :: u121 :: []), []⟩ w := by
  have hKw : Keep w00 w Nul := ((hK0.nul (B ≤ ·)).trans L.kp (fun _ _ e => e)).mono (fun i hi e => by have : B ≤ i := e; omega)
  have KW := hide hKw
  have HE := hide he
  have HSE := hide hse
  have LL := hide L
  have B2 := hide (h2.keep L.kp (fun e => by have : B ≤ g2 := e; omega))
  have HV0 := hide (hV.keep L.kp (fun i _ (hi : i < B) e => by have : B ≤ i := e; omega))
  have HOK := hide hok
  have HSS := hide hss
  have HDN := hide hdn
  have HSD := hide hsd
  have htk : (ss.take k).length = k := by rw [List.length_take]; omega
  have HTK := hide htk
  have HG := hide (given_walk w HV0.out (by omega))
  clear hKw he hse L h2 hV hok hss hdn hsd htk hK0
  obtain ⟨x0, x1, x2, x3, x4, x5, x6, x7, x8, x9, x10, x11⟩ := hc12 B2.out
  have l2 := B2.out.lt
  refine part_open (fun c0 hc K hK => ?_)
  conv at hc => rhs; whnf
  subst hc
  dsimp only [xOf, yOf] at hK ⊢
  go_wp2_with fail
  refine Calls.mono (show Calls _ _ #[.agg (hcells hd (.slice X1 m1 d1) (.slice X2 m2 d2))] _ _ from HG.out) ?_
  rintro e w1 ⟨k1, svg, xvg, rfl, hvg⟩
  have K1 := hide (KW.out.trans0 k1)
  have LL1 := hide (LL.out.keep0 k1)
  have HR := hide (run_walkE (E := SErrs) (fun h k => h.keepB k) (ss := ss.take k) w1 hvg (u := .slice A8 k c8) (p := fun _ => True) ⟨ds, LL1.out.dl, (fun j s d h1 h2 => (LL1.out.dr j s d h1 h2).mono (fun _ _ _ => trivial)), by rw [HTK.out]; exact LL1.out.o8.rd.mono (fun _ _ _ => trivial)⟩
    (fun s hs => stepOK3 (LL1.out.w3 s hs)) (by rw [HTK.out]; omega) hs1 HDN.out (fun s hs => HSD.out s (List.mem_of_mem_take hs)) (HSE.out.keepB (K1.out.nul _)))
  clear k1 hvg x0 x1 x2 x3 x4 x5 x6 x7 x8 x9 x10 x11 HG
  go_wp2_with fail
  refine (HR.out).mono ?_
  rintro e w2 ⟨k2, Y1, e1, f1, Y2, e2, f2, Y, f, rfl, hva, hrd⟩
  have hrl := LL1.out.rl
  have hl2 := runE_len2 (ss.take k) hd
  have hl1 := runE_len (ss.take k) hd
  have hrok := runE_ok (ss.take k) hd HOK.out (fun s hs => ⟨(HSS.out s (List.mem_of_mem_take hs)).2.1, (HSS.out s (List.mem_of_mem_take hs)).1, LL1.out.w3 s hs⟩)
  have ho9 := LL1.out.o9.keep0 k2
  have K2 := hide (K1.out.trans0 k2)
  have B72 := hide (LL1.out.b7.keep k2 (fun e => e))
  have HVB := hide ((LL1.out.hv.keep0 k2).mono (q := (· < w2.heap.size)) (fun q hq _ => hq))
  rw [HTK.out] at hrd hl2 hl1 ⊢
  generalize hra : (runE hd (ss.take k)).1 = a at *
  generalize hro : (runE hd (ss.take k)).2 = oks at *
  have HROK := hide hrok
  have HRL := hide hrl
  have HRD := hide (hrd.mono (q := (· < w2.heap.size)) (fun q hq _ => hq))
  have HO9 := hide (ho9.rd.mono (q := (· < w2.heap.size)) (fun q hq _ => hq))
  have HVA := hide (hva.mono (q := (· < w2.heap.size)) (fun q hq _ => hq))
  have hxa : a.exts.length ≤ 2147483647 := by omega
  clear k2 hva hrd hrl hrok ho9 hra hro HR
  go_upto_region 17 with (refine wpList_stA rfl _ _ rfl rfl rfl (by kernel_rfl) rfl (by simp [hcells, Value.oneCell']) ?_)
  generalize hw3 : World.alloc w2 _ = w3
  obtain ⟨g15, hg15⟩ : ∃ g15, g15 = w2.heap.size := ⟨_, rfl⟩
  rw [← hg15]
  have B15 := hide (show Blk w3 g15 35 (hcells a (.slice Y1 e1 f1) (.slice Y2 e2 f2)) by subst hw3 hg15; exact Blk.new w2 _ _)
  have k23 : Keep w2 w3 Nul := by subst hw3; exact (Keep.refl w2 Nul).alloc _
  have K3 := hide (K2.out.trans0 k23)
  have hW := hide (works_walk w3 (HE.out.keep0 K3.out))
  have K23 := hide k23
  clear hw3 hg15 k23
  go_wp2_with fail
  refine (hW.out).mono ?_
  rintro e w4 ⟨rfl, k4⟩
  have K24 := hide (K23.out.trans0 k4)
  have K4 := hide (K3.out.trans0 k4)
  have B154 := hide (B15.out.keep k4 (fun e => e))
  have B74 := hide (B72.out.keep K24.out (fun e => e))
  have HRD4 := hide (HRD.out.keep0 K24.out)
  have HO94 := hide (HO9.out.keep0 K24.out)
  have HVA4 := hide (HVA.out.keep0 K24.out)
  have HVB4 := hide (HVB.out.keep0 K24.out)
  clear k4 hW
  go_wp2_with fail
  go_loopw [105] (fun i wr => ∃ j : Nat, j ≤ k ∧ i = .int .i64 (j : Int) ∧ Keep w4 wr Nul) (fun i _ => k - (intOf i).toNat)
  case atStart => exact ⟨0, Nat.zero_le _, rfl, Keep.refl _ _⟩
  case round =>
    obtain ⟨j, hj, rfl, hKj⟩ := hrel
    have KJ := hide hKj
    clear hKj
    by_cases hlt : j < k
    · have hg : (Bs oks)[j]? = some (.bool (oks[j]'(by omega))) := by simp [Bs, List.getElem?_eq_getElem (show j < oks.length by omega)]
      obtain ⟨q1, o1, v1, hv, _, _, _, _, q5⟩ := (HRD4.out.keep0 KJ.out).lit (by omega)
      injection hv with e1 _ e3
      subst e1 e3
      obtain ⟨q2, o2, v2, hv, _, _, _, _, q6⟩ := (HO94.out.keep0 KJ.out).lit (by omega)
      injection hv with e1 _ e3
      subst e1 e3
      have r1 := q5 j _ hg
      have r2 := q6 j _ hg
      have kl : (j : Int) < (k : Int) := by omega
      clear hg q5 q6
      generalize oks[j]'(by omega) = ob at *
      go_upto_region 22 with fail
      go_quiet (fail)
      have hbb : (ob != ob) = false := by simp
      go_wp2_with fail
      go_roundw
      case rel => exact ⟨j + 1, by omega, by go_num, KJ.out.drewN _⟩
      case measure => simp [intOf]; omega
    · have kl : ¬ (j : Int) < (k : Int) := by omega
      go_upto_region 25 with fail
      have b15 := hide (B154.out.keep KJ.out (fun e => e)).drew
      have b70 := hide (B74.out.keep KJ.out (fun e => e)).drew
      have KD := hide (KJ.out.drew)
      have SO1 := hide (show ∀ w', Blk w' g15 35 (hcells a (.slice Y1 e1 f1) (.slice Y2 e2 f2)) → (w'.cell? ⟨g15, 0, none⟩ = some (.int .u8 a.v) ∧ w'.cell? ⟨g15, 1, none⟩ = some (.bool a.pad) ∧ w'.cell? ⟨g15, 2, none⟩ = some (.bool a.ext) ∧ w'.cell? ⟨g15, 3, none⟩ = some (.bool a.mark) ∧ w'.cell? ⟨g15, 4, none⟩ = some (.int .u8 a.ty) ∧ w'.cell? ⟨g15, 5, none⟩ = some (.int .u16 a.seq) ∧ w'.cell? ⟨g15, 6, none⟩ = some (.int .u32 a.time) ∧ w'.cell? ⟨g15, 7, none⟩ = some (.int .u32 a.ssrc) ∧ w'.cell? ⟨g15, 8, none⟩ = some (.slice Y1 e1 f1) ∧ w'.cell? ⟨g15, 9, none⟩ = some (.int .u16 a.prof) ∧ w'.cell? ⟨g15, 10, none⟩ = some (.slice Y2 e2 f2) ∧ w'.cell? ⟨g15, 11, none⟩ = some (.int .u8 a.padn)) from fun w' h => hc12 h)
      have SO2 := hide (show ∀ w', Blk w' g7 27 (hcells b (.slice A1 n1 c1) (.slice A2 n2 c2)) → (w'.cell? ⟨g7, 0, none⟩ = some (.int .u8 b.v) ∧ w'.cell? ⟨g7, 1, none⟩ = some (.bool b.pad) ∧ w'.cell? ⟨g7, 2, none⟩ = some (.bool b.ext) ∧ w'.cell? ⟨g7, 3, none⟩ = some (.bool b.mark) ∧ w'.cell? ⟨g7, 4, none⟩ = some (.int .u8 b.ty) ∧ w'.cell? ⟨g7, 5, none⟩ = some (.int .u16 b.seq) ∧ w'.cell? ⟨g7, 6, none⟩ = some (.int .u32 b.time) ∧ w'.cell? ⟨g7, 7, none⟩ = some (.int .u32 b.ssrc) ∧ w'.cell? ⟨g7, 8, none⟩ = some (.slice A1 n1 c1) ∧ w'.cell? ⟨g7, 9, none⟩ = some (.int .u16 b.prof) ∧ w'.cell? ⟨g7, 10, none⟩ = some (.slice A2 n2 c2) ∧ w'.cell? ⟨g7, 11, none⟩ = some (.int .u8 b.padn)) from fun w' h => hc12 h)
      have HVAd := hide (HVA4.out.keep0 KD.out)
      have HVBd := hide (show HV wr.drew (· < w2.heap.size) (.agg (hcells b (.slice A1 n1 c1) (.slice A2 n2 c2))) { a with prof := b.prof } by rw [← HRL.out.eq]; exact HVB4.out.keep0 KD.out)
      go_region_held3 (fun w' => (w'.cell? ⟨g15, 0, none⟩ = some (.int .u8 a.v) ∧ w'.cell? ⟨g15, 1, none⟩ = some (.bool a.pad) ∧ w'.cell? ⟨g15, 2, none⟩ = some (.bool a.ext) ∧ w'.cell? ⟨g15, 3, none⟩ = some (.bool a.mark) ∧ w'.cell? ⟨g15, 4, none⟩ = some (.int .u8 a.ty) ∧ w'.cell? ⟨g15, 5, none⟩ = some (.int .u16 a.seq) ∧ w'.cell? ⟨g15, 6, none⟩ = some (.int .u32 a.time) ∧ w'.cell? ⟨g15, 7, none⟩ = some (.int .u32 a.ssrc) ∧ w'.cell? ⟨g15, 8, none⟩ = some (.slice Y1 e1 f1) ∧ w'.cell? ⟨g15, 9, none⟩ = some (.int .u16 a.prof) ∧ w'.cell? ⟨g15, 10, none⟩ = some (.slice Y2 e2 f2) ∧ w'.cell? ⟨g15, 11, none⟩ = some (.int .u8 a.padn)) ∧ (w'.cell? ⟨g7, 0, none⟩ = some (.int .u8 b.v) ∧ w'.cell? ⟨g7, 1, none⟩ = some (.bool b.pad) ∧ w'.cell? ⟨g7, 2, none⟩ = some (.bool b.ext) ∧ w'.cell? ⟨g7, 3, none⟩ = some (.bool b.mark) ∧ w'.cell? ⟨g7, 4, none⟩ = some (.int .u8 b.ty) ∧ w'.cell? ⟨g7, 5, none⟩ = some (.int .u16 b.seq) ∧ w'.cell? ⟨g7, 6, none⟩ = some (.int .u32 b.time) ∧ w'.cell? ⟨g7, 7, none⟩ = some (.int .u32 b.ssrc) ∧ w'.cell? ⟨g7, 8, none⟩ = some (.slice A1 n1 c1) ∧ w'.cell? ⟨g7, 9, none⟩ = some (.int .u16 b.prof) ∧ w'.cell? ⟨g7, 10, none⟩ = some (.slice A2 n2 c2) ∧ w'.cell? ⟨g7, 11, none⟩ = some (.int .u8 b.padn)))
        (first | with_reducible exact ⟨SO1.out _ b15.out, SO2.out _ b70.out⟩ | with_reducible exact ⟨SO1.out _ b15p.out, SO2.out _ b70p.out⟩ | with_reducible exact ⟨SO1.out _ b15s.out, SO2.out _ b70s.out⟩)
        (first
          | (go_at_call 27; refine Calls.mono (show Calls _ _ #[.agg (hcells a (.slice Y1 e1 f1) (.slice Y2 e2 f2))] _ _ from lplain_walk _ HVAd.out hxa) ?_; rintro e wp ⟨kp, svp, xvp, rfl, hvp⟩; have b15p := hide (b15.out.keep kp (fun e => e)); have b70p := hide (b70.out.keep kp (fun e => e)); have HVBp := hide (HVBd.out.keep0 kp); have HKp := hide (KD.out.trans0 kp); have hvp := hide hvp; clear kp)
          | (go_at_call 26; refine Calls.mono (show Calls _ _ #[.agg (hcells a svp xvp), .agg (hcells b (.slice A1 n1 c1) (.slice A2 n2 c2))] _ _ from same_walk (pr := b.prof) _ hvp.out HVBp.out HROK.out HRL.out.on) ?_; rintro e ws ⟨rfl, ks⟩; have b15s := hide (b15p.out.keep ks (fun e => e)); have b70s := hide (b70p.out.keep ks (fun e => e)); have HKs := hide (HKp.out.trans0 ks); clear ks))
      go_wp2_with fail
      (try go_ret)
      exact ⟨rfl, (K4.out.trans0 HKs.out).below0⟩
end Go.Proofs.YtdmnflngafbobaaDoor
