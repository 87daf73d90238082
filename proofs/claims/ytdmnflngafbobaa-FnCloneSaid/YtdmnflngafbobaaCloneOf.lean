/-
  (rtp.Header).Clone: a copy of a header of the package; impl.CloneOf. Conditions: those that stand in each theorem.
-/
import Derived.Test.YtdmnflngafbobaaIplain
import Derived.Test.YtdmnflngafbobaaCopy
namespace Go.Proofs.Ytdmnflngafbobaa
open Go.RowKit
set_option linter.unusedVariables false
set_option linter.unusedSimpArgs false
set_option maxRecDepth 20000

def rzero : Array Value := #[.int .u8 0, .bool false, .bool false, .bool false, .int .u8 0, .int .u16 0, .int .u32 0, .int .u32 0, .slice none 0 0, .int .u16 0, .slice none 0 0, .int .u8 0, .int .i64 0]
theorem set_all13 (a0 a1 a2 a3 a4 a5 a6 a7 a8 a9 a10 a11 a12 : Value) : (((((((((((((rzero.setIfInBounds 0 a0).setIfInBounds 1 a1).setIfInBounds 2 a2).setIfInBounds 3 a3).setIfInBounds 4 a4).setIfInBounds 5 a5).setIfInBounds 6 a6).setIfInBounds 7 a7).setIfInBounds 8 a8).setIfInBounds 9 a9).setIfInBounds 10 a10).setIfInBounds 11 a11).setIfInBounds 12 a12) = #[a0, a1, a2, a3, a4, a5, a6, a7, a8, a9, a10, a11, a12] := by kernel_rfl

theorem take_set2 (cs : Array Value) (k : Nat) (a b : Value) (h : k * 2 + 2 ≤ cs.size) : (((cs.setIfInBounds (k * 2) a).setIfInBounds (k * 2 + 1) b).toList.take ((k + 1) * 2)) = cs.toList.take (k * 2) ++ [a, b] := by
  apply List.ext_getElem?
  intro j
  simp only [Array.toList_setIfInBounds, List.getElem?_take, List.getElem?_set, List.getElem?_append, List.length_take, List.length_set, Array.length_toList]
  have hm : min (k * 2) cs.size = k * 2 := by omega
  rw [hm]
  by_cases h1 : j < k * 2
  · have a1 : j < (k + 1) * 2 := by omega
    have a2 : ¬ k * 2 + 1 = j := by omega
    have a3 : ¬ k * 2 = j := by omega
    simp [h1, a1, a2, a3]
  · by_cases h2 : j = k * 2
    · subst h2
      have a1 : k * 2 < (k + 1) * 2 := by omega
      have a4 : k * 2 < cs.size := by omega
      simp [a1, a4]
    · by_cases h3 : j = k * 2 + 1
      · subst h3
        have a1 : k * 2 + 1 < (k + 1) * 2 := by omega
        have a4 : k * 2 + 1 < cs.size := by omega
        have a6 : k * 2 + 1 - k * 2 = 1 := by omega
        simp [a1, a4, a6]; omega
      · have a1 : ¬ j < (k + 1) * 2 := by omega
        have a5 : [a, b][j - k * 2]? = none := List.getElem?_eq_none (by simp; omega)
        simp [a1, h1, a5]

theorem size_set1 (w : World) (p : Addr) (u : Value) : (w.setCell p u).heap.size = w.heap.size := by simp [World.setCell]
theorem Rd.none_ {w w' : World} {p q : Nat → Prop} {sz n c : Nat} {xs : List Value} (h : Rd w p sz (.slice none n c) n xs) : Rd w' q sz (.slice none n c) n xs := by
  obtain ⟨hl, A, c', hv, h1, h2, h3, h4⟩ := h
  injection hv with e1 _ e3
  subst e1 e3
  refine ⟨hl, none, c, rfl, h1, h2, h3, fun j u hu => ?_⟩
  obtain ⟨ad, e, _⟩ := h4 j u hu
  cases e
theorem set_get (cs : Array Value) (i : Nat) (v : Value) (h : i < cs.size) : (cs.setIfInBounds i v)[i]? = some v := by simp [h]
theorem set_set (cs : Array Value) (i : Nat) (a b : Value) : (cs.setIfInBounds i a).setIfInBounds i b = cs.setIfInBounds i b := by
  apply Array.ext
  · simp
  · intro j h1 h2
    by_cases h : i = j
    · subst h; simp [Array.getElem_setIfInBounds]
    · simp [Array.getElem_setIfInBounds, h]
theorem Own.copied {w : World} {e : TypeId} {g n : Nat} {z : Array Value} {ys : List Value} (hl : ys.length = n) (hm : n ≤ maxLen) (hb : Blk w g e (splice (madeCells z n).toList 0 (ys.take (min n n))).toArray) :
    Own w g e 1 (.slice (some ⟨g, 0, none⟩) n n) n ys := by
  have e1 : ys.take (min n n) = ys := List.take_of_length_le (by omega)
  rw [e1, splice_all _ _ (by rw [made_len]; omega)] at hb
  have := Own.of_blk (B := g) (n := n) (cap := n) (sz := 1) hb (Nat.le_refl _) (Nat.le_refl _) hm (by simp; omega)
  have e2 : (ys.toArray.toList.take (n * 1)) = ys := List.take_of_length_le (by simp; omega)
  rwa [e2] at this

set_option maxHeartbeats 3200000 in
theorem hclone_walk {p : Nat → Prop} {hd : Hd} {sv xv : Value} {off : Int} (w : World) (hS : Rd w p 1 sv hd.srcs.length (U32 hd.srcs)) (hX : XR w p xv hd.exts)
    (hn : hd.exts.length ≤ 2147483647) (hs : hd.srcs.length ≤ 2147483647) (hdn : ∀ x ∈ hd.exts, x.data.length ≤ 2147483647) :
    Calls Try.prog 13 #[.agg (rcells hd sv xv off)] w fun e w' => Keep w w' Nul ∧ ∃ sv' xv', e = .returned (.agg (rcells hd sv' xv' off)) ∧ Rd w' (fun _ => True) 1 sv' hd.srcs.length (U32 hd.srcs) ∧ XR w' (fun _ => True) xv' hd.exts := by
  replace hS := hS.mono (q := (· < w.heap.size)) (fun k hk _ => hk)
  replace hX := hX.mono (q := (· < w.heap.size)) (fun k hk _ => hk)
  obtain ⟨A1, c1, rfl⟩ := hS.shape
  obtain ⟨A2, c2, rfl⟩ := hX.shape
  have H1 := hide hS
  have H2 := hide hX
  have HD := hide hdn
  clear hS hX hdn
  unfold rcells at *
  go_enter Try.func13, Try.ntmps13
  go_upto_region 2 with fail
  generalize hwa : World.alloc (World.alloc (World.alloc w _) _) _ = wa
  have B1 := hide (show Blk wa w.heap.size 45 (rcells hd (.slice A1 hd.srcs.length c1) (.slice A2 hd.exts.length c2) off) by subst hwa; exact ((Blk.new w _ _).alloc _).alloc _)
  have B3 := hide (show Blk wa (w.heap.size + 2) 45 (rcells hd (.slice A1 hd.srcs.length c1) (.slice A2 hd.exts.length c2) off) by subst hwa; exact Blk.new' (by simp [World.size_alloc]))
  have B2 := hide (show Blk wa (w.heap.size + 1) 45 rzero by subst hwa; exact Blk.alloc (Blk.new' (by simp [World.size_alloc])) _)
  have HK := hide (show Keep w wa Nul by subst hwa; exact (((Keep.refl w Nul).alloc _).alloc _).alloc _)
  have hsz : wa.heap.size = w.heap.size + 3 := by subst hwa; simp [World.size_alloc]
  generalize hv0 : Value.agg _ = v0
  clear hv0 hwa
  have b8 := B1.out.cell 8 (v := .slice A1 hd.srcs.length c1) rfl
  have kn1 := fun w => run_neq_slice_nil_any (P := Try.prog) w 24 23 A1 hd.srcs.length c1 0 0 Try.underlying24
  have HSZ := hide hsz
  go_upto_if 10 with fail
  go_cut [3] (fun s3 wx => s3 = .pointer (some ⟨w.heap.size + 2, 0, none⟩) ∧ Keep wa wx (· = w.heap.size + 2) ∧ ∃ A c, Blk wx (w.heap.size + 2) 45 (rcells hd (.slice A hd.srcs.length c) (.slice A2 hd.exts.length c2) off) ∧ Rd wx (fun k => k < w.heap.size ∨ wa.heap.size ≤ k) 1 (.slice A hd.srcs.length c) hd.srcs.length (U32 hd.srcs))
  case first =>
    cases A1 with
    | none =>
      go_wp2_with fail
      go_meet
      exact ⟨rfl, Keep.refl _ _, none, c1, B3.out, (H1.out.keep0 HK.out).mono fun i hi h => .inl h⟩
    | some ad =>
      have mkU := run_mk etU hd.srcs.length (by omega) (by omega)
      have f8 := B3.out.free 8
      have c8 := B3.out.cell 8 (v := .slice (some ad) hd.srcs.length c1) rfl
      have l3 := B3.out.lt
      go_upto_region 4 with fail
      generalize hwb : World.alloc (World.setCell wa _ _) _ = wb
      have B1b := hide (show Blk wb w.heap.size 45 (rcells hd (.slice (some ad) hd.srcs.length c1) (.slice A2 hd.exts.length c2) off) by subst hwb; exact (B1.out.far (p := ⟨w.heap.size + 2, 8, none⟩) (show w.heap.size ≠ w.heap.size + 2 by omega) _).alloc _)
      have B3b := hide (show Blk wb (w.heap.size + 2) 45 (rcells hd (.slice (some ⟨w.heap.size + 3, 0, none⟩) hd.srcs.length hd.srcs.length) (.slice A2 hd.exts.length c2) off) by subst hwb; exact (B3.out.set_ 8 _).alloc _)
      have HM := hide (show Blk wb (w.heap.size + 3) 23 (madeCells (Value.int .u32 0).cells hd.srcs.length) by subst hwb; exact Blk.new' (hsz.symm.trans (size_set1 _ _ _).symm))
      have KB := hide (show Keep wa wb (· = w.heap.size + 2) by subst hwb; exact (Keep.set1 wa (w.heap.size + 2) 8 _).alloc _)
      clear hwb mkU f8 c8 l3 b8
      have b8 := B1b.out.cell 8 (v := .slice (some ad) hd.srcs.length c1) rfl
      have c8 := B3b.out.cell 8 (v := .slice (some ⟨w.heap.size + 3, 0, none⟩) hd.srcs.length hd.srcs.length) rfl
      have R1 := hide ((H1.out.keep0 HK.out).keep KB.out (fun i hi hp e => by omega))
      go_wp2_with (refine wpList_copyB rfl _ _ rfl Try.underlying24 (by kernel_rfl) (w.heap.size + 3) 0 HM.out R1.out (U32_one _) rfl rfl (fun _ => rfl) (by rw [size_madeCells]; omega) ?_; intro w2 hb2 hk2; have HB2 := hide hb2; have HK2 := hide hk2; clear hb2 hk2)
      go_meet
      have O2 := Own.copied R1.out.len (by simp only [maxLen]; omega) HB2.out
      exact ⟨rfl, KB.out.trans HK2.out (fun i hi e => by omega), some ⟨w.heap.size + 3, 0, none⟩, hd.srcs.length, B3b.out.keep HK2.out (fun e => by omega), O2.rd.mono fun i hi h => by simp [Value.ownBlock] at h; omega⟩
  case rest =>
  obtain ⟨wz, hwz⟩ : ∃ wz, wz = wc := ⟨_, rfl⟩
  subst hwz
  obtain ⟨rfl, kc, As, cs0, hB, hR⟩ := hcut
  have hzc := kc.size
  have HKC := hide kc
  have HB3 := hide hB
  have HR := hide hR
  have B1c := hide (B1.out.keep kc (fun e => by omega))
  have B2c := hide (B2.out.keep kc (fun e => by omega))
  have t10 := B1c.out.cell 10 (v := .slice A2 hd.exts.length c2) rfl
  have kn2 := fun w => run_neq_slice_nil_any (P := Try.prog) w 43 57 A2 hd.exts.length c2 0 0 Try.underlying43
  have HKW := hide (HK.out.trans kc (S := Nul) (fun i hi e => by omega))
  clear kc hB hR b8 kn1
  go_upto_if 23 with fail
  go_cut [3] (fun s3 wx => s3 = .pointer (some ⟨w.heap.size + 2, 0, none⟩) ∧ Keep wz wx (· = w.heap.size + 2) ∧ ∃ A c, Blk wx (w.heap.size + 2) 45 (rcells hd (.slice As hd.srcs.length cs0) (.slice A hd.exts.length c) off) ∧ XR wx (fun k => k < w.heap.size ∨ wz.heap.size ≤ k) (.slice A hd.exts.length c) hd.exts)
  case first =>
    cases A2 with
    | none =>
      go_wp2_with fail
      go_meet
      exact ⟨rfl, Keep.refl _ _, none, c2, HB3.out, (H2.out.keep0 HKW.out).mono fun i hi h => .inl h⟩
    | some ad =>
      have mkX := run_mk etX hd.exts.length (by omega) (by omega)
      go_upto_region 7 with fail
      generalize hwe : World.alloc wz _ = we
      have BE := hide (show Blk we wz.heap.size 57 (madeCells (Value.agg #[.int .u8 0, .slice none 0 0]).cells (hd.exts.length * 2)) by subst hwe; exact Blk.new _ _ _)
      have KE := hide (show Keep wz we Nul by subst hwe; exact (Keep.refl _ _).alloc _)
      have HZE := hide (show we.heap.size = wz.heap.size + 1 by subst hwe; simp [World.size_alloc])
      clear hwe mkX t10
      have t10 := (B1c.out.keep KE.out id).cell 10 (v := .slice (some ad) hd.exts.length c2) rfl
      go_wp2_with fail
      go_loopw [31] (fun i wr => ∃ (k : Nat) (cs : Array Value) (ds : List Value), k ≤ hd.exts.length ∧ i = .int .i64 k ∧ Blk wr wz.heap.size 57 cs ∧ cs.size = hd.exts.length * 2 ∧ cs.toList.take (k * 2) = xcells (hd.exts.take k) ds ∧ Ds wr (Byt wr we.heap.size) (hd.exts.take k) ds ∧ Keep we wr (· = wz.heap.size)) (fun i _ => hd.exts.length - (intOf i).toNat)
      case atStart => exact ⟨0, _, [], Nat.zero_le _, rfl, BE.out, by simp [size_madeCells], by simp [xcells], ⟨rfl, by simp⟩, Keep.refl _ _⟩
      case round =>
        obtain ⟨k, cs, ds, hk, rfl, hB, hcs, htk, hD, hK⟩ := hrel
        have hze := HZE.out
        have hKw : Keep w wr Nul := (HKW.out.trans0 KE.out).trans hK (fun i hi e => by omega)
        by_cases hlt : k < hd.exts.length
        · have hg' : hd.exts[k]? = some hd.exts[k] := List.getElem?_eq_getElem _
          obtain ⟨b, o, c', d, hv, q1, q2, q3, q4, p5, p6, q7⟩ := H2.out.at_ hg'
          injection hv with e1 _ e3
          injection e1 with e1
          subst e1 e3
          have HG := hide hg'
          have hxl := HD.out _ (List.mem_of_getElem? hg')
          clear hg'
          generalize hd.exts[k] = x at *
          have q5 := hKw.cell id p5
          have q6 := hKw.cell id p6
          obtain ⟨A', c2', rfl⟩ := q7.shape
          have Q7 := hide (q7.keep0 hKw)
          have hsz2 := hK.size
          have HBr := hide hB
          have HDr := hide hD
          have HKr := hide hK
          have HKw := hide hKw
          have HTK := hide htk
          have HCS := hide hcs
          clear q7 p5 p6 hB hD hK hKw htk hcs hze
          go_upto_region 10 with fail
          generalize hwt : World.alloc wr _ = wt
          have X6 := hide (show Blk wt wr.heap.size 57 #[.int .u8 x.id, .slice A' x.data.length c2'] by subst hwt; exact Blk.new wr _ _)
          have KT := hide (show Keep wr wt Nul by subst hwt; exact (Keep.refl wr Nul).alloc _)
          have HZT := hide (show wt.heap.size = wr.heap.size + 1 by subst hwt; simp [World.size_alloc])
          clear hwt
          have BT := hide (HBr.out.keep KT.out id)
          have z0 : wt.cell? ⟨wz.heap.size, k * 2, none⟩ = some (cs[k * 2]'(by rw [HCS.out]; omega)) := BT.out.cell (k * 2) (Array.getElem?_eq_getElem _)
          have z1 : wt.cell? ⟨wz.heap.size, k * 2 + 1, none⟩ = some (cs[k * 2 + 1]'(by rw [HCS.out]; omega)) := BT.out.cell (k * 2 + 1) (Array.getElem?_eq_getElem _)
          have fz := fun i => BT.out.free i
          have lz := BT.out.lt
          have e0 := X6.out.cell 0 (v := .int .u8 x.id) rfl
          have e1 := X6.out.cell 1 (v := .slice A' x.data.length c2') rfl
          have lx := X6.out.lt
          go_upto_region 11 with fail
          generalize hwu : World.setCell (World.setCell wt _ _) _ _ = wu
          have BU := hide (show Blk wu wz.heap.size 57 ((cs.setIfInBounds (k * 2) (.int .u8 x.id)).setIfInBounds (k * 2 + 1) (.slice A' x.data.length c2')) by subst hwu; exact (BT.out.set_ _ _).set_ _ _)
          have KU := hide (show Keep wt wu (· = wz.heap.size) by subst hwu; exact (Keep.set1 wt _ _ _).setg _ (fun _ => rfl) _)
          have HZU := hide (show wu.heap.size = wt.heap.size by subst hwu; rw [size_set1, size_set1])
          have X6u := hide (X6.out.keep KU.out (fun e => by have := HZE.out; omega))
          have Q7u := hide ((Q7.out.keep0 KT.out).keep KU.out (fun i hi hp e => by omega))
          clear hwu z0 z1 fz e0 e1
          have e1 := X6u.out.cell 1 (v := .slice A' x.data.length c2') rfl
          have kn3 := fun w => run_neq_slice_nil_any (P := Try.prog) w 29 5 A' x.data.length c2' 0 0 Try.underlying29
          cases A' with
          | none =>
            have kf := Keep.refl wu (· = wz.heap.size)
            have hBf := BU.out
            have hRf : Rd wu (Byt wu we.heap.size) 1 (.slice none x.data.length c2') x.data.length (B8 x.data) := Q7u.out.none_
            have hsf := kf.size
            have HBf := hide hBf
            have HRf := hide hRf
            have hds := hide ((((HDr.out.byt KT.out (fun _ _ e => e)).byt KU.out (fun i hi => hi.ne_blk BT.out (by decide))).byt kf (fun i hi => hi.ne_blk BU.out (by decide))).snoc hRf)
            have hkf := hide ((((HKr.out.trans0 KT.out).trans KU.out (fun _ _ e => e)).trans kf (fun _ _ e => e)))
            clear kf hBf hRf
            go_wp2_with fail
            go_roundw
            case rel =>
              refine ⟨k + 1, _, ds ++ [.slice none x.data.length c2'], by omega, by go_num, HBf.out, by rw [Array.size_setIfInBounds, Array.size_setIfInBounds, HCS.out], ?_, ?_, hkf.out⟩
              · obtain ⟨hk', e⟩ := List.getElem?_eq_some_iff.1 HG.out
                rw [take_set2 _ _ _ _ (by rw [HCS.out]; omega), HTK.out, List.take_succ_eq_append_getElem hk', e, xcells_snoc _ _ _ _ HDr.out.1]
              · obtain ⟨hk', e⟩ := List.getElem?_eq_some_iff.1 HG.out
                rw [List.take_succ_eq_append_getElem hk', e]
                exact hds.out
            case measure => simp [intOf]; omega
          | some ad' =>
            have mkB := run_mk etB x.data.length (by omega) (by omega)
            have u1 := BU.out.cell (k * 2 + 1) (v := .slice (some ad') x.data.length c2') (set_get _ _ _ (by rw [Array.size_setIfInBounds, HCS.out]; omega))
            have fz := fun i => BU.out.free i
            have lz := BU.out.lt
            go_upto_region 13 with fail
            generalize hwm : World.alloc (World.setCell wu _ _) _ = wm
            have BM := hide (show Blk wm wz.heap.size 57 ((cs.setIfInBounds (k * 2) (.int .u8 x.id)).setIfInBounds (k * 2 + 1) (.slice (some ⟨wu.heap.size, 0, none⟩) x.data.length x.data.length)) by subst hwm; have := (BU.out.set_ (k * 2 + 1) (.slice (some ⟨wu.heap.size, 0, none⟩) x.data.length x.data.length)).alloc (.cells (madeCells (Value.int .u8 0).cells x.data.length) 5); rw [set_set] at this; exact this)
            have HMm := hide (show Blk wm wu.heap.size 5 (madeCells (Value.int .u8 0).cells x.data.length) by subst hwm; exact Blk.new' (size_set1 _ _ _).symm)
            have KM := hide (show Keep wu wm (· = wz.heap.size) by subst hwm; exact (Keep.set1 wu _ _ _).alloc _)
            clear hwm mkB u1 fz e1
            have X6m := hide (X6u.out.keep KM.out (fun e => by have := HZE.out; omega))
            have R13 := hide ((Q7u.out.keep KM.out (fun i hi hp e => by omega)).drew)
            have m0 := BM.out.drew.cell (k * 2 + 1) (v := .slice (some ⟨wu.heap.size, 0, none⟩) x.data.length x.data.length) (set_get _ _ _ (by rw [Array.size_setIfInBounds, HCS.out]; omega))
            have m1 := X6m.out.drew.cell 1 (v := .slice (some ad') x.data.length c2') rfl
            go_region_held3 (fun w' => w'.cell? ⟨wz.heap.size, k * 2 + 1, none⟩ = some (.slice (some ⟨wu.heap.size, 0, none⟩) x.data.length x.data.length) ∧ w'.cell? ⟨wr.heap.size, 1, none⟩ = some (.slice (some ad') x.data.length c2'))
              (first | exact ⟨m0, m1⟩ | exact ⟨n0, n1⟩)
              (first
                | (refine step_copyB (by rfl) _ _ (by rfl) Try.underlying29 (by kernel_rfl) wu.heap.size 0 HMm.out.drew R13.out (B8_one _) (by rfl) (by rfl) (fun _ => rfl) (by rw [size_madeCells]; omega) ?_; intro w5 hb5 hk5; have lu := lz; have n0 := hk5.cell (by show ¬ wz.heap.size = wu.heap.size; omega) m0; have n1 := hk5.cell (by show ¬ wr.heap.size = wu.heap.size; have := HZT.out; have := HZU.out; omega) m1; have HB5 := hide hb5; have HK5 := hide hk5; clear hb5 hk5))
            have O5 := Own.copied R13.out.len (by simp only [maxLen]; omega) HB5.out
            have kf : Keep wu w5 (· = wz.heap.size) := KM.out.drew.trans HK5.out (fun i hi e => by omega)
            have hBf := BM.out.drew.keep HK5.out (fun e => by omega)
            have hRf := O5.byt.mono (q := Byt w5 we.heap.size) fun i _ hi => hi.low (by have := HZT.out; have := HZU.out; omega)
            clear O5 n0 n1 m0 m1
            have hsf := kf.size
            have HBf := hide hBf
            have HRf := hide hRf
            have hds := hide ((((HDr.out.byt KT.out (fun _ _ e => e)).byt KU.out (fun i hi => hi.ne_blk BT.out (by decide))).byt kf (fun i hi => hi.ne_blk BU.out (by decide))).snoc hRf)
            have hkf := hide ((((HKr.out.trans0 KT.out).trans KU.out (fun _ _ e => e)).trans kf (fun _ _ e => e)))
            clear kf hBf hRf kn3
            go_wp2_with fail
            go_roundw
            case rel =>
              refine ⟨k + 1, _, ds ++ [.slice (some ⟨wu.heap.size, 0, none⟩) x.data.length x.data.length], by omega, by go_num, HBf.out, by rw [Array.size_setIfInBounds, Array.size_setIfInBounds, HCS.out], ?_, ?_, hkf.out⟩
              · obtain ⟨hk', e⟩ := List.getElem?_eq_some_iff.1 HG.out
                rw [take_set2 _ _ _ _ (by rw [HCS.out]; omega), HTK.out, List.take_succ_eq_append_getElem hk', e, xcells_snoc _ _ _ _ HDr.out.1]
              · obtain ⟨hk', e⟩ := List.getElem?_eq_some_iff.1 HG.out
                rw [List.take_succ_eq_append_getElem hk', e]
                exact hds.out
            case measure => simp [intOf]; omega
        · obtain rfl : k = hd.exts.length := by omega
          rw [List.take_length] at htk hD
          have kz : Keep wz wr Nul := KE.out.trans hK (fun i hi e => by omega)
          have B3r := hide (HB3.out.keep kz id)
          have f10 := B3r.out.free 10
          have c10 := B3r.out.cell 10 (v := .slice (some ad) hd.exts.length c2) rfl
          have O := Own.of_blk (B := wz.heap.size) (n := hd.exts.length) (cap := hd.exts.length) (sz := 2) hB (Nat.le_refl _) (Nat.le_refl _) (by simp only [maxLen]; omega) hcs
          rw [htk] at O
          have HO := hide O
          have HDr := hide hD
          have HKz := hide kz
          have l3 := B3r.out.lt
          clear hB hcs htk hD hK kz O hKw hze
          go_wp2_with fail
          go_meet
          have kst := Keep.set1 wr (w.heap.size + 2) 10 (.slice (some ⟨wz.heap.size, 0, none⟩) hd.exts.length hd.exts.length)
          refine ⟨rfl, (HKz.out.nul (· = w.heap.size + 2)).setg 10 (fun _ => rfl) _, some ⟨wz.heap.size, 0, none⟩, hd.exts.length, B3r.out.set_ 10 _, ds, ?_, ?_⟩
          · exact (HDr.out.byt kst (fun i hi => hi.ne_blk B3r.out (by decide))).mono fun i _ hi => .inr (by have := hi.1; have := HZE.out; omega)
          · exact (HO.out.rd.keep kst (fun i hi h e => by simp [Value.ownBlock] at h; omega)).mono fun i _ h => .inr (by simp [Value.ownBlock] at h; omega)
  case rest =>
  obtain ⟨rfl, kd, Ax, cx, hB, hX⟩ := hcut
  have hzd := kd.size
  have HKd := hide (HKW.out.trans kd (S := Nul) (fun i hi e => by omega))
  have hb2 := B2c.out.keep kd (fun e => by omega)
  have x0 := hB.cell 0 (v := .int .u8 hd.v) rfl
  have x1 := hB.cell 1 (v := .bool hd.pad) rfl
  have x2 := hB.cell 2 (v := .bool hd.ext) rfl
  have x3 := hB.cell 3 (v := .bool hd.mark) rfl
  have x4 := hB.cell 4 (v := .int .u8 hd.ty) rfl
  have x5 := hB.cell 5 (v := .int .u16 hd.seq) rfl
  have x6 := hB.cell 6 (v := .int .u32 hd.time) rfl
  have x7 := hB.cell 7 (v := .int .u32 hd.ssrc) rfl
  have x8 := hB.cell 8 (v := .slice As hd.srcs.length cs0) rfl
  have x9 := hB.cell 9 (v := .int .u16 hd.prof) rfl
  have x10 := hB.cell 10 (v := .slice Ax hd.exts.length cx) rfl
  have x11 := hB.cell 11 (v := .int .u8 hd.padn) rfl
  have x12 := hB.cell 12 (v := .int .i64 off) rfl
  have y0 := hb2.cell 0 (v := .int .u8 0) rfl
  have y1 := hb2.cell 1 (v := .bool false) rfl
  have y2 := hb2.cell 2 (v := .bool false) rfl
  have y3 := hb2.cell 3 (v := .bool false) rfl
  have y4 := hb2.cell 4 (v := .int .u8 0) rfl
  have y5 := hb2.cell 5 (v := .int .u16 0) rfl
  have y6 := hb2.cell 6 (v := .int .u32 0) rfl
  have y7 := hb2.cell 7 (v := .int .u32 0) rfl
  have y8 := hb2.cell 8 (v := .slice none 0 0) rfl
  have y9 := hb2.cell 9 (v := .int .u16 0) rfl
  have y10 := hb2.cell 10 (v := .slice none 0 0) rfl
  have y11 := hb2.cell 11 (v := .int .u8 0) rfl
  have y12 := hb2.cell 12 (v := .int .i64 0) rfl
  have fr2 := fun i => hb2.free i
  have HX := hide hX
  have HB2 := hide hb2
  have HR2 := hide (HR.out.keep kd (fun i hi hp e => by omega))
  clear hB hX hb2 kd t10 kn2
  go_wp2_with fail
  have HF := (((((((((((((HB2.out.set_ 0 (.int .u8 hd.v)).set_ 1 (.bool hd.pad)).set_ 2 (.bool hd.ext)).set_ 3 (.bool hd.mark)).set_ 4 (.int .u8 hd.ty)).set_ 5 (.int .u16 hd.seq)).set_ 6 (.int .u32 hd.time)).set_ 7 (.int .u32 hd.ssrc)).set_ 8 (.slice As hd.srcs.length cs0)).set_ 9 (.int .u16 hd.prof)).set_ 10 (.slice Ax hd.exts.length cx)).set_ 11 (.int .u8 hd.padn)).set_ 12 (.int .i64 off))
  rw [set_all13] at HF
  have hg : w.heap.size + 1 < w.heap.size → Nul (w.heap.size + 1) := fun h => by omega
  have hg' : w.heap.size + 1 < wc.heap.size → (· = w.heap.size + 1) (w.heap.size + 1) := fun _ => rfl
  have KF : Keep w _ Nul := ((((((((((((Keep.setg (g := w.heap.size + 1) HKd.out 0 hg (.int .u8 hd.v)).setg 1 hg (.bool hd.pad)).setg 2 hg (.bool hd.ext)).setg 3 hg (.bool hd.mark)).setg 4 hg (.int .u8 hd.ty)).setg 5 hg (.int .u16 hd.seq)).setg 6 hg (.int .u32 hd.time)).setg 7 hg (.int .u32 hd.ssrc)).setg 8 hg (.slice As hd.srcs.length cs0)).setg 9 hg (.int .u16 hd.prof)).setg 10 hg (.slice Ax hd.exts.length cx)).setg 11 hg (.int .u8 hd.padn)).setg 12 hg (.int .i64 off)
  have KR := (((((((((((((Keep.refl wc (· = w.heap.size + 1)).setg 0 hg' (.int .u8 hd.v)).setg 1 hg' (.bool hd.pad)).setg 2 hg' (.bool hd.ext)).setg 3 hg' (.bool hd.mark)).setg 4 hg' (.int .u8 hd.ty)).setg 5 hg' (.int .u16 hd.seq)).setg 6 hg' (.int .u32 hd.time)).setg 7 hg' (.int .u32 hd.ssrc)).setg 8 hg' (.slice As hd.srcs.length cs0)).setg 9 hg' (.int .u16 hd.prof)).setg 10 hg' (.slice Ax hd.exts.length cx)).setg 11 hg' (.int .u8 hd.padn)).setg 12 hg' (.int .i64 off)
  have z0 := HF.cell 0 (v := .int .u8 hd.v) rfl
  have z1 := HF.cell 1 (v := .bool hd.pad) rfl
  have z2 := HF.cell 2 (v := .bool hd.ext) rfl
  have z3 := HF.cell 3 (v := .bool hd.mark) rfl
  have z4 := HF.cell 4 (v := .int .u8 hd.ty) rfl
  have z5 := HF.cell 5 (v := .int .u16 hd.seq) rfl
  have z6 := HF.cell 6 (v := .int .u32 hd.time) rfl
  have z7 := HF.cell 7 (v := .int .u32 hd.ssrc) rfl
  have z8 := HF.cell 8 (v := .slice As hd.srcs.length cs0) rfl
  have z9 := HF.cell 9 (v := .int .u16 hd.prof) rfl
  have z10 := HF.cell 10 (v := .slice Ax hd.exts.length cx) rfl
  have z11 := HF.cell 11 (v := .int .u8 hd.padn) rfl
  have z12 := HF.cell 12 (v := .int .i64 off) rfl
  clear x0 y0 x1 y1 x2 y2 x3 y3 x4 y4 x5 y5 x6 y6 x7 y7 x8 y8 x9 y9 x10 y10 x11 y11 x12 y12
  have hsz' := HSZ.out
  refine bodyPost_ret (v := .agg (rcells hd (.slice As hd.srcs.length cs0) (.slice Ax hd.exts.length cx) off)) (by unfold rcells; simp [results, Try.results13, go_sem, z0, z1, z2, z3, z4, z5, z6, z7, z8, z9, z10, z11, z12]) rfl ⟨KF, _, _, rfl, (HR2.out.keep KR fun i hi hp e => by omega).mono fun _ _ _ => trivial, (HX.out.keep KR fun i hi hp e => by omega).mono fun _ _ _ => trivial⟩
end Go.Proofs.Ytdmnflngafbobaa
