/-
  impl.plain: a header of the package as one of the thin package. Conditions: those that stand in each theorem.
-/
import Derived.Test.YtdmnflngafbobaaDoorClone
namespace Go.Proofs.YtdmnflngafbobaaDoor
open Go.RowKit
set_option linter.unusedVariables false
set_option linter.unusedSimpArgs false
set_option maxRecDepth 20000

/-- The head of a block reads as these cells. -/
def Pre (w : World) (g : Nat) (cs : Array Value) : Prop := ∃ t full, Blk w g t full ∧ ∀ (i : Nat) (v : Value), cs[i]? = some v → full[i]? = some v
section
variable {w w' : World} {g : Nat} {cs : Array Value} {S : Nat → Prop}
theorem Blk.pre {t : TypeId} (h : Blk w g t cs) : Pre w g cs := ⟨t, cs, h, fun _ _ h => h⟩
theorem Pre.cell (h : Pre w g cs) (i : Nat) {v : Value} (hv : cs[i]? = some v) : w.cell? ⟨g, i, none⟩ = some v := by
  obtain ⟨t, full, hb, hc⟩ := h
  exact hb.cell i (hc i v hv)
theorem Pre.lt (h : Pre w g cs) : g < w.heap.size := by
  obtain ⟨t, full, hb, hc⟩ := h
  exact hb.lt
theorem Pre.keep (h : Pre w g cs) (k : Keep w w' S) (hg : ¬ S g) : Pre w' g cs := by
  obtain ⟨t, full, hb, hc⟩ := h
  exact ⟨t, full, hb.keep k hg, hc⟩
theorem Pre.alloc (h : Pre w g cs) (o : Obj) : Pre (w.alloc o) g cs := by
  obtain ⟨t, full, hb, hc⟩ := h
  exact ⟨t, full, hb.alloc o, hc⟩
theorem Pre.drew (h : Pre w g cs) : Pre w.drew g cs := h
theorem Pre.far (h : Pre w g cs) {p : Addr} (hp : g ≠ p.block) (u : Value) : Pre (w.setCell p u) g cs := by
  obtain ⟨t, full, hb, hc⟩ := h
  exact ⟨t, full, hb.far hp u, hc⟩
end

set_option maxHeartbeats 3200000 in
theorem iplain_walk {p : Nat → Prop} {g : Nat} {hd : Hd} {sv xv : Value} {off : Int} (w : World) (hb : Pre w g (rcells hd sv xv off)) (hS : Rd w p 1 sv hd.srcs.length (U32 hd.srcs)) (hX : XR w p xv hd.exts)
    (hn : hd.exts.length ≤ 2147483647) (hs : hd.srcs.length ≤ 2147483647) (hdn : ∀ x ∈ hd.exts, x.data.length ≤ 2147483647) :
    Calls Tryd.prog 66 #[.pointer (some ⟨g, 0, none⟩)] w fun e w' => Keep w w' Nul ∧ ∃ sv' xv', e = .returned (.agg (hcells hd sv' xv')) ∧ HV w' (w.heap.size ≤ ·) (.agg (hcells hd sv' xv')) hd := by
  replace hS := hS.mono (q := (· < w.heap.size)) (fun k hk _ => hk)
  replace hX := hX.mono (q := (· < w.heap.size)) (fun k hk _ => hk)
  obtain ⟨A1, c1, rfl⟩ := hS.shape
  obtain ⟨A2, c2, rfl⟩ := hX.shape
  have H1 := hide hS
  have H2 := hide hX
  have HD := hide hdn
  have hgw := hb.lt
  have HBG := hide hb
  clear hS hX hdn hb
  go_enter Tryd.func66, Tryd.ntmps66
  go_upto_region 1 with fail
  generalize hwa : World.alloc w _ = wa
  have B2 := hide (show Blk wa w.heap.size 35 hzero by subst hwa; exact Blk.new w _ _)
  have HK := hide (show Keep w wa Nul by subst hwa; exact (Keep.refl w Nul).alloc _)
  have hsz : wa.heap.size = w.heap.size + 1 := by subst hwa; simp [World.size_alloc]
  clear hwa
  have BG := hide (HBG.out.keep HK.out id)
  have b0 := BG.out.cell 0 (v := .int .u8 hd.v) rfl
  have b1 := BG.out.cell 1 (v := .bool hd.pad) rfl
  have b2 := BG.out.cell 2 (v := .bool hd.ext) rfl
  have b3 := BG.out.cell 3 (v := .bool hd.mark) rfl
  have b4 := BG.out.cell 4 (v := .int .u8 hd.ty) rfl
  have b5 := BG.out.cell 5 (v := .int .u16 hd.seq) rfl
  have b6 := BG.out.cell 6 (v := .int .u32 hd.time) rfl
  have b7 := BG.out.cell 7 (v := .int .u32 hd.ssrc) rfl
  have b8 := BG.out.cell 8 (v := .slice A1 hd.srcs.length c1) rfl
  have b9 := BG.out.cell 9 (v := .int .u16 hd.prof) rfl
  have b11 := BG.out.cell 11 (v := .int .u8 hd.padn) rfl
  have hC := hide (clone_u wa.drew ((H1.out.keep0 HK.out).drew) (U32_one _) (by omega))
  have hC2 := hide (fun o => clone_u (wa.drew.alloc o) (((H1.out.keep0 HK.out).drew).alloc o) (U32_one _) (by omega))
  go_cut [3] (fun s3 wx => Keep wa wx Nul ∧ ∃ (g3 : Nat) (sv : Value), s3 = .pointer (some ⟨g3, 0, none⟩) ∧ wa.heap.size ≤ g3 ∧ Blk wx g3 35 (hcells hd sv (.slice none 0 0)) ∧ Own wx wa.heap.size 23 1 sv hd.srcs.length (U32 hd.srcs))
  case first =>
    have HSZ := hide hsz
    clear hsz
    have SOf : ∀ w', Pre w' g (rcells hd (.slice A1 hd.srcs.length c1) (.slice A2 hd.exts.length c2) off) → (w'.cell? ⟨g, 0, none⟩ = some (.int .u8 hd.v) ∧ w'.cell? ⟨g, 1, none⟩ = some (.bool hd.pad) ∧ w'.cell? ⟨g, 2, none⟩ = some (.bool hd.ext) ∧ w'.cell? ⟨g, 3, none⟩ = some (.bool hd.mark) ∧ w'.cell? ⟨g, 4, none⟩ = some (.int .u8 hd.ty) ∧ w'.cell? ⟨g, 5, none⟩ = some (.int .u16 hd.seq) ∧ w'.cell? ⟨g, 6, none⟩ = some (.int .u32 hd.time) ∧ w'.cell? ⟨g, 7, none⟩ = some (.int .u32 hd.ssrc) ∧ w'.cell? ⟨g, 8, none⟩ = some (.slice A1 hd.srcs.length c1) ∧ w'.cell? ⟨g, 9, none⟩ = some (.int .u16 hd.prof) ∧ w'.cell? ⟨g, 11, none⟩ = some (.int .u8 hd.padn)) := fun w' h => ⟨h.cell 0 rfl, h.cell 1 rfl, h.cell 2 rfl, h.cell 3 rfl, h.cell 4 rfl, h.cell 5 rfl, h.cell 6 rfl, h.cell 7 rfl, h.cell 8 rfl, h.cell 9 rfl, h.cell 11 rfl⟩
    have bx0 := hide BG.out.drew
    have SO := hide SOf
    clear SOf
    go_region_held3 (fun w' => w'.cell? ⟨g, 0, none⟩ = some (.int .u8 hd.v) ∧ w'.cell? ⟨g, 1, none⟩ = some (.bool hd.pad) ∧ w'.cell? ⟨g, 2, none⟩ = some (.bool hd.ext) ∧ w'.cell? ⟨g, 3, none⟩ = some (.bool hd.mark) ∧ w'.cell? ⟨g, 4, none⟩ = some (.int .u8 hd.ty) ∧ w'.cell? ⟨g, 5, none⟩ = some (.int .u16 hd.seq) ∧ w'.cell? ⟨g, 6, none⟩ = some (.int .u32 hd.time) ∧ w'.cell? ⟨g, 7, none⟩ = some (.int .u32 hd.ssrc) ∧ w'.cell? ⟨g, 8, none⟩ = some (.slice A1 hd.srcs.length c1) ∧ w'.cell? ⟨g, 9, none⟩ = some (.int .u16 hd.prof) ∧ w'.cell? ⟨g, 11, none⟩ = some (.int .u8 hd.padn))
      (first | with_reducible exact SO.out _ bx0.out | with_reducible exact SO.out _ BX1.out | with_reducible exact SO.out _ (BX1.out.alloc _) | with_reducible exact SO.out _ bx2.out | exact SO.out _ (bx0.out.alloc _))
      (first
        | (go_at_call 96; (first | refine hC.out.mono ?_ | refine (hC2.out _).mono ?_); rintro e w1 ⟨v1, rfl, o1, k1, -⟩; have bx1 : Pre w1 g (rcells hd (.slice A1 hd.srcs.length c1) (.slice A2 hd.exts.length c2) off) := (by first | exact bx0.out.keep k1 id | exact (bx0.out.alloc _).keep k1 id); have o1 := o1.low (B' := wa.heap.size) (by first | exact Nat.le_refl _ | exact ((Keep.refl wa.drew Nul).alloc _).size); obtain ⟨Ac, cc, rfl⟩ := o1.rd.shape; (try (have hzb : Blk w1 wa.heap.size 35 hzero := Blk.keep (show Blk (wa.drew.alloc (.cells hzero 35)) wa.heap.size 35 hzero from Blk.new wa.drew _ _) k1 id; have fz := fun i => hzb.free i; have y0 := hzb.cell 0 (v := .int .u8 0) rfl; have y1 := hzb.cell 1 (v := .bool false) rfl; have y2 := hzb.cell 2 (v := .bool false) rfl; have y3 := hzb.cell 3 (v := .bool false) rfl; have y4 := hzb.cell 4 (v := .int .u8 0) rfl; have y5 := hzb.cell 5 (v := .int .u16 0) rfl; have y6 := hzb.cell 6 (v := .int .u32 0) rfl; have y7 := hzb.cell 7 (v := .int .u32 0) rfl; have y8 := hzb.cell 8 (v := .slice none 0 0) rfl; have y9 := hzb.cell 9 (v := .int .u16 0) rfl; have y10 := hzb.cell 10 (v := .slice none 0 0) rfl; have y11 := hzb.cell 11 (v := .int .u8 0) rfl; have lz := hzb.lt; have HZB := hide hzb; have bx2 := hide ((((((((((((bx1.far (p := ⟨wa.heap.size, 0, none⟩) (Nat.ne_of_lt BG.out.lt) (.int .u8 hd.v)).far (p := ⟨wa.heap.size, 1, none⟩) (Nat.ne_of_lt BG.out.lt) (.bool hd.pad)).far (p := ⟨wa.heap.size, 2, none⟩) (Nat.ne_of_lt BG.out.lt) (.bool hd.ext)).far (p := ⟨wa.heap.size, 3, none⟩) (Nat.ne_of_lt BG.out.lt) (.bool hd.mark)).far (p := ⟨wa.heap.size, 4, none⟩) (Nat.ne_of_lt BG.out.lt) (.int .u8 hd.ty)).far (p := ⟨wa.heap.size, 5, none⟩) (Nat.ne_of_lt BG.out.lt) (.int .u16 hd.seq)).far (p := ⟨wa.heap.size, 6, none⟩) (Nat.ne_of_lt BG.out.lt) (.int .u32 hd.time)).far (p := ⟨wa.heap.size, 7, none⟩) (Nat.ne_of_lt BG.out.lt) (.int .u32 hd.ssrc)).far (p := ⟨wa.heap.size, 8, none⟩) (Nat.ne_of_lt BG.out.lt) (.slice Ac hd.srcs.length cc)).far (p := ⟨wa.heap.size, 9, none⟩) (Nat.ne_of_lt BG.out.lt) (.int .u16 hd.prof)).far (p := ⟨wa.heap.size, 10, none⟩) (Nat.ne_of_lt BG.out.lt) (.slice none 0 0)).far (p := ⟨wa.heap.size, 11, none⟩) (Nat.ne_of_lt BG.out.lt) (.int .u8 hd.padn)); clear hzb)); have BX1 := hide bx1; have O1 := hide o1; have K1 := hide k1; clear bx1 o1 k1))
    · have o1 := O1.out
      have k1 := K1.out
      have o2 := o1.alloc (.cells (hcells hd (.slice Ac hd.srcs.length cc) (.slice none 0 0)) 35)
      have O2 := hide o2
      have bn := hide (Blk.new w1 35 (hcells hd (.slice Ac hd.srcs.length cc) (.slice none 0 0)))
      have kn := hide ((((Keep.refl wa Nul).drew).trans0 k1).alloc (.cells (hcells hd (.slice Ac hd.srcs.length cc) (.slice none 0 0)) 35))
      have hz := k1.size
      clear o1 k1 o2
      go_wp2_with fail
      go_meet
      exact ⟨kn.out, _, _, rfl, hz, bn.out, O2.out⟩
    · have o1 := O1.out
      have k1 := K1.out
      have hzb := HZB.out
      have HF := ((((((((((((hzb.set_ 0 (.int .u8 hd.v)).set_ 1 (.bool hd.pad)).set_ 2 (.bool hd.ext)).set_ 3 (.bool hd.mark)).set_ 4 (.int .u8 hd.ty)).set_ 5 (.int .u16 hd.seq)).set_ 6 (.int .u32 hd.time)).set_ 7 (.int .u32 hd.ssrc)).set_ 8 (.slice Ac hd.srcs.length cc)).set_ 9 (.int .u16 hd.prof)).set_ 10 (.slice none 0 0)).set_ 11 (.int .u8 hd.padn))
      rw [set_all] at HF
      have hg : wa.heap.size < wa.heap.size → Nul wa.heap.size := fun h => by omega
      have KF : Keep wa _ Nul := (((((((((((Keep.setg (g := wa.heap.size) ((((Keep.refl wa Nul).drew).alloc _).trans0 k1) 0 hg (.int .u8 hd.v)).setg 1 hg (.bool hd.pad)).setg 2 hg (.bool hd.ext)).setg 3 hg (.bool hd.mark)).setg 4 hg (.int .u8 hd.ty)).setg 5 hg (.int .u16 hd.seq)).setg 6 hg (.int .u32 hd.time)).setg 7 hg (.int .u32 hd.ssrc)).setg 8 hg (.slice Ac hd.srcs.length cc)).setg 9 hg (.int .u16 hd.prof)).setg 10 hg (.slice none 0 0)).setg 11 hg (.int .u8 hd.padn)
      have hg' : wa.heap.size < w1.heap.size → (· = wa.heap.size) wa.heap.size := fun _ => rfl
      have KR := ((((((((((((Keep.refl w1 (· = wa.heap.size)).setg 0 hg' (.int .u8 hd.v)).setg 1 hg' (.bool hd.pad)).setg 2 hg' (.bool hd.ext)).setg 3 hg' (.bool hd.mark)).setg 4 hg' (.int .u8 hd.ty)).setg 5 hg' (.int .u16 hd.seq)).setg 6 hg' (.int .u32 hd.time)).setg 7 hg' (.int .u32 hd.ssrc)).setg 8 hg' (.slice Ac hd.srcs.length cc)).setg 9 hg' (.int .u16 hd.prof)).setg 10 hg' (.slice none 0 0)).setg 11 hg' (.int .u8 hd.padn)
      have oF := hide (o1.keep KR (fun q hq e => o1.ne_ hzb (by decide) (e ▸ hq)))
      have HF := hide HF
      have KF := hide KF
      clear KR o1 k1 hzb bx2 fz y0 y1 y2 y3 y4 y5 y6 y7 y8 y9 y10 y11
      go_wp2_with fail
      go_meet
      exact ⟨KF.out, _, _, rfl, Nat.le_refl _, HF.out, oF.out⟩
  case rest =>
  obtain ⟨kc, g3, sv, rfl, hg, hB, hS⟩ := hcut
  obtain ⟨As, cs', rfl⟩ := hS.rd.shape
  have HKC := hide kc
  have HB := hide hB
  have HS := hide hS
  have t10 := (BG.out.keep kc id).cell 10 (v := .slice A2 hd.exts.length c2) rfl
  have hzc := kc.size
  clear kc hB hS b0 b1 b2 b3 b4 b5 b6 b7 b8 b9 b11 hC hC2
  go_wp2_with fail
  go_loopw [57] (fun i wr => ∃ (k : Nat) (u : Value) (ds : List Value), k ≤ hd.exts.length ∧ i = .int .i64 k ∧ Blk wr g3 35 (hcells hd (.slice As hd.srcs.length cs') u) ∧ Own wr wc.heap.size 102 2 u k (xcells (hd.exts.take k) ds) ∧ Ds wr (Byt wr wc.heap.size) (hd.exts.take k) ds ∧ Keep wc wr (· = g3)) (fun i _ => hd.exts.length - (intOf i).toNat)
  case atStart => exact ⟨0, .slice none 0 0, [], Nat.zero_le _, rfl, HB.out, Own.nil_ _ _ _ _, ⟨rfl, by simp⟩, Keep.refl _ _⟩
  case round =>
    obtain ⟨k, u, ds, hk, rfl, hB, hO, hD, hK⟩ := hrel
    by_cases hlt : k < hd.exts.length
    · have hg' : hd.exts[k]? = some hd.exts[k] := List.getElem?_eq_getElem _
      obtain ⟨b, o, c', d, hv, q1, q2, q3, q4, p5, p6, q7⟩ := H2.out.at_ hg'
      injection hv with e1 _ e3
      subst e1 e3
      have HG := hide hg'
      have hxl := HD.out _ (List.mem_of_getElem? hg')
      clear hg'
      generalize hd.exts[k] = x at *
      have hKw : Keep w wr Nul := (HK.out.trans0 HKC.out).trans hK (fun i hi e => by omega)
      have q5 := hKw.cell id p5
      have q6 := hKw.cell id p6
      obtain ⟨A', c2', rfl⟩ := q7.shape
      have Q7 := hide (q7.keep0 hKw)
      have hsz2 := hK.size
      have hgl := hB.lt
      obtain ⟨Au, cu, rfl⟩ := hO.rd.shape
      have HNE := hide (hO.ne_ hB (by decide))
      have HB' := hide hB
      have HO := hide hO
      have HDD := hide hD
      have HKr := hide hK
      have HKw := hide hKw
      clear q7 p5 p6 hB hO hD hK hKw
      go_upto_region 5 with fail
      generalize hwb : World.alloc wr _ = wb
      have XB := hide (show Blk wb wr.heap.size 139 #[.int .u8 x.id, .slice A' x.data.length c2'] by subst hwb; exact Blk.new wr _ _)
      have KB := hide (show Keep wr wb Nul by subst hwb; exact (Keep.refl wr Nul).alloc _)
      have HBB := hide (HB'.out.keep KB.out id)
      have hwbs : wb.heap.size = wr.heap.size + 1 := by subst hwb; simp [World.size_alloc]
      clear hwb
      have e0 := XB.out.cell 0 (v := .int .u8 x.id) rfl
      have e1 := XB.out.cell 1 (v := .slice A' x.data.length c2') rfl
      have t10' := HBB.out.cell 10 (v := .slice Au k cu) rfl
      have hgb := HBB.out.lt
      have hxb := XB.out.lt
      have Q7b := hide ((Q7.out.keep0 KB.out).drew)
      have HOB := hide ((HO.out.keep0 KB.out).keep0 ((Keep.refl wb Nul).drew))
      refine wp_region_noPanic ?_
      refine region_last' (S := fun w' => w'.cell? ⟨wr.heap.size, 0, none⟩ = some (.int .u8 x.id) ∧ w'.cell? ⟨wr.heap.size, 1, none⟩ = some (.slice A' x.data.length c2') ∧ w'.cell? ⟨g3, 10, none⟩ = some (.slice Au k cu)) (by kernel_rfl) (by kernel_rfl) (by simp only [List.dropLast_cons_cons, List.dropLast_singleton]; rfl) (by simp only [List.getLast?_cons_cons, List.getLast?_singleton]; rfl) (⟨e0, e1, t10'⟩) (fun hHeld => ?_)
      simp only [List.length_cons, List.length_nil, Nat.reduceAdd, Nat.zero_add]
      refine wpAnyH_take (i := 0) (v := ?_) (by simp only [List.getElem?_toArray, List.getElem?_cons_succ, List.getElem?_cons_zero]; rfl) (by kernel_rfl) (by kernel_rfl) (by kernel_rfl) (fun _ _ _ h => h) (Or.inl ⟨by rfl, ?_⟩) (by assumption) ?_
      rotate_left 1
      · (intro w hSw; (try dsimp only at hSw); go_simp; (try with_reducible rfl))
      try simp only [Act.put, List.setIfInBounds_toArray, List.set_cons_zero, List.set_cons_succ]
      refine wpAnyH_take (i := 1) (v := ?_) (by simp only [List.getElem?_toArray, List.getElem?_cons_succ, List.getElem?_cons_zero]; rfl) (by kernel_rfl) (by kernel_rfl) (by kernel_rfl) (fun _ _ _ h => h) (Or.inl ⟨by rfl, ?_⟩) (by assumption) ?_
      rotate_left 1
      · (intro w hSw; (try dsimp only at hSw); go_simp; (try with_reducible rfl))
      try simp only [Act.put, List.setIfInBounds_toArray, List.set_cons_zero, List.set_cons_succ]
      refine wpAnyH_take (i := 2) (v := ?_) (by simp only [List.getElem?_toArray, List.getElem?_cons_succ, List.getElem?_cons_zero]; rfl) (by kernel_rfl) (by kernel_rfl) (by kernel_rfl) (fun _ _ _ h => h) (Or.inl ⟨by rfl, ?_⟩) (by assumption) ?_
      rotate_left 1
      · (intro w hSw; (try dsimp only at hSw); go_simp; (try with_reducible rfl))
      try simp only [Act.put, List.setIfInBounds_toArray, List.set_cons_zero, List.set_cons_succ]
      refine wpAnyH_take (i := 4) (v := ?_) (by simp only [List.getElem?_toArray, List.getElem?_cons_succ, List.getElem?_cons_zero]; rfl) (by kernel_rfl) (by kernel_rfl) (by kernel_rfl) (fun _ _ _ h => h) (Or.inl ⟨by rfl, ?_⟩) (by assumption) ?_
      rotate_left 1
      · (intro w hSw; (try dsimp only at hSw); go_simp; (try with_reducible rfl))
      try simp only [Act.put, List.setIfInBounds_toArray, List.set_cons_zero, List.set_cons_succ]
      refine wpAnyH_ready (rs := [3]) (by kernel_rfl) (by simp) ?_
      refine AllReadyH.cons (by simp only [List.getElem?_toArray, List.getElem?_cons_succ, List.getElem?_cons_zero]; rfl) (fun K hK => ?_) AllReadyH.nil
      go_simp
      go_at_call 100
      refine (id_walk _ x.id _).mono ?_
      rintro e wI ⟨rfl, jI⟩
      have kI : Keep wb.drew wI Nul := jI
      have bxI := XB.out.drew.keep kI id
      have hbI := HBB.out.drew.keep kI id
      have zI : wb.heap.size ≤ wI.heap.size := kI.size
      simp only []
      refine hK.out _ _ (⟨bxI.cell 0 rfl, bxI.cell 1 rfl, hbI.cell 10 rfl⟩) (fun hHeld => ?_)
      clear hK K
      try simp only [Act.put, List.setIfInBounds_toArray, List.set_cons_zero, List.set_cons_succ]
      refine wpAnyH_ready (rs := [5]) (by kernel_rfl) (by simp) ?_
      refine AllReadyH.cons (by simp only [List.getElem?_toArray, List.getElem?_cons_succ, List.getElem?_cons_zero]; rfl) (fun K hK => ?_) AllReadyH.nil
      go_simp
      go_at_call 101
      refine (payload_walk _ x.id _).mono ?_
      rintro e wP ⟨rfl, jP⟩
      have kP : Keep wb.drew wP Nul := kI.trans0 jP
      have bxP := XB.out.drew.keep kP id
      have hbP := HBB.out.drew.keep kP id
      have zP : wb.heap.size ≤ wP.heap.size := kP.size
      simp only []
      refine hK.out _ _ (⟨bxP.cell 0 rfl, bxP.cell 1 rfl, hbP.cell 10 rfl⟩) (fun hHeld => ?_)
      clear hK K
      try simp only [Act.put, List.setIfInBounds_toArray, List.set_cons_zero, List.set_cons_succ]
      refine wpAnyH_ready (rs := [6]) (by kernel_rfl) (by simp) ?_
      refine AllReadyH.cons (by simp only [List.getElem?_toArray, List.getElem?_cons_succ, List.getElem?_cons_zero]; rfl) (fun K hK => ?_) AllReadyH.nil
      go_simp
      go_at_call 65
      refine (clone_b _ (Q7b.out.keep0 kP) (B8_one _) (by omega)).mono ?_
      rintro e wC ⟨v1, rfl, o1, jC, -⟩
      have kC : Keep wb.drew wC Nul := kP.trans0 jC
      have bxC := XB.out.drew.keep kC id
      have hbC := HBB.out.drew.keep kC id
      have zC : wb.heap.size ≤ wC.heap.size := kC.size
      obtain ⟨Ac, cc, rfl⟩ := o1.rd.shape
      simp only []
      refine hK.out _ _ (⟨bxC.cell 0 rfl, bxC.cell 1 rfl, hbC.cell 10 rfl⟩) (fun hHeld => ?_)
      clear hK K
      try simp only [Act.put, List.setIfInBounds_toArray, List.set_cons_zero, List.set_cons_succ]
      refine wpAnyH_take (i := 7) (v := ?_) (by simp only [List.getElem?_toArray, List.getElem?_cons_succ, List.getElem?_cons_zero]; rfl) (by kernel_rfl) (by kernel_rfl) (by kernel_rfl) (fun _ _ _ h => h) (Or.inl ⟨by rfl, ?_⟩) (by assumption) ?_
      rotate_left 1
      · (intro w hSw; (try dsimp only at hSw); go_simp; (try with_reducible rfl))
      try simp only [Act.put, List.setIfInBounds_toArray, List.set_cons_zero, List.set_cons_succ]
      refine wpAnyH_ready (rs := [8]) (by kernel_rfl) (by simp) ?_
      refine AllReadyH.cons (by simp only [List.getElem?_toArray, List.getElem?_cons_succ, List.getElem?_cons_zero]; rfl) (fun K hK => ?_) AllReadyH.nil
      go_simp
      refine hK.out _ _ (⟨(bxC.alloc _).cell 0 rfl, (bxC.alloc _).cell 1 rfl, (hbC.alloc _).cell 10 rfl⟩) (fun hHeld => ?_)
      clear hK K
      try simp only [Act.put, List.setIfInBounds_toArray, List.set_cons_zero, List.set_cons_succ]
      refine wpAnyH_ready (rs := [9]) (by kernel_rfl) (by simp) ?_
      refine AllReadyH.cons (by simp only [List.getElem?_toArray, List.getElem?_cons_succ, List.getElem?_cons_zero]; rfl) (fun K hK => ?_) AllReadyH.nil
      refine step_app etI (by rfl) _ _ (by rfl) ((HOB.out.keep0 kC).alloc _) (by rfl) (src_one Tryd.underlying33 (by first | rfl | simp only [World.size_alloc]) rfl (by simp [Value.oneCell'])) (by rfl) (by simp only [maxLen]; omega) (by omega) (by simp only [World.size_alloc]; omega) ?_
      intro v3 w3 o3 k3 b3 z3 _
      have kL : Keep wb.drew w3 (fun q => (Value.slice Au k cu).ownBlock = some q) := ((kC.nul _).alloc _).trans k3 fun _ _ e => e
      have hb3 := HBB.out.drew.keep kL HNE.out
      have f10 := hb3.free 10
      have g10 := hb3.cell 10 (v := .slice Au k cu) rfl
      have l3 := hb3.lt
      have bx3 := XB.out.drew.keep kL (fun e => by have := (HO.out.at_ _ e).2.1; omega)
      obtain ⟨A5, c5, rfl⟩ := o3.rd.shape
      refine hK.out _ _ (⟨bx3.cell 0 rfl, bx3.cell 1 rfl, hb3.cell 10 rfl⟩) (fun hHeld => ?_)
      clear hK K
      try simp only [Act.put, List.setIfInBounds_toArray, List.set_cons_zero, List.set_cons_succ]
      refine wpAnyH_take (i := 10) (v := ?_) (by simp only [List.getElem?_toArray, List.getElem?_cons_succ, List.getElem?_cons_zero]; rfl) (by kernel_rfl) (by kernel_rfl) (by kernel_rfl) (fun _ _ _ h => h) (Or.inl ⟨by rfl, ?_⟩) (by assumption) ?_
      rotate_left 1
      · (intro w hSw; (try dsimp only at hSw); go_simp; (try with_reducible rfl))
      try simp only [Act.put, List.setIfInBounds_toArray, List.set_cons_zero, List.set_cons_succ]
      refine wpAnyH_done (by kernel_rfl) ?_ _
      intro K hK
      have kk : Keep wr w3 (fun q => (Value.slice Au k cu).ownBlock = some q) := ((KB.out.drew.nul _).trans kL fun _ _ e => e)
      have hat := HO.out.at_
      have kw : Keep wc w3 (· = g3) := HKr.out.trans kk fun i hi e => by have := (hat i e).1; omega
      have k13 : Keep wC w3 (fun q => (Value.slice Au k cu).ownBlock = some q) := ((Keep.refl wC _).alloc _).trans k3 fun _ _ e => e
      have od := (o1.byt.byt k13 (fun i hi => hi.ne_own (HOB.out.keep0 kC) (by decide)))
      have od := od.mono (q := Byt w3 wc.heap.size) (fun i _ hi => hi.low (by omega))
      have od2 := (HDD.out.byt kk (fun i hi => hi.ne_own HO.out (by decide))).snoc od
      have kst : Keep w3 (w3.setCell ⟨g3, 10, none⟩ (.slice A5 (k + 1) c5)) (· = g3) := Keep.set1 _ _ _ _
      have hb4 := hide (hb3.set_ 10 (.slice A5 (k + 1) c5))
      have ho4 := hide (o3.keep kst (fun q hq e => o3.ne_ hb3 (by decide) (e ▸ hq)))
      have hd4 := hide (od2.byt kst (fun i hi => hi.ne_blk hb3 (by decide)))
      have hk4 := hide (kw.setg 10 (fun _ => rfl) (.slice A5 (k + 1) c5))
      clear kk hat kw k13 od od2 kst o1 jI jP jC kI kP kC kL o3 k3 b3 z3 bxI bxP bxC hbI hbP hbC hb3 bx3
      go_simp
      refine hK _ _ (NoPanic.normal ?_)
      clear hK K
      go_wp2_with fail
      go_roundw
      case rel =>
        refine ⟨k + 1, .slice A5 (k + 1) c5, ds ++ [.slice Ac x.data.length cc], by omega, by go_num, hb4.out, ?_, ?_, hk4.out⟩
        · obtain ⟨hk', e⟩ := List.getElem?_eq_some_iff.1 HG.out
          rw [List.take_succ_eq_append_getElem hk', e, xcells_snoc _ _ _ _ HDD.out.1]
          exact ho4.out
        · obtain ⟨hk', e⟩ := List.getElem?_eq_some_iff.1 HG.out
          rw [List.take_succ_eq_append_getElem hk', e]
          exact hd4.out
      case measure => simp [intOf]; omega
    · obtain rfl : k = hd.exts.length := by omega
      rw [List.take_length] at hO hD
      have hKw : Keep w wr Nul := (HK.out.trans0 HKC.out).trans hK (fun i hi e => by omega)
      have hs2 := HS.out.keep hK (fun q hq e => HS.out.ne_ HB.out (by decide) (e ▸ hq))
      obtain ⟨Au, cu, rfl⟩ := hO.rd.shape
      have hb2 := (B2.out.keep HKC.out id).keep hK (fun e => by omega)
      have x0 := hB.cell 0 (v := .int .u8 hd.v) rfl
      have x1 := hB.cell 1 (v := .bool hd.pad) rfl
      have x2 := hB.cell 2 (v := .bool hd.ext) rfl
      have x3 := hB.cell 3 (v := .bool hd.mark) rfl
      have x4 := hB.cell 4 (v := .int .u8 hd.ty) rfl
      have x5 := hB.cell 5 (v := .int .u16 hd.seq) rfl
      have x6 := hB.cell 6 (v := .int .u32 hd.time) rfl
      have x7 := hB.cell 7 (v := .int .u32 hd.ssrc) rfl
      have x8 := hB.cell 8 (v := .slice As hd.srcs.length cs') rfl
      have x9 := hB.cell 9 (v := .int .u16 hd.prof) rfl
      have x10 := hB.cell 10 (v := .slice Au hd.exts.length cu) rfl
      have x11 := hB.cell 11 (v := .int .u8 hd.padn) rfl
      have y0 := hb2.cell 0 (v := .int .u8 0) rfl
      have y1 := hb2.cell 1 (v := .bool false) rfl
      have y2 := hb2.cell 2 (v := .bool false) rfl
      have y3 := hb2.cell 3 (v := .bool false) rfl
      have y4 := hb2.cell 4 (v := .int .u8 0) rfl
      have y5 := hb2.cell 5 (v := .int .u16 0) rfl
      have y6 := hb2.cell 6 (v := .int .u32 0) rfl
      have y7 := hb2.cell 7 (v := .int .u32 0) rfl
      have y8 := hb2.cell 8 (v := .slice none 0 0) rfl
      have y9 := hb2.cell 9 (v := .int .u16 0) rfl
      have y10 := hb2.cell 10 (v := .slice none 0 0) rfl
      have y11 := hb2.cell 11 (v := .int .u8 0) rfl
      have fr2 := fun i => hb2.free i
      have hzr := hK.size
      have HK3 := hide hKw
      have HB := hide hB
      have HO := hide hO
      have HDD := hide hD
      have HS2 := hide hs2
      have HB2 := hide hb2
      clear hK hKw hO hD hb2 hB hs2
      go_wp2_with fail
      have HF := ((((((((((((HB2.out.set_ 0 (.int .u8 hd.v)).set_ 1 (.bool hd.pad)).set_ 2 (.bool hd.ext)).set_ 3 (.bool hd.mark)).set_ 4 (.int .u8 hd.ty)).set_ 5 (.int .u16 hd.seq)).set_ 6 (.int .u32 hd.time)).set_ 7 (.int .u32 hd.ssrc)).set_ 8 (.slice As hd.srcs.length cs')).set_ 9 (.int .u16 hd.prof)).set_ 10 (.slice Au hd.exts.length cu)).set_ 11 (.int .u8 hd.padn))
      rw [set_all] at HF
      have hg : w.heap.size < w.heap.size → Nul w.heap.size := fun h => by omega
      have hg' : w.heap.size < wr.heap.size → (· = w.heap.size) w.heap.size := fun _ => rfl
      have KF : Keep w _ Nul := (((((((((((Keep.setg (g := w.heap.size) HK3.out 0 hg (.int .u8 hd.v)).setg 1 hg (.bool hd.pad)).setg 2 hg (.bool hd.ext)).setg 3 hg (.bool hd.mark)).setg 4 hg (.int .u8 hd.ty)).setg 5 hg (.int .u16 hd.seq)).setg 6 hg (.int .u32 hd.time)).setg 7 hg (.int .u32 hd.ssrc)).setg 8 hg (.slice As hd.srcs.length cs')).setg 9 hg (.int .u16 hd.prof)).setg 10 hg (.slice Au hd.exts.length cu)).setg 11 hg (.int .u8 hd.padn)
      have KR := ((((((((((((Keep.refl wr (· = w.heap.size)).setg 0 hg' (.int .u8 hd.v)).setg 1 hg' (.bool hd.pad)).setg 2 hg' (.bool hd.ext)).setg 3 hg' (.bool hd.mark)).setg 4 hg' (.int .u8 hd.ty)).setg 5 hg' (.int .u16 hd.seq)).setg 6 hg' (.int .u32 hd.time)).setg 7 hg' (.int .u32 hd.ssrc)).setg 8 hg' (.slice As hd.srcs.length cs')).setg 9 hg' (.int .u16 hd.prof)).setg 10 hg' (.slice Au hd.exts.length cu)).setg 11 hg' (.int .u8 hd.padn)
      have z0 := HF.cell 0 (v := .int .u8 hd.v) rfl
      have z1 := HF.cell 1 (v := .bool hd.pad) rfl
      have z2 := HF.cell 2 (v := .bool hd.ext) rfl
      have z3 := HF.cell 3 (v := .bool hd.mark) rfl
      have z4 := HF.cell 4 (v := .int .u8 hd.ty) rfl
      have z5 := HF.cell 5 (v := .int .u16 hd.seq) rfl
      have z6 := HF.cell 6 (v := .int .u32 hd.time) rfl
      have z7 := HF.cell 7 (v := .int .u32 hd.ssrc) rfl
      have z8 := HF.cell 8 (v := .slice As hd.srcs.length cs') rfl
      have z9 := HF.cell 9 (v := .int .u16 hd.prof) rfl
      have z10 := HF.cell 10 (v := .slice Au hd.exts.length cu) rfl
      have z11 := HF.cell 11 (v := .int .u8 hd.padn) rfl
      clear x0 y0 x1 y1 x2 y2 x3 y3 x4 y4 x5 y5 x6 y6 x7 y7 x8 y8 x9 y9 x10 y10 x11 y11
      have hs := HK.out.size
      refine bodyPost_ret (v := .agg (hcells hd (.slice As hd.srcs.length cs') (.slice Au hd.exts.length cu))) (by unfold hcells; simp [results, Tryd.results66, go_sem, z0, z1, z2, z3, z4, z5, z6, z7, z8, z9, z10, z11]) rfl ⟨KF, _, _, rfl, _, _, rfl, (HS2.out.rd.keep KR fun i hi hp e => by have := (HS2.out.at_ i hp).1; omega).mono fun i _ hp => ?_, ds, (HDD.out.byt KR fun i hi e => by have := hi.1; omega).mono fun i _ hp => ?_, (HO.out.rd.keep KR fun i hi hp e => by have := (HO.out.at_ i hp).1; omega).mono fun i _ hp => ?_⟩
      · have := (HS2.out.at_ i hp).1; omega
      · have := hp.1; omega
      · have := (HO.out.at_ i hp).1; omega
end Go.Proofs.YtdmnflngafbobaaDoor
