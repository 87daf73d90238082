/-
  The law FnCaptureTime returns true. Conditions: none beyond its row's.
-/
import Derived.Test.YtdlnmkpojiofoaaDoorCap2
import Derived.Deep.QuietTactic
import Derived.BigQuiet
namespace Go.Proofs.YtdlnmkpojiofoaaDoor
open Go.RowKit
set_option linter.unusedVariables false
set_option linter.unusedSimpArgs false
set_option maxRecDepth 20000

theorem etU : ET Tryd.prog 36 22 (.int .u64 0) 1 8 := ⟨Tryd.underlying36, by kernel_rfl, rfl, by decide⟩

/-- The numbers that are written, and their bytes. -/
def nums (t : Int) (ds : List Int) : List Int := t :: ds.map (· % 18446744073709551616)
def I64 (ds : List Int) : List Value := ds.map (Value.int .i64)
def U64 (ds : List Int) : List Value := ds.map (Value.int .u64)
def bytesOf (xs : List Int) : List Int := xs.flatMap by64

theorem nums_snoc (t : Int) (ds : List Int) (k : Nat) (d : Int) (h : ds[k]? = some d) : nums t (ds.take (k + 1)) = nums t (ds.take k) ++ [d % 18446744073709551616] := by
  unfold nums
  obtain ⟨hk, rfl⟩ := List.getElem?_eq_some_iff.1 h
  rw [List.take_succ_eq_append_getElem hk, List.map_append]
  rfl
theorem U64_app (a b : List Int) : U64 (a ++ b) = U64 a ++ U64 b := by simp [U64]
theorem U64_one (xs : List Int) : ∀ u ∈ U64 xs, u.oneCell' = true := by
  intro u hu
  obtain ⟨x, _, rfl⟩ := List.mem_map.1 hu
  rfl

theorem by64_snoc (x : Int) (h : 0 ≤ x ∧ x < 18446744073709551616) (j : Nat) (hj : j < 8) : (by64 x).take (j + 1) = (by64 x).take j ++ [x / 2 ^ (56 - 8 * j) % 256] := by
  have : j = 0 ∨ j = 1 ∨ j = 2 ∨ j = 3 ∨ j = 4 ∨ j = 5 ∨ j = 6 ∨ j = 7 := by omega
  rcases this with rfl | rfl | rfl | rfl | rfl | rfl | rfl | rfl <;> simp [by64] <;> omega
theorem bytesOf_snoc (xs : List Int) (k : Nat) (x : Int) (h : xs[k]? = some x) : bytesOf (xs.take (k + 1)) = bytesOf (xs.take k) ++ by64 x := by
  obtain ⟨hk, rfl⟩ := List.getElem?_eq_some_iff.1 h
  unfold bytesOf
  rw [List.take_succ_eq_append_getElem hk, List.flatMap_append]
  simp
theorem nums_range (t : Int) (ds : List Int) (ht : 0 ≤ t ∧ t < 18446744073709551616) : ∀ x ∈ nums t ds, 0 ≤ x ∧ x < 18446744073709551616 := by
  intro x hx
  rcases List.mem_cons.1 hx with rfl | hx
  · exact ht
  · obtain ⟨d, _, rfl⟩ := List.mem_map.1 hx
    omega

theorem bytes_isB (t : Int) (ds : List Int) (ht : 0 ≤ t ∧ t < 18446744073709551616) : IsB (bytesOf (nums t ds)) := by
  intro y hy
  obtain ⟨x, hx, hy⟩ := List.mem_flatMap.1 hy
  exact by64_isB x (nums_range t ds ht x hx) y hy

theorem ds_one {ds : List Int} {n : Nat} (hl : ds.length = n) (hn : n ≤ 1) : (n = 0 ∧ ds = []) ∨ ∃ d, n = 1 ∧ ds = [d] := by
  match ds, hl with
  | [], hl => exact .inl ⟨hl.symm, rfl⟩
  | [d], hl => exact .inr ⟨d, hl.symm, rfl⟩
  | _ :: _ :: _, hl => simp at hl; omega

theorem cap_format {p : Nat → Prop} {v : Value} {n : Nat} {ds : List Int} (t : Int) (ht : 0 ≤ t ∧ t < 18446744073709551616) (w : World) (h : Rd w p 1 v n (I64 ds)) (hn : n ≤ 1) (hd : ∀ d ∈ ds, -9223372036854775808 ≤ d ∧ d ≤ 9223372036854775807) :
    Calls Tryd.prog 11 #[.int .u64 t, v] w fun e w' => ∃ out, e = .returned (.tuple #[out, .bool true]) ∧ Keep w w' Nul ∧ Rd w' (w.heap.size ≤ ·) 1 out (8 * (1 + n)) (B8 (bytesOf (nums t ds))) := by
  have hl : ds.length = n := by have := h.len; simpa [I64] using this
  rcases ds_one hl hn with ⟨rfl, rfl⟩ | ⟨d, rfl, rfl⟩
  · obtain ⟨A, c, rfl⟩ := h.shape
    exact cap_format0 t ht w
  · exact cap_format1 t d ht (hd d (by simp)) w h

theorem cap_parse {p : Nat → Prop} {v : Value} {n : Nat} {ds : List Int} (t : Int) (ht : 0 ≤ t ∧ t < 18446744073709551616) (w : World) (hl : ds.length = n) (h : Rd w p 1 v (8 * (1 + n)) (B8 (bytesOf (nums t ds)))) (hn : n ≤ 1) (hd : ∀ d ∈ ds, -9223372036854775808 ≤ d ∧ d ≤ 9223372036854775807) :
    Calls Tryd.prog 12 #[v] w fun e w' => ∃ y, e = .returned (.tuple #[.int .u64 t, y, .bool true]) ∧ Keep w w' Nul ∧ Rd w' (fun _ => True) 1 y n (I64 ds) := by
  rcases ds_one hl hn with ⟨rfl, rfl⟩ | ⟨d, rfl, rfl⟩
  · exact (cap_parse8 w t ht h).mono fun e w' ⟨he, hk⟩ => ⟨_, he, hk, Rd.nil_ _ _ _⟩
  · refine (cap_parse16 w t d ht (hd d (by simp)) h).mono fun e w' ⟨g', hg, he, hb, hk⟩ => ⟨_, he, hk, ?_⟩
    exact (Own.of_blk (B := 0) (sz := 1) (n := 1) (cap := 1) hb (Nat.zero_le _) (by omega) (by simp [maxLen]) rfl).rd.mono fun _ _ _ => trivial

theorem cap_law {p : Nat → Prop} {v : Value} {n : Nat} {ds : List Int} (w : World) (t : Int) (ht : 0 ≤ t ∧ t < 18446744073709551616) (h : Rd w p 1 v n (I64 ds)) (hd : ∀ d ∈ ds, -9223372036854775808 ≤ d ∧ d ≤ 9223372036854775807) {te : TypeId} {ve : Value} (he : w.cell? ⟨0, 0, none⟩ = some (.iface te ve)) :
    Calls Tryd.prog 5 #[.int .u64 t, v] w fun e w' => e = .returned (.bool true) ∧ Below w.heap.size w w' := by
  have hn : ds.length = n := by have := h.len; simpa [I64] using this
  have hle := h.le
  have hv := h
  obtain ⟨_, A, c, rfl, hnc, hcm, _⟩ := hv
  by_cases c1 : (2147483647 : Int) < n
  · clear h he hd hcm hn
    go_enter Tryd.func5, Tryd.ntmps5
    go_wp2_with fail
    go_ret
    exact ⟨rfl, Below.refl _ _⟩
  by_cases c2 : (1 : Int) < n
  · clear h he hd hcm hn
    go_enter Tryd.func5, Tryd.ntmps5
    go_wp2_with fail
    go_ret
    exact ⟨rfl, Below.refl _ _⟩
  obtain ⟨t0, t1⟩ := ht
  have H := hide h
  have HE := hide he
  have HD := hide hd
  have HN := hide hn
  clear h he hd hn
  go_enter Tryd.func5, Tryd.ntmps5
  go_wp2_with fail
  go_loopw [6, 30] (fun u i wr => ∃ k : Nat, k ≤ n ∧ i = .int .i64 k ∧ Own wr w.heap.size 22 1 u (1 + k) (U64 (nums t (ds.take k))) ∧ Keep w wr Nul) (fun _ i _ => n - (intOf i).toNat)
  case atStart => exact ⟨0, Nat.zero_le _, rfl, Own.of_lit w #[.int .u64 t] 1 (by simp [maxLen]) rfl, (Keep.refl w _).alloc _⟩
  case round =>
    obtain ⟨k, hk, rfl, ho, hK⟩ := hrel
    by_cases hlt : k < n
    · obtain ⟨b, o, c', hvv, h2, h3, h4, h5, h6⟩ := H.out.lit (by omega)
      injection hvv with hA1 _ hA3
      subst hA1
      have hds : ds[k]? = some (ds[k]'(by have := HN.out; omega)) := List.getElem?_eq_getElem _
      have hcell := hK.cell id (h6 k _ (show (I64 ds)[k]? = some (.int .i64 (ds[k]'(by have := HN.out; omega))) by simp [I64, hds]))
      have hsn := hide (nums_snoc t ds k _ hds)
      generalize ds[k]'(by have := HN.out; omega) = d at *
      have eu : IntKind.u64.wrap d = d % 18446744073709551616 := IntKind.wrap_u64 d
      have hsz := hK.size
      have hS := src_of_rd (P := Tryd.prog) (wr.alloc (.cells #[.int .u64 (d % 18446744073709551616)] 22)) Tryd.underlying36 (Own.of_lit (e := 22) (sz := 1) wr #[.int .u64 (d % 18446744073709551616)] 1 (by simp [maxLen]) rfl).rd (U64_one [d % 18446744073709551616])
      have HDS := hide hds
      clear hds h6
      go_wp2_with (at_builtin; refine wpList_app etU rfl _ _ rfl (ho.alloc _) rfl hS rfl (by simp only [maxLen]; omega) (by omega) (by simp; omega) ?_; intro v' w1 ho1 hk1 hb1 hz1 _)
      go_roundw
      case rel => 
        refine ⟨_, _, _, ⟨k + 1, by omega, by go_num, ?_, (hK.alloc _).trans hk1 (fun i hi e => ?_)⟩, rfl, rfl, rfl⟩
        · rw [hsn.out, U64_app]
          rw [show 1 + (k + 1) = 1 + k + 1 by omega]
          exact ho1
        · exact absurd (ho.at_ i e).1 (by omega)
      case measure => simp [intOf]; omega
    · have hkn : k = n := by omega
      subst hkn
      rw [List.take_of_length_le (by have := HN.out; omega)] at ho
      have ho' := ho
      obtain ⟨A6, c6, rfl⟩ := ho'.rd.shape
      clear ho
      have hN1 : (nums t ds).length = k + 1 := by simp [nums, HN.out]
      have HN1 := hide hN1
      have HK := hide hK
      clear hN1 hK
      go_wp2_with fail
      go_loopw [5, 42] (fun u i wq => ∃ m : Nat, m ≤ 1 + k ∧ i = .int .i64 m ∧ Own wq w.heap.size 5 1 u (8 * m) (B8 (bytesOf ((nums t ds).take m))) ∧ Own wq w.heap.size 22 1 (.slice A6 (1 + k) c6) (1 + k) (U64 (nums t ds)) ∧ Keep w wq Nul) (fun _ i _ => 1 + k - (intOf i).toNat)
      case atStart => exact ⟨0, Nat.zero_le _, rfl, Own.nil_ _ _ _ _, ho', HK.out⟩
      case round =>
        obtain ⟨m, hm, rfl, hoW, hoL, hKq⟩ := hrel
        by_cases hlt2 : m < 1 + k
        · obtain ⟨b, o, c', hvv, h2, h3, h4, h5, h6⟩ := hoL.rd.lit (by omega)
          injection hvv with hA1 _ hA3
          subst hA1 hA3
          have hxs : (nums t ds)[m]? = some ((nums t ds)[m]'(by have := HN1.out; omega)) := List.getElem?_eq_getElem _
          have hcell := h6 m _ (show (U64 (nums t ds))[m]? = some (.int .u64 ((nums t ds)[m]'(by have := HN1.out; omega))) by simp [U64, hxs])
          have hxr := nums_range t ds ⟨t0, t1⟩ _ (List.mem_of_getElem? hxs)
          have HX := hide hxs
          generalize (nums t ds)[m]'_ = x at *
          clear hxs h6
          go_wp2_with fail
          go_loopw [5, 11] (fun u i wi => ∃ j : Nat, j ≤ 8 ∧ i = .int .i64 (56 - 8 * (j : Int)) ∧ Own wi w.heap.size 5 1 u (8 * m + j) (B8 (bytesOf ((nums t ds).take m) ++ (by64 x).take j)) ∧ Own wi w.heap.size 22 1 (.slice (some ⟨b, o, none⟩) (1 + k) c6) (1 + k) (U64 (nums t ds)) ∧ Keep w wi Nul) (fun _ i _ => (intOf i + 8).toNat)
          case atStart => exact ⟨0, Nat.zero_le _, rfl, by simpa using hoW, hoL, hKq⟩
          case round =>
            obtain ⟨j, hj, rfl, hoI, hoM, hKi⟩ := hrel
            by_cases hlt3 : j < 8
            · have hge : (0 : Int) ≤ 56 - 8 * (j : Int) := by omega
              have hsz := hKi.size
              have hsn2 := hide (by64_snoc x hxr j hlt3)
              have hS := src_of_rd (P := Tryd.prog) (wr.alloc (.cells #[.int .u8 (x / 2 ^ (56 - 8 * j) % 256)] 5)) Tryd.underlying23 (Own.of_lit (e := 5) (sz := 1) wr #[.int .u8 (x / 2 ^ (56 - 8 * j) % 256)] 1 (by simp [maxLen]) rfl).rd (B8_one [x / 2 ^ (56 - 8 * j) % 256])
              go_wp2_with (at_builtin; refine wpList_app etB rfl _ _ rfl (hoI.alloc _) rfl hS rfl (by simp only [maxLen]; omega) (by omega) (by simp; omega) ?_; intro v' w1 ho1 hk1 hb1 hz1 _)
              go_roundw
              case rel =>
                refine ⟨j + 1, by omega, by go_num, ?_, hoM.keep ((Keep.refl wr (fun k => _)).alloc _ |>.trans hk1 fun i _ e => e) (fun g hg e => hoI.ne_own hoM (by decide) e hg), (hKi.alloc _).trans hk1 (fun i hi e => ?_)⟩
                · rw [hsn2.out, ← List.append_assoc, B8_app]
                  exact ho1
                · exact absurd (hoI.at_ i e).1 (by omega)
              case measure => simp [intOf]; omega
            · obtain rfl : j = 8 := by omega
              go_wp2_with fail
              go_roundw
              case rel =>
                refine ⟨m + 1, by omega, by go_num, ?_, hoM, hKi⟩
                rw [bytesOf_snoc _ _ _ HX.out]
                exact hoI
              case measure => simp [intOf]; omega
        · have hmk : m = 1 + k := by omega
          subst hmk
          rw [List.take_of_length_le (by have := HN1.out; omega)] at hoW
          clear hoL ho' HK
          have HKq := hide hKq
          have hIB := hide (bytes_isB t ds ⟨t0, t1⟩)
          clear hKq
          have hF := hide (cap_format t ⟨t0, t1⟩ wr (H.out.keep0 HKq.out) (by omega) HD.out)
          go_wp2_with fail
          refine hF.out.mono ?_
          rintro e w1 ⟨out, rfl, k1, r1⟩
          have o1 := hoW.keep0 k1
          have hP := hide (cap_parse t ⟨t0, t1⟩ w1 HN.out o1.rd (by omega) HD.out)
          have HK1 := hide (HKq.out.trans0 k1)
          clear k1 hF hoW HKq
          obtain ⟨A1, c1, rfl⟩ := r1.shape
          obtain ⟨A2, c2, rfl⟩ := o1.rd.shape
          go_wp2_with fail
          refine hP.out.mono ?_
          rintro e w2 ⟨y, rfl, k2, r2⟩
          have o2 := o1.keep0 k2
          have HK2 := hide (HK1.out.trans0 k2)
          have r3 := r1.keep0 k2
          have r4 := o2.rd.take 7 (by omega)
          clear r1 o1 HK1 hP k2
          obtain ⟨A3, c3, rfl⟩ := r2.shape
          have hc2 : (7 : Int) ≤ (c2 : Int) := by
            obtain ⟨_, _, _, e, h, _⟩ := o2.rd
            injection e with e1 e2 e3
            omega
          have hS := hide (cap_parse_short w2 r4 (fun u hu => B8_one _ u (List.mem_of_mem_take hu)) (by omega) (HK2.out.cell id HE.out))
          go_wp2_with fail
          refine hS.out.mono ?_
          rintro e w3 ⟨rfl, k3⟩
          have HK3 := hide (HK2.out.trans0 k3)
          have s1 := fun n : Nat => run_str (P := Tryd.prog) (tb := 23) (ts := 9) Tryd.underlying23 Tryd.underlying5 Tryd.underlying9 ((r3.keep0 k3).keep0 ((Keep.refl w3 Nul).drewN n)) hIB.out
          have s2 := fun n : Nat => run_str (P := Tryd.prog) (tb := 23) (ts := 9) Tryd.underlying23 Tryd.underlying5 Tryd.underlying9 ((o2.keep0 k3).keep0 ((Keep.refl w3 Nul).drewN n)).rd hIB.out
          have r5 := r2.keep0 k3
          have r6 := H.out.keep0 HK3.out
          clear hS r2 r3 r4 o2 k3 HK2 HE hcm
          rcases ds_one HN.out (by omega) with ⟨rfl, rfl⟩ | ⟨d, rfl, rfl⟩
          · clear r5 r6
            simp only [Nat.reduceAdd, Nat.reduceMul, Nat.add_zero] at s1 s2
            go_wp2_with fail
            go_quiet (fail)
            go_wp2_with fail
            go_ret
            exact ⟨rfl, (HK3.out.drewN _).below0⟩
          · obtain ⟨b5, o5, c5, e5, _, _, _, _, q5⟩ := r5.lit (by omega)
            obtain ⟨b6, o6, c6', e6, _, _, _, _, q6⟩ := r6.lit (by omega)
            injection e5 with e5 _ _
            injection e6 with e6 _ _
            subst e5 e6
            have q5 := q5 0 _ rfl
            have q6 := q6 0 _ rfl
            simp only [Nat.add_zero] at q5 q6
            clear r5 r6
            simp only [Nat.reduceAdd, Nat.reduceMul, Nat.add_zero] at s1 s2
            go_wp2_with fail
            go_quiet (fail)
            go_wp2_with fail
            go_ret
            exact ⟨rfl, (HK3.out.drewN _).below0⟩
end Go.Proofs.YtdlnmkpojiofoaaDoor
