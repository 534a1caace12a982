/-
  The walk of FnCheckEntriesJoinsAtAnyCut.
-/
import Derived.Test.Qxb6616790aDoorEntries
import Derived.Test.Qxb6616790aDoorTail
import Derived.Deep.Cut
import Derived.Deep.CutRange
import Derived.Deep.DeepCutAuto
namespace Go.Proofs.Qxb6616790aDoor.Ce
open Go.RowKit

theorem Tryd.one9 : (Tryd.prog.info? 9).map (·.size) = some 1 := by kernel_rfl
theorem neq22 (w : World) (a : Option Addr) (n c n' c' : Nat) : (binOp .neq 22 (.slice a n c) (.slice none n' c')).run Tryd.prog w = .ok (.bool (!a.isNone)) w := run_neq_slice_nil_any w _ _ a n c n' c' Tryd.underlying22
theorem Src.kept {w w' : World} {a : Option Addr} {n : Nat} {F : Nat → Value} (h : Src w a n F) (hg : w.grownBy w' none) : Src w' a n F := by
  rcases h with h | ⟨b, o, e, h⟩
  · exact .inl h
  · exact .inr ⟨b, o, e, fun j hj => hg.cell (h j hj) (by simp)⟩

theorem strCells_take (ss : List ByteArray) (k : Nat) (hk : k < ss.length) : strCells (ss.take (k + 1)) = strCells (ss.take k) ++ [.string (ss.getD k ByteArray.empty)] := by
  rw [List.take_succ_eq_append_getElem hk, strCells_append]
  simp [List.getD_eq_getElem?_getD, List.getElem?_eq_getElem hk]
theorem new_cell (w1 : World) (s : ByteArray) : ∀ j u, [Value.string s][j]? = some u → (w1.alloc (.cells #[.string s] 9)).cell? ((⟨w1.heap.size, 0, none⟩ : Addr).add j) = some u := by
  intro j u hu
  match j, hu with
  | 0, hu => simp at hu; subst hu; simp [Addr.add]
theorem one_cell (s : ByteArray) : ∀ u ∈ [Value.string s], u.oneCell' = true := by intro u hu; simp at hu; subst hu; rfl

theorem szs_append {xs ys : List ByteArray} {m : Nat} (hx : Szs xs m) (hy : Szs ys m) : Szs (xs ++ ys) m := by
  intro j hj
  rw [List.length_append] at hj
  by_cases h : j < xs.length
  · have := hx j h
    rwa [List.getD_eq_getElem?_getD, List.getElem?_append_left h, ← List.getD_eq_getElem?_getD]
  · have := hy (j - xs.length) (by omega)
    rwa [List.getD_eq_getElem?_getD, List.getElem?_append_right (by omega), ← List.getD_eq_getElem?_getD]
theorem strs_own {w : World} {G n N : Nat} {xs ys : List ByteArray} (h : w.ownsRow G 9 1 (.slice (some ⟨G, 0, none⟩) n N) n (strCells xs ++ strCells ys)) : Strs w (some ⟨G, 0, none⟩) (xs ++ ys) := by
  refine Or.inr ⟨G, 0, rfl, fun j hj => ?_⟩
  have := World.ownsRow.cells h (g := G) rfl j (.string ((xs ++ ys).getD j ByteArray.empty)) (by
    have e : strCells xs ++ strCells ys = (xs ++ ys).map .string := by simp [strCells]
    rw [e, List.getElem?_map, List.getD_eq_getElem?_getD, List.getElem?_eq_getElem hj]; rfl)
  rwa [WideShapes.add_plain] at this

set_option maxRecDepth 100000 in
set_option maxHeartbeats 4000000 in
theorem law_walk (a b : Option Addr) (ac bc : Nat) (xs ys : List ByteArray) (p : Addr) (w : World) (hl0 : xs.length ≤ maxLen) (hv0 : ys.length ≤ maxLen) (hx : Strs w a xs) (hy : Strs w b ys) (sx : Szs xs maxLen) (sy : Szs ys maxLen) (hM : Miss w p) :
    Calls Tryd.prog 3 #[.slice a xs.length ac, .slice b ys.length bc] w fun e w' => e = .returned (.bool true) ∧ w.grownBy w' none := by
  have H4 := hide (bytes_any a b ac bc xs ys w hl0 hv0 hx hy sx sy)
  have HX := hide hx
  have HY := hide hy
  have HSX := hide sx
  have HSY := hide sy
  have HM := hide hM
  have hq1 := neq22
  unfold maxLen at hv0 hl0
  clear hx hy sx sy hM
  go_enter Tryd.func3, Tryd.ntmps3
  go_wp2_with fail
  refine H4.out.mono ?_
  rintro e w1 ⟨⟨r, rfl⟩, rfl⟩
  clear H4
  cases r
  · go_wp2_with fail
    go_ret
    exact ⟨rfl, grown_refl _⟩
  by_cases hl : 65536 < xs.length
  · have hB1 : decide ((65536 : Int) < (xs.length : Int)) = true := by simpa using by omega
    go_wp2_with fail
    go_ret
    exact ⟨rfl, grown_refl _⟩
  have hB0 : decide ((65536 : Int) < (xs.length : Int)) = false := by simpa using by omega
  by_cases hv : 65536 < ys.length
  · have hB1 : decide ((65536 : Int) < (ys.length : Int)) = true := by simpa using by omega
    go_wp2_with fail
    go_ret
    exact ⟨rfl, grown_refl _⟩
  have hB1 : decide ((65536 : Int) < (ys.length : Int)) = false := by simpa using by omega
  have hmx := run_make_row' 22 9 (.string ByteArray.empty) 16 Tryd.underlying22 Tryd.info9 rfl .i64 .i64 xs.length (by omega) (by omega)
  have hmy := run_make_row' 22 9 (.string ByteArray.empty) 16 Tryd.underlying22 Tryd.info9 rfl .i64 .i64 ys.length (by omega) (by omega)
  go_upto_if 31 with fail
  go_cut [0] (fun v1 wc => ∃ a' ac', v1 = .slice a' xs.length ac' ∧ Hid (Strs wc a' xs ∧ w1.grownBy wc none))
  case first =>
    cases a
    · go_wp2_with fail
      go_meet
      exact ⟨none, ac, rfl, HX.out, grown_refl _⟩
    · go_wp2_with (with_reducible refine at_copy ?_; refine wpList_copy_full rfl _ _ 22 rfl 9 Tryd.underlying22 Tryd.one9 _ xs.length _ _ rfl rfl 9 _ (fun j => .string (xs.getD j ByteArray.empty)) (World.rowIs_made _ _ _ _) (Src.kept HX.out.src (World.grownBy_alloc _ _ _)) (fun _ _ => rfl) ?_; intro w2 hrow2 hg2)
      go_meet
      exact ⟨some ⟨w1.heap.size, 0, none⟩, xs.length, rfl, strs_row hrow2, grown_own (World.grownBy_alloc _ _ _) hg2 (fun b e => by cases e; exact Nat.le_refl _)⟩
  case rest =>
  obtain ⟨a', ac', rfl, HX2⟩ := hcut
  clear HX
  go_upto_if 40 with fail
  obtain ⟨w2, hw2⟩ : ∃ w2, w2 = wc := ⟨_, rfl⟩
  subst hw2
  go_cut [1] (fun v1 wc => ∃ b' bc', v1 = .slice b' ys.length bc' ∧ Hid (Strs wc b' ys ∧ w2.grownBy wc none))
  case first =>
    cases b
    · go_wp2_with fail
      go_meet
      exact ⟨none, bc, rfl, HY.out.kept HX2.out.2, grown_refl _⟩
    · have HY2 := hide (HY.out.kept HX2.out.2)
      go_wp2_with (with_reducible refine at_copy ?_; refine wpList_copy_full rfl _ _ 22 rfl 9 Tryd.underlying22 Tryd.one9 _ ys.length _ _ rfl rfl 9 _ (fun j => .string (ys.getD j ByteArray.empty)) (World.rowIs_made _ _ _ _) (Src.kept HY2.out.src (World.grownBy_alloc _ _ _)) (fun _ _ => rfl) ?_; intro w3 hrow3 hg3)
      go_meet
      exact ⟨some ⟨w2.heap.size, 0, none⟩, ys.length, rfl, strs_row hrow3, grown_own (World.grownBy_alloc _ _ _) hg3 (fun b e => by cases e; exact Nat.le_refl _)⟩
  case rest =>
  obtain ⟨b', bc', rfl, HY2⟩ := hcut
  have HW := hide (HX2.out.2.trans HY2.out.2)
  have HX3 := hide (HX2.out.1.kept HY2.out.2)
  have HY3 := hide HY2.out.1
  have HM3 := hide (HM.out.kept HW.out)
  obtain ⟨w4, hw4⟩ : ∃ w4, w4 = wc := ⟨_, rfl⟩
  subst hw4
  clear HX2 HY2 HY HM hmx hmy hq1
  have H5 := hide (bytesOf_any a' ac' xs w4 (by omega) HX3.out HSX.out)
  have H5' := hide (bytesOf_any b' bc' ys w4 (by omega) HY3.out HSY.out)
  go_wp2_with fail
  refine H5.out.mono ?_
  rintro e wz ⟨⟨t, ht, rfl, hS1⟩, hwz⟩
  rw [hwz]
  clear hwz wz H5
  by_cases ht1 : 1048576 < t
  · have hT1 : decide ((1048576 : Int) < (t : Int)) = true := by simpa using by omega
    go_wp2_with fail
    go_ret
    exact ⟨rfl, HW.out⟩
  have hT1 : decide ((1048576 : Int) < (t : Int)) = false := by simpa using by omega
  have HZ1 := hide (hS1 (by omega))
  clear hS1
  go_wp2_with fail
  refine H5'.out.mono ?_
  rintro e wz ⟨⟨t2, ht2, rfl, hS2⟩, hwz⟩
  rw [hwz]
  clear hwz wz H5'
  by_cases ht3 : 1048576 < t2
  · have hT2 : decide ((1048576 : Int) < (t2 : Int)) = true := by simpa using by omega
    go_wp2_with fail
    go_ret
    exact ⟨rfl, HW.out⟩
  have hT2 : decide ((1048576 : Int) < (t2 : Int)) = false := by simpa using by omega
  have HZ2 := hide (hS2 (by omega))
  clear hS2
  by_cases ht4 : 1048576 < t + t2
  · have hT3 : decide ((1048576 : Int) < (t : Int) + (t2 : Int)) = true := by simpa using by omega
    go_wp2_with fail
    go_ret
    exact ⟨rfl, HW.out⟩
  have hT3 : decide ((1048576 : Int) < (t : Int) + (t2 : Int)) = false := by simpa using by omega
  obtain ⟨i0, hi, hz0, hz1, hz2⟩ := info_parts Tryd.info9
  go_wp2_with (at_make; refine wpList_make_own _ rfl _ _ 22 rfl w4.heap.size 9 i0 _ 1 Tryd.underlying22 hi hz0 hz1 _ _ _ (xs.length + ys.length) rfl rfl (by omega) (by rw [hz2]; omega) (by unfold maxLen; omega) (Nat.le_refl _) ?_; intro w5 ho5 hg5)
  obtain ⟨N, hN⟩ : ∃ N, N = xs.length + ys.length := ⟨_, rfl⟩
  rw [← hN] at ho5 ⊢
  have HN := hide hN
  clear hN
  clear hB0 hB1 hT1 hT2 hT3 HSX HSY ht ht1 ht2 ht3 ht4
  obtain ⟨G, hG⟩ : ∃ G, G = w4.heap.size := ⟨_, rfl⟩
  have HG : Hid (G = w4.heap.size) := hG
  rw [← hG] at ho5 ⊢
  clear hG
  go_loopw [9, 10] (fun v iv wr => ∃ k : Nat, k ≤ xs.length ∧ iv = .int .i64 k ∧ v = .slice (some ⟨G, 0, none⟩) k N ∧ Hid (wr.ownsRow G 9 1 (.slice (some ⟨G, 0, none⟩) k N) k (strCells (xs.take k)) ∧ w4.grownBy wr none)) (fun _ iv _ => xs.length - (intOf iv).toNat)
  case atStart => exact ⟨0, Nat.zero_le _, rfl, rfl, by rw [List.take_zero]; exact ho5, hg5⟩
  case round =>
    clear ho5 hg5
    obtain ⟨k, hk', rfl, rfl, HR⟩ := hrel
    by_cases hlt : k < xs.length
    · obtain ⟨bk, o, rfl, hc⟩ := HX3.out.resolve_left (by omega)
      obtain ⟨s, hs⟩ : ∃ s, s = xs.getD k ByteArray.empty := ⟨_, rfl⟩
      have hcs : wr.cell? ⟨bk, o + k, none⟩ = some (.string s) := by rw [hs]; exact HR.out.2.cell (hc k hlt) (by simp)
      have HT := hide (strCells_take xs k hlt)
      have HS := hide hs
      have H1 := hide (new_cell wr s)
      have H2 := hide (one_cell s)
      clear hs hc
      go_wp2_with (at_builtin; refine wpList_append_fits _ rfl _ _ 22 rfl G 9 i0 1 Tryd.underlying22 hi hz1 G k N _ rfl (World.ownsRow.alloc HR.out.1 _) _ 1 1 [.string s] rfl rfl H1.out H2.out (by have := HN.out; omega) ?_; intro w6 ho6 hg6)
      go_roundw
      case rel =>
        refine ⟨k + 1, by omega, by go_num, rfl, ?_, grown_own (HR.out.2.trans (World.grownBy_alloc _ _ _)) hg6 (fun b e => by cases e; have := HG.out; omega)⟩
        rw [HT.out, ← HS.out]
        exact ho6
      case measure => simp [intOf]; omega
    · have hkn : k = xs.length := by omega
      subst hkn
      clear hlt hk'
      rw [List.take_length] at HR
      go_wp2_with fail
      go_loopw [9, 11] (fun v iv wr => ∃ k : Nat, k ≤ ys.length ∧ iv = .int .i64 k ∧ v = .slice (some ⟨G, 0, none⟩) (xs.length + k) N ∧ Hid (wr.ownsRow G 9 1 (.slice (some ⟨G, 0, none⟩) (xs.length + k) N) (xs.length + k) (strCells xs ++ strCells (ys.take k)) ∧ w4.grownBy wr none)) (fun _ iv _ => ys.length - (intOf iv).toNat)
      case atStart => exact ⟨0, Nat.zero_le _, rfl, rfl, by rw [List.take_zero]; simpa [strCells] using HR.out.1, HR.out.2⟩
      case round =>
        clear HR
        obtain ⟨k, hk', rfl, rfl, HR⟩ := hrel
        by_cases hlt : k < ys.length
        · obtain ⟨bk, o, rfl, hc⟩ := HY3.out.resolve_left (by omega)
          obtain ⟨s, hs⟩ : ∃ s, s = ys.getD k ByteArray.empty := ⟨_, rfl⟩
          have hcs : wr.cell? ⟨bk, o + k, none⟩ = some (.string s) := by rw [hs]; exact HR.out.2.cell (hc k hlt) (by simp)
          have HT := hide (strCells_take ys k hlt)
          have HS := hide hs
          have H1 := hide (new_cell wr s)
          have H2 := hide (one_cell s)
          clear hs hc
          go_wp2_with (at_builtin; refine wpList_append_fits _ rfl _ _ 22 rfl G 9 i0 1 Tryd.underlying22 hi hz1 G (xs.length + k) N _ rfl (World.ownsRow.alloc HR.out.1 _) _ 1 1 [.string s] rfl rfl H1.out H2.out (by have := HN.out; omega) ?_; intro w6 ho6 hg6)
          go_roundw
          case rel =>
            refine ⟨k + 1, by omega, by go_num, by rw [Nat.add_assoc], ?_, grown_own (HR.out.2.trans (World.grownBy_alloc _ _ _)) hg6 (fun b e => by cases e; have := HG.out; omega)⟩
            rw [HT.out, ← HS.out, ← Nat.add_assoc, ← List.append_assoc]
            exact ho6
          case measure => simp [intOf]; omega
        · have hkn : k = ys.length := by omega
          subst hkn
          clear hlt hk'
          rw [List.take_length] at HR
          have HAB := hide (strs_own HR.out.1)
          have HGr := hide HR.out.2
          clear HR
          obtain ⟨w5', hw5⟩ : ∃ w5', w5' = wr := ⟨_, rfl⟩
          subst hw5
          have HXa := hide (HX3.out.kept HGr.out)
          have HYa := hide (HY3.out.kept HGr.out)
          have HMa := hide (HM3.out.kept HGr.out)
          have HWa := hide (HW.out.trans HGr.out)
          clear HX3 HY3 HM3 HW HGr HG hi hz0 hz1 hz2
          obtain ⟨fa, hfa⟩ : ∃ fa, fa = failOf xs := ⟨_, rfl⟩
          obtain ⟨fb, hfb⟩ : ∃ fb, fb = failOf ys := ⟨_, rfl⟩
          obtain ⟨fab, hfab⟩ : ∃ fab, fab = failOf (xs ++ ys) := ⟨_, rfl⟩
          obtain ⟨ta, hta⟩ : ∃ ta, ta = textOf xs := ⟨_, rfl⟩
          obtain ⟨tb, htb⟩ : ∃ tb, tb = textOf ys := ⟨_, rfl⟩
          obtain ⟨tab, htab⟩ : ∃ tab, tab = textOf (xs ++ ys) := ⟨_, rfl⟩
          have H6 := entries_any a' ac' p xs w5' (by omega) HZ1.out HXa.out HMa.out
          rw [← hfa, ← hta] at H6
          have H6 := hide H6
          have H6b : Hid (∀ w6, w5'.grownBy w6 none → Calls Tryd.prog 6 #[.slice b' ys.length bc'] w6 fun e w' => e = .returned (.tuple #[.bool fb, .string tb]) ∧ w6.grownBy w' none) := by
            intro w6 hg
            rw [hfb, htb]
            exact entries_any b' bc' p ys w6 (by omega) HZ2.out (HYa.out.kept hg) (HMa.out.kept hg)
          have H6c : Hid (∀ w6, w5'.grownBy w6 none → Calls Tryd.prog 6 #[.slice (some ⟨G, 0, none⟩) (xs.length + ys.length) N] w6 fun e w' => e = .returned (.tuple #[.bool fab, .string tab]) ∧ w6.grownBy w' none) := by
            intro w6 hg
            rw [hfab, htab, ← List.length_append]
            exact entries_any _ N p (xs ++ ys) w6 (by rw [List.length_append]; omega) (szs_append HZ1.out HZ2.out) (HAB.out.kept hg) (HMa.out.kept hg)
          have HF := hide (show fa = failOf xs ∧ fb = failOf ys ∧ fab = failOf (xs ++ ys) ∧ ta = textOf xs ∧ tb = textOf ys ∧ tab = textOf (xs ++ ys) from ⟨hfa, hfb, hfab, hta, htb, htab⟩)
          clear hfa hfb hfab hta htb htab
          go_wp2_with fail
          refine H6.out.mono ?_
          rintro e w6 ⟨rfl, hg6⟩
          go_wp2_with fail
          refine (H6b.out w6 hg6).mono ?_
          rintro e w7 ⟨rfl, hg7⟩
          have hg7' := hg6.trans hg7
          go_wp2_with fail
          refine (H6c.out w7 hg7').mono ?_
          rintro e w8 ⟨rfl, hg8⟩
          have HG8 := hide (hg7'.trans hg8)
          clear hg6 hg7 hg7' hg8 H6 H6b H6c
          go_upto_region 31 with fail
          have h7a := someText_any a' ac' xs w8 (by omega) (HXa.out.kept HG8.out)
          have h7b := someText_any b' bc' ys w8 (by omega) (HYa.out.kept HG8.out)
          have hsa : ta.size ≤ 68719607808 := by rw [HF.out.2.2.2.1]; exact textOf_size HZ1.out (by omega)
          have hsb : tb.size ≤ 68719607808 := by rw [HF.out.2.2.2.2.1]; exact textOf_size HZ2.out (by omega)
          have HE := hide (HWa.out.trans HG8.out)
          rcases tail_cases HF.out with ⟨e1, e2, e3, e4⟩ | ⟨e1, e2, e3, e4, e5, e6⟩ | ⟨e1, e2, e3, e4, e5, e6⟩ | ⟨e1, e2, e3, e4, e5, e6⟩
          · clear HF h7a h7b HXa HYa HMa HWa HG8 HZ1 HZ2 HAB
            have q1 : ((xs.length : Int) == 0) = true := by simp only [beq_iff_eq]; omega
            have q2 : ((ys.length : Int) == 0) = true := by simp only [beq_iff_eq]; omega
            have q3 : ((xs.length : Int) + (ys.length : Int) == 0) = true := by simp only [beq_iff_eq]; omega
            subst e3 e4
            clear e1 e2
            go_wp2_with fail
            go_ret
            exact ⟨rfl, HE.out⟩
          · rw [e3] at h7a
            rw [e4] at h7b
            have H7a := hide h7a
            have H7b := hide h7b
            clear HF h7a h7b HXa HYa HMa HWa HG8 HZ1 HZ2 HAB e3 e4
            have q1 : ((xs.length : Int) == 0) = true := by simp only [beq_iff_eq]; omega
            have q2 : ((ys.length : Int) == 0) = false := by simp only [beq_eq_false_iff_ne, ne_eq]; omega
            have q3 : ((xs.length : Int) + (ys.length : Int) == 0) = false := by simp only [beq_eq_false_iff_ne, ne_eq]; omega
            subst e5 e6
            clear e1 e2
            cases fab
            · go_wp2_with fail
              refine H7a.out.mono ?_
              rintro e wz ⟨rfl, hwz⟩
              rw [hwz]
              clear hwz wz
              go_wp2_with fail
              refine H7b.out.mono ?_
              rintro e wz ⟨rfl, hwz⟩
              rw [hwz]
              clear hwz wz
              go_wp2_with fail
              go_ret
              exact ⟨rfl, HE.out⟩
            · go_wp2_with fail
              refine H7a.out.mono ?_
              rintro e wz ⟨rfl, hwz⟩
              rw [hwz]
              clear hwz wz
              go_wp2_with fail
              refine H7b.out.mono ?_
              rintro e wz ⟨rfl, hwz⟩
              rw [hwz]
              clear hwz wz
              go_wp2_with fail
              go_ret
              exact ⟨rfl, HE.out⟩
          · rw [e3] at h7a
            rw [e4] at h7b
            have H7a := hide h7a
            have H7b := hide h7b
            clear HF h7a h7b HXa HYa HMa HWa HG8 HZ1 HZ2 HAB e3 e4
            have q1 : ((xs.length : Int) == 0) = false := by simp only [beq_eq_false_iff_ne, ne_eq]; omega
            have q2 : ((ys.length : Int) == 0) = true := by simp only [beq_iff_eq]; omega
            have q3 : ((xs.length : Int) + (ys.length : Int) == 0) = false := by simp only [beq_eq_false_iff_ne, ne_eq]; omega
            subst e5 e6
            clear e1 e2
            cases fab
            · go_wp2_with fail
              refine H7a.out.mono ?_
              rintro e wz ⟨rfl, hwz⟩
              rw [hwz]
              clear hwz wz
              go_wp2_with fail
              refine H7b.out.mono ?_
              rintro e wz ⟨rfl, hwz⟩
              rw [hwz]
              clear hwz wz
              go_wp2_with fail
              go_ret
              exact ⟨rfl, HE.out⟩
            · go_wp2_with fail
              refine H7a.out.mono ?_
              rintro e wz ⟨rfl, hwz⟩
              rw [hwz]
              clear hwz wz
              go_wp2_with fail
              go_ret
              exact ⟨rfl, HE.out⟩
          · rw [e3] at h7a
            rw [e4] at h7b
            have H7a := hide h7a
            have H7b := hide h7b
            clear HF h7a h7b HXa HYa HMa HWa HG8 HZ1 HZ2 HAB e3 e4
            have q1 : ((xs.length : Int) == 0) = false := by simp only [beq_eq_false_iff_ne, ne_eq]; omega
            have q2 : ((ys.length : Int) == 0) = false := by simp only [beq_eq_false_iff_ne, ne_eq]; omega
            have q3 : ((xs.length : Int) + (ys.length : Int) == 0) = false := by simp only [beq_eq_false_iff_ne, ne_eq]; omega
            clear e1 e2
            cases fa
            · cases fb
              · replace e5 : fab = false := e5
                replace e6 : tab = ⟨#[]⟩ := e6
                subst e5 e6
                go_wp2_with fail
                refine H7a.out.mono ?_
                rintro e wz ⟨rfl, hwz⟩
                rw [hwz]
                clear hwz wz
                go_wp2_with fail
                refine H7b.out.mono ?_
                rintro e wz ⟨rfl, hwz⟩
                rw [hwz]
                clear hwz wz
                go_wp2_with fail
                refine H7a.out.mono ?_
                rintro e wz ⟨rfl, hwz⟩
                rw [hwz]
                clear hwz wz
                go_wp2_with fail
                refine H7b.out.mono ?_
                rintro e wz ⟨rfl, hwz⟩
                rw [hwz]
                clear hwz wz
                go_wp2_with fail
                go_ret
                exact ⟨rfl, HE.out⟩
              · replace e5 : fab = true := e5
                replace e6 : tab = tb := e6
                subst e5 e6
                go_wp2_with fail
                refine H7a.out.mono ?_
                rintro e wz ⟨rfl, hwz⟩
                rw [hwz]
                clear hwz wz
                go_wp2_with fail
                refine H7b.out.mono ?_
                rintro e wz ⟨rfl, hwz⟩
                rw [hwz]
                clear hwz wz
                go_wp2_with fail
                refine H7a.out.mono ?_
                rintro e wz ⟨rfl, hwz⟩
                rw [hwz]
                clear hwz wz
                go_wp2_with fail
                refine H7b.out.mono ?_
                rintro e wz ⟨rfl, hwz⟩
                rw [hwz]
                clear hwz wz
                go_wp2_with fail
                go_ret
                exact ⟨rfl, HE.out⟩
            · cases fb
              · replace e5 : fab = true := e5
                replace e6 : tab = ta := e6
                subst e5 e6
                go_wp2_with fail
                refine H7a.out.mono ?_
                rintro e wz ⟨rfl, hwz⟩
                rw [hwz]
                clear hwz wz
                go_wp2_with fail
                refine H7a.out.mono ?_
                rintro e wz ⟨rfl, hwz⟩
                rw [hwz]
                clear hwz wz
                go_wp2_with fail
                refine H7b.out.mono ?_
                rintro e wz ⟨rfl, hwz⟩
                rw [hwz]
                clear hwz wz
                go_wp2_with fail
                go_ret
                exact ⟨rfl, HE.out⟩
              · replace e5 : fab = true := e5
                replace e6 : tab = ta ++ ⟨#[59, 32]⟩ ++ tb := e6
                subst e5 e6
                go_wp2_with fail
                refine H7a.out.mono ?_
                rintro e wz ⟨rfl, hwz⟩
                rw [hwz]
                clear hwz wz
                go_wp2_with fail
                refine H7a.out.mono ?_
                rintro e wz ⟨rfl, hwz⟩
                rw [hwz]
                clear hwz wz
                go_wp2_with fail
                refine H7b.out.mono ?_
                rintro e wz ⟨rfl, hwz⟩
                rw [hwz]
                clear hwz wz
                go_wp2_with fail
                go_ret
                exact ⟨rfl, HE.out⟩
end Go.Proofs.Qxb6616790aDoor.Ce
