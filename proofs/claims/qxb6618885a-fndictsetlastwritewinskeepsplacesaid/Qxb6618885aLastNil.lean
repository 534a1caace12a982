/-
  The walk of FnDictSetLastWriteWinsKeepsPlace where the keys are nil.
-/
import Derived.Test.Qxb6618885aLastWalk
namespace Go.Proofs.Qxb6618885a.Dc
open Go.RowKit Go.Maps

theorem add_nil (k : List UInt8) : add [] k = [k] := by simp [add]
theorem place_one (k : List UInt8) : place [k] k = 0 := by simp [place]

set_option maxRecDepth 100000 in
set_option maxHeartbeats 4000000 in
theorem last_nil (va : Option Addr) (vlen vc : Nat) (V : Nat → Int) (x : ByteArray) (v y : Int) (w : World) (hv0 : vlen ≤ maxLen) (hx0 : x.size ≤ maxLen) (hV : IsV w va vlen V) :
    Calls Try.prog 5 #[.slice none 0 0, .slice va vlen vc, .string x, .int .i64 v, .int .i64 y] w fun e w' => e = .returned (.bool true) ∧ w.grownBy w' none := by
  have H13 := hide (bytes13_any none va 0 0 vlen vc [] x v y w hx0 (by unfold maxLen; omega) hv0 (Or.inl rfl))
  have HV := hide hV.src
  have hq1 := neq24
  have hq2 := neq25
  have HX0 := hide hx0
  unfold maxLen at hv0
  clear hV hx0
  go_enter Try.func5, Try.ntmps5
  go_wp2_with fail
  refine H13.out.mono ?_
  rintro e w1 ⟨⟨r, rfl, hr⟩, rfl⟩
  clear H13
  cases r
  · go_wp2_with fail
    go_ret
    exact ⟨rfl, grown_refl _⟩
  clear hr
  by_cases hv : 4096 < vlen
  · have hB1 : decide ((4096 : Int) < (vlen : Int)) = true := by simpa using by omega
    go_wp2_with fail
    go_ret
    exact ⟨rfl, grown_refl _⟩
  have hB1 : decide ((4096 : Int) < (vlen : Int)) = false := by simpa using by omega
  by_cases hx : 1048576 < x.size
  · have hB2 : decide ((1048576 : Int) < (x.size : Int)) = true := by simpa using by omega
    go_wp2_with fail
    go_ret
    exact ⟨rfl, grown_refl _⟩
  have hB2 : decide ((1048576 : Int) < (x.size : Int)) = false := by simpa using by omega
  have hmv := run_make_row' 25 3 (.int .i64 0) 8 Try.underlying25 Try.info3 rfl .i64 .i64 vlen (by omega) (by omega)
  go_upto_if 70 with fail
  go_cut [1] (fun v1 wc => ∃ va' vc', v1 = .slice va' vlen vc' ∧ Hid (IsV wc va' vlen V ∧ w1.grownBy wc none))
  case first =>
    cases va
    · go_wp2_with fail
      go_meet
      exact ⟨none, vc, rfl, HV.out, grown_refl _⟩
    · go_wp2_with (with_reducible refine at_copy ?_; refine wpList_copy_full rfl _ _ 25 rfl 3 Try.underlying25 Try.one3 _ vlen _ _ rfl rfl 3 _ (fun j => .int .i64 (V j)) (World.rowIs_made _ _ _ _) (Src.kept HV.out (World.grownBy_alloc _ _ _)) (fun _ _ => rfl) ?_; intro w4 hrow4 hg4)
      have hg24 : w1.grownBy w4 none := grown_new (World.grownBy_alloc _ _ _) hg4 (Nat.le_refl _)
      go_meet
      exact ⟨some ⟨w1.heap.size, 0, none⟩, vlen, rfl, isV_row hrow4, hg24⟩
  case rest =>
  obtain ⟨va', vc', rfl, HG⟩ := hcut
  clear HV hmv hq1 hq2
  by_cases htot : 1048576 < x.size + 8 * vlen
  · go_wp2_with fail
    go_ret
    exact ⟨rfl, HG.out.2⟩
  go_wp2_with fail
  refine wp_loop_rounds 1 ?_
  rw [rounds_succ]
  go_wp2_with fail
  refine (newInts_all _ _ _ 0 vlen _ [] V _ (by omega) (by omega) (Or.inl rfl) HG.out.1).mono ?_
  rintro e u1 ⟨rfl, hr0, hg0⟩
  obtain ⟨b0, hb0⟩ : ∃ b, b = wc.heap.size + 1 := ⟨_, rfl⟩
  rw [← hb0] at hr0 ⊢
  have hbc : wc.heap.size ≤ b0 := by omega
  clear hb0
  go_wp2_with fail
  refine (newInts_all _ _ _ 0 vlen _ [] V _ (by omega) (by omega) (Or.inl rfl) (HG.out.1.kept hg0)).mono ?_
  rintro e u2 ⟨rfl, hr1, hg1⟩
  have hb01 : b0 < u1.heap.size + 1 := by have := hr0.lt; omega
  obtain ⟨b1, hb1⟩ : ∃ b, b = u1.heap.size + 1 := ⟨_, rfl⟩
  rw [← hb1] at hr1 hb01 ⊢
  clear hb1
  have hgc := hg0.trans hg1
  clear hr0 hg0 hg1
  have H1 := hide (setInt_any hr1 (by unfold maxLen; omega) HX0.out v)
  clear hr1
  go_wp2_with fail
  refine H1.out.mono ?_
  rintro e u3 ⟨rfl, hr1, hg1⟩
  have hgc3 := grown_new hgc hg1 (by omega)
  have H2 := hide (setInt_any hr1 (by unfold maxLen; omega) HX0.out y)
  clear hr1 hg1 hgc H1
  go_wp2_with fail
  refine H2.out.mono ?_
  rintro e u4 ⟨rfl, hr1, hg1⟩
  rw [add_add, upd_upd] at hr1
  have hgc := grown_new hgc3 hg1 (by omega)
  have hb1l := hr1.lt
  clear hgc3 hg1 H2
  go_wp2_with fail
  refine (newInts_all _ _ _ 0 vlen _ [] V _ (by omega) (by omega) (Or.inl rfl) (HG.out.1.kept hgc)).mono ?_
  rintro e u5 ⟨rfl, hr2, hg2⟩
  have hb12 : b1 < u4.heap.size + 1 := by omega
  obtain ⟨b2, hb2⟩ : ∃ b, b = u4.heap.size + 1 := ⟨_, rfl⟩
  rw [← hb2] at hr2 hb12 ⊢
  clear hb2 hb1l
  have hr1' := hr1.kept hg2 (by simp)
  have hgc5 := hgc.trans hg2
  clear hr1 hgc hg2
  have H3 := hide (setInt_any hr2 (by unfold maxLen; omega) HX0.out y)
  clear hr2
  go_wp2_with fail
  refine H3.out.mono ?_
  rintro e u6 ⟨rfl, hr2, hg2⟩
  have hR1 := hr1'.kept hg2 (by simp; omega)
  have HB : Hid (w1.grownBy u6 none) := HG.out.2.trans (grown_new hgc5 hg2 (by omega))
  clear hr1' hg2 hgc5 H3 hb01 hb12 hbc HG
  have hks : add (dist (bys []) 0) x.data.toList = [x.data.toList] := add_nil _
  rw [hks] at hR1 hr2
  clear hks
  go_wp2_with fail
  refine wp_loop_rounds 1 ?_
  rw [rounds_succ]
  go_wp2_with fail
  refine wp_loop_rounds 1 ?_
  rw [rounds_succ]
  have hL1 := hR1.len 3
  have hL2 := hr2.len 3
  simp only [List.length_singleton] at hL1 hL2
  go_wp2_with fail
  refine (entry_at hR1 HX0.out (by simp) 0 y (place_one _) (upd_same _ _ _)).mono ?_
  rintro e w3 ⟨rfl, hg3⟩
  have hR2 := hr2.kept hg3 (by simp)
  clear hL1 hL2 hR1 hr2
  go_wp2_with fail
  refine (entry_at hR2 HX0.out (by simp) 0 y (place_one _) (upd_same _ _ _)).mono ?_
  rintro e w4 ⟨rfl, hg4⟩
  clear hR2
  go_wp2_with fail
  refine wp_loop_rounds 1 ?_
  rw [rounds_succ]
  go_wp2_with fail
  go_ret
  exact ⟨rfl, (HB.out.trans hg3).trans hg4⟩

end Go.Proofs.Qxb6618885a.Dc
