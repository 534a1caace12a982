/-
  The walk of FnIntegerRepliesParseBackInOrder.
-/
import Derived.Test.Qxb6616140aDoorInv
namespace Go.Proofs.Qxb6616140aDoor.Rs
open Go.RowKit Go.Lib

/-- the argument, as the walk is told of it. -/
def XsIn (w : World) (a : Option Addr) (n : Nat) (X : Nat → Int) : Prop := n = 0 ∨ ∃ b o, a = some ⟨b, o, none⟩ ∧ ∀ j, j < n → w.cell? ⟨b, o + j, none⟩ = some (.int .i64 (X j))

set_option maxRecDepth 100000 in
set_option maxHeartbeats 4000000 in
theorem law_nil (a : Option Addr) (c : Nat) (w : World) : Calls Tryd.prog 3 #[.slice a 0 c] w fun e w' => e = .returned (.bool true) ∧ Below w.heap.size w w' := by
  have H11 := hide (bytes_any a 0 c w (Nat.zero_le _))
  go_enter Tryd.func3, Tryd.ntmps3
  go_wp2_with fail
  refine H11.out.mono ?_
  rintro e w1 ⟨⟨r, rfl⟩, hw⟩
  rw [hw]
  clear hw w1
  cases r
  · go_wp2_with fail
    go_ret
    exact ⟨rfl, Below.refl _ _⟩
  have H13 := hide (out_any w.heap.size none 0 0 (w.alloc (.cells #[.slice none 0 0] 26)) (Boxed.new _ _ _))
  go_wp2_with fail
  refine wp_loop_rounds 1 ?_
  rw [rounds_succ]
  go_wp2_with fail
  refine H13.out.mono ?_
  rintro e w1 ⟨rfl, hw⟩
  rw [hw]
  go_wp2_with fail
  refine wp_loop_rounds 1 ?_
  rw [rounds_succ]
  go_wp2_with fail
  go_ret
  exact ⟨rfl, below_alloc _ _⟩

/-- what the second loop finds at the k-th reply. -/
theorem at_reply {W : World} {g : Nat} {X : Nat → Int} {n k : Nat} (h : CellsAt W g 0 (replies X n)) (hk : k < n) :
    W.cell? ⟨g, (replies X k).length, none⟩ = some (.int .u8 58) ∧ CellsAt W g ((replies X k).length + 1) (itoa (X k)) ∧ W.cell? ⟨g, (replies X k).length + 1 + (itoa (X k)).length, none⟩ = some (.int .u8 13) ∧
      W.cell? ⟨g, (replies X k).length + 1 + (itoa (X k)).length + 1, none⟩ = some (.int .u8 10) ∧ (replies X k).length + (itoa (X k)).length + 3 ≤ (replies X n).length := by
  obtain ⟨Z, e⟩ : ∃ Z, replies X n = replies X k ++ (58 :: (itoa (X k) ++ (13 :: 10 :: Z))) := by
    refine ⟨replies (fun j => X (k + 1 + j)) (n - (k + 1)), ?_⟩
    rw [show n = k + 1 + (n - (k + 1)) by omega, replies_add, replies, reply]
    simp
  have h1 := h.sub (replies X k) [58] (itoa (X k) ++ (13 :: 10 :: Z)) (by rw [e]; simp) 0 (by simp)
  have h2 := h.sub (replies X k ++ [58]) (itoa (X k)) (13 :: 10 :: Z) (by rw [e]; simp)
  have h3 := h.sub (replies X k ++ [58] ++ itoa (X k)) [13] (10 :: Z) (by rw [e]; simp) 0 (by simp)
  have h4 := h.sub (replies X k ++ [58] ++ itoa (X k) ++ [13]) [10] Z (by rw [e]; simp) 0 (by simp)
  simp only [List.length_append, List.length_cons, List.length_nil, Nat.zero_add, Nat.add_zero] at h1 h2 h3 h4
  refine ⟨h1, h2, h3, h4, ?_⟩
  rw [e]
  simp
  omega
theorem itoa_not_cr (i : Int) : ∀ c ∈ itoa i, c.toNat ≠ 13 := by
  intro c hc
  rw [itoa] at hc
  split at hc
  · rcases List.mem_cons.1 hc with rfl | hc
    · decide
    · have := decDigits_digit _ c hc
      omega
  · have := decDigits_digit _ c hc
    omega
theorem CellsAt.below {w w' : World} {B g o : Nat} {l : List UInt8} (h : CellsAt w g o l) (hb : Below B w w') (hg : g < B) : CellsAt w' g o l := fun j hj => below_cell hb (h j hj) hg

set_option maxRecDepth 100000 in
set_option maxHeartbeats 4000000 in
theorem law_some (b o n c : Nat) (X : Nat → Int) (w : World) (hn0 : 1 ≤ n) (hn : n ≤ maxLen) (hX : ∀ j, InI64 (X j)) (hc : ∀ j, j < n → w.cell? ⟨b, o + j, none⟩ = some (.int .i64 (X j))) (htab : TabIs Tryd.prog w "internal/strconv.uint64pow10" .u64 pow10Tab) :
    Calls Tryd.prog 3 #[.slice (some ⟨b, o, none⟩) n c] w fun e w' => e = .returned (.bool true) ∧ Below w.heap.size w w' := by
  have H11 := hide (bytes_any (some ⟨b, o, none⟩) n c w hn)
  have hbw : b < w.heap.size := cell_lt (hc 0 (by omega))
  have HC := hide hc
  have HX := hide hX
  have HTab := hide htab
  clear hc hX htab
  unfold maxLen at hn
  go_enter Tryd.func3, Tryd.ntmps3
  go_wp2_with fail
  refine H11.out.mono ?_
  rintro e w1 ⟨⟨r, rfl⟩, hw⟩
  rw [hw]
  clear hw w1 H11
  cases r
  · go_wp2_with fail
    go_ret
    exact ⟨rfl, Below.refl _ _⟩
  by_cases q0 : 65536 < n
  · go_wp2_with fail
    go_ret
    exact ⟨rfl, Below.refl _ _⟩
  have H0 := hide (Inv1.start w X)
  go_wp2_with fail
  go_loopw [4] (fun iv wr => ∃ k : Nat, k ≤ n ∧ iv = .int .i64 k ∧ Hid (Inv1 w X k wr)) (fun iv _ => n - (RowKit.intOf iv).toNat)
  case atStart => exact ⟨0, Nat.zero_le _, rfl, H0⟩
  case round =>
    obtain ⟨k, hk, rfl, HI⟩ := hrel
    by_cases hlt : k < n
    · have hbl : Below w.heap.size w wr := HI.out.choose_spec.2.2
      have ck := below_cell hbl (HC.out k hlt) hbw
      have H12 := hide (HI.out.step HX.out (by omega) HTab.out)
      clear hbl
      go_wp2_with fail
      refine H12.out.mono ?_
      rintro e w2 ⟨rfl, h2⟩
      have H2 := hide h2
      clear h2
      go_wp2_with fail
      go_roundw
      case rel => exact ⟨k + 1, by omega, by go_num, H2⟩
      case measure => simp [RowKit.intOf]; omega
    · obtain rfl : n = k := by omega
      obtain ⟨oa, oc, hbx, hoc, hor⟩ := HI.out.out
      have hbl : Below w.heap.size w wr := HI.out.choose_spec.2.2
      have hL3 : 3 ≤ (replies X n).length := by
        rw [show n = (n - 1) + 1 by omega, replies, List.length_append, reply_length]
        omega
      have hL4 := replies_length_le X HX.out n
      obtain ⟨g, rfl, hR⟩ : ∃ g, oa = some ⟨g, 0, none⟩ ∧ CellsAt wr g 0 (replies X n) := hor.resolve_left (by omega)
      have hgW : g < wr.heap.size := cell_lt (hR 0 (by omega))
      have H13 := hide (out_any w.heap.size _ _ oc wr hbx)
      have HR := hide hR
      have HB := hide hbl
      have HXC : Hid (∀ j, j < n → wr.cell? ⟨b, o + j, none⟩ = some (.int .i64 (X j))) := fun j hj => below_cell hbl (HC.out j hj) hbw
      have hbW : b < wr.heap.size := Nat.lt_of_lt_of_le hbw hbl.size
      have hBs := hbl.size
      obtain ⟨L, hL⟩ : ∃ L, L = (replies X n).length := ⟨_, rfl⟩
      have HL := hide hL
      rw [← hL] at H13 hL3 hL4 hoc
      clear H0 hor hR hbl hbx HI HC HTab hbw hL
      go_wp2_with fail
      refine H13.out.mono ?_
      rintro e w1 ⟨rfl, hw⟩
      rw [hw]
      clear hw w1 H13
      obtain ⟨W, hW⟩ : ∃ W, W = wr := ⟨_, rfl⟩
      subst hW
      go_wp2_with fail
      go_loopw [6, 7, 8, 9, 10] (fun pv iv sv nv ov wr => ∃ k : Nat, k ≤ n ∧ pv = .int .i64 ((replies X k).length : Nat) ∧ iv = .int .i64 k ∧ Hid (Below W.heap.size W wr)) (fun _ iv _ _ _ _ => n - (RowKit.intOf iv).toNat)
      case atStart => exact ⟨0, Nat.zero_le _, rfl, rfl, Below.refl _ _⟩
      case round =>
        obtain ⟨k, hk, rfl, rfl, HW⟩ := hrel
        by_cases hlt : k < n
        · obtain ⟨c0, cd, c13, c10, hle⟩ := at_reply (HR.out.below HW.out hgW) hlt
          have cx := below_cell HW.out (HXC.out k hlt) hbW
          have hil := itoa_length_le (X k) (HX.out k).1 (HX.out k).2
          have H14 := parse_any g ((replies X k).length + 1) (oc - ((replies X k).length + 1)) (X k) wr (HX.out k).1 (HX.out k).2 cd (by rw [← HL.out] at hle; omega)
          have hnx : (replies X (k + 1)).length = (replies X k).length + (itoa (X k)).length + 3 := by rw [replies, List.length_append, reply_length]; omega
          have HCR := hide (itoa_not_cr (X k))
          have HCD := hide cd
          rw [← HL.out] at hle
          obtain ⟨p, hp⟩ : ∃ p, p = (replies X k).length := ⟨_, rfl⟩
          obtain ⟨M, hM⟩ : ∃ M, M = (itoa (X k)).length := ⟨_, rfl⟩
          rw [← hp, ← hM] at c13 c10 hle H14 hnx
          rw [← hp] at c0 HCD ⊢
          rw [← hM] at hil
          have HM := hide hM
          have H14' := hide H14
          have hne : ¬ oc = p + 1 := by omega
          have HNX := hide hnx
          have hLp : decide (L ≤ p) = false := by simp; omega
          clear hp hM cd H14 hnx
          go_wp2_with fail
          go_loopw [6] (fun pv w3 => ∃ j : Nat, j ≤ M ∧ pv = .int .i64 ((p + 1 + j : Nat) : Int) ∧ Hid (w3 = wr)) (fun pv _ => p + 1 + M - (RowKit.intOf pv).toNat)
          case atStart => exact ⟨0, Nat.zero_le _, by go_num, rfl⟩
          case round =>
            obtain ⟨j, hj, rfl, hw3⟩ := hrel
            have hw3' := hw3.out
            rw [hw3']
            by_cases hjl : j < M
            · have hjl' : j < (itoa (X k)).length := by rw [← HM.out]; exact hjl
              have cj := HCD.out j hjl'
              have nj := HCR.out ((itoa (X k)).getD j 0) (by rw [List.getD_eq_getElem?_getD, List.getElem?_eq_getElem hjl']; exact List.getElem_mem _)
              obtain ⟨y, hy⟩ : ∃ y : Int, y = (((itoa (X k)).getD j 0).toNat : Nat) := ⟨_, rfl⟩
              rw [← hy] at cj
              have y0 : ¬ y = 13 := by omega
              have y1 : decide (y = 13) = false := by simpa using y0
              clear nj hy hjl' hw3 hw3'
              go_wp2_with fail
              go_roundw
              case rel => exact ⟨j + 1, by omega, by go_num, by first | exact rfl | exact trivial⟩
              case measure => simp [RowKit.intOf]; omega
            · obtain rfl : M = j := by omega
              clear hw3 hw3' HCD HCR
              go_wp2_with fail
              refine H14'.out.mono ?_
              rintro e w4 ⟨rfl, hb4⟩
              have cx4 := below_cell hb4 cx (Nat.lt_of_lt_of_le hbW HW.out.size)
              have HW4 := hide (HW.out.trans (hb4.mono HW.out.size))
              clear hb4
              go_wp2_with fail
              go_roundw
              case rel => exact ⟨k + 1, by omega, by rw [HNX.out]; go_num, by go_num, HW4⟩
              case measure => simp [RowKit.intOf]; omega
        · obtain rfl : n = k := by omega
          rw [← HL.out]
          go_wp2_with fail
          go_ret
          exact ⟨rfl, HB.out.trans (HW.out.mono hBs)⟩

end Go.Proofs.Qxb6616140aDoor.Rs
