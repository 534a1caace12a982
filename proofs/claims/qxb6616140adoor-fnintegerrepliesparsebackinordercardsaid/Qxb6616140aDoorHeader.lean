/-
  (*Buffer).header and (*Buffer).Integer.
-/
import Derived.Test.Qxb6616140aDoorShelf
import Derived.Test.Qxb6616140aDoorPlain
import Derived.WalkKit
import Derived.ProofKit
import Derived.OwnWalk
import Derived.RangeFuncBox
import Derived.Maps.AppendAt
import Derived.Deep.Cut
import Derived.Deep.CutRange
import Derived.Deep.DeepCutAuto
import Derived.Lib.AppendIntMem
namespace Go.Proofs.Qxb6616140aDoor.Rs
open Go.RowKit Go.Lib

theorem info5 : (Tryd.prog.info? 5).map (fun i => (i.zero, i.size, i.bytes)) = some (some (.int .u8 0), 1, 1) := by kernel_rfl

/-- one reply. -/
def reply (i : Int) : List UInt8 := 58 :: (itoa i ++ [13, 10])

theorem reply_length (i : Int) : (reply i).length = (itoa i).length + 3 := by simp [reply]
theorem cells_two_new (w : World) (x y : Value) (t : TypeId) : ∀ j u, [x, y][j]? = some u → (w.alloc (.cells #[x, y] t)).cell? ((⟨w.heap.size, 0, none⟩ : Addr).add j) = some u := by
  intro j u hu
  rw [Go.WideShapes.add_plain]
  match j, hu with
  | 0, hu => simp at hu ⊢; exact hu
  | 1, hu => simp at hu ⊢; exact hu
  | j + 2, hu => simp at hu
theorem byteCells_append (a b : List UInt8) : byteCells (a ++ b) = byteCells a ++ byteCells b := by simp [byteCells]

set_option maxRecDepth 100000 in
set_option maxHeartbeats 2000000 in
theorem header_any (n₀ bk : Nat) (v : Value) (l : List UInt8) (i : Int) (w : World) (hv : Boxed w bk 26 v) (hrow : w.ownsRow n₀ 5 1 v l.length (byteCells l)) (hn : n₀ ≤ w.heap.size) (hB : n₀ ≤ bk)
    (h0 : -9223372036854775808 ≤ i) (h1 : i ≤ 9223372036854775807) (hl : l.length ≤ 1073741824) (htab : TabBelow Tryd.prog n₀ w "internal/strconv.uint64pow10" .u64 pow10Tab) :
    Calls Tryd.prog 31 #[.pointer (some ⟨bk, 0, none⟩), .int .u8 58, .int .i64 i] w fun e w' => e = .returned (.tuple #[]) ∧ ∃ v', Boxed w' bk 26 v' ∧ w'.ownsRow n₀ 5 1 v' (l ++ reply i).length (byteCells (l ++ reply i)) ∧ Below n₀ w w' := by
  obtain ⟨i0, hi, hz0, hz1, hz2⟩ := info_parts info5
  have hc := hv.cell
  have hf := hv.frozen
  have hil := itoa_length_le i h0 h1
  go_enter Tryd.func31, Tryd.ntmps31
  go_wp2_with (at_builtin; refine wpList_append_own _ rfl _ _ 24 rfl n₀ 5 i0 (.int .u8 0) 1 1 Tryd.underlying24 hi hz0 hz1 hz2 rfl (by decide) _ _ _ rfl (hrow.alloc _) _ 1 1 [.int .u8 58] rfl rfl (cell_one_new _ _ _) (by simp [Value.oneCell']) (by unfold maxLen; omega) (by omega) (by simp; omega) ?_)
  intro v1 w1 hown1 hgrow1 hnil1
  obtain ⟨b1, b2, b3, _, b5⟩ := hv.appended (by decide) hrow hn hB hown1 hgrow1
  obtain ⟨g, c, rfl⟩ := ownsRow_succ hown1
  have hc1 := b1.cell
  have hf1 := b1.frozen
  go_upto_region 1 with fail
  obtain ⟨W1, hW1⟩ : ∃ W1, w1.setCell ⟨bk, 0, none⟩ (.slice (some ⟨g, 0, none⟩) (l.length + 1) c) = W1 := ⟨_, rfl⟩
  rw [hW1] at b2 b3 b5 ⊢
  have hc2 := b2.cell
  have hn1 : n₀ ≤ W1.heap.size := Nat.le_trans hn b5.size
  clear hW1 hown1 hgrow1 hnil1 b1 hc1 hf1 hc hf
  go_upto_region 2 with (go_at_call 41; refine (Tryd.strconv_AppendInt_10 n₀ _ i h0 h1 _ _ _ b3 hn1 (by omega) (htab.on b5)).mono ?_; rintro e w2 ⟨v2, rfl, ho2, hb2, hk2⟩; have hbx2 : Boxed w2 bk 26 _ := hk2 bk _ b2 (by simp) (by simp); have hc3 := hbx2.cell; have hf3 := hbx2.frozen; obtain ⟨g2, c2, rfl⟩ := ownsRow_succ (k := l.length + (itoa i).length) (show w2.ownsRow n₀ 5 1 v2 (l.length + (itoa i).length + 1) _ by rw [show l.length + (itoa i).length + 1 = l.length + 1 + (itoa i).length by omega]; exact ho2))
  obtain ⟨W2, hW2⟩ : ∃ W2, w2.setCell ⟨bk, 0, none⟩ (.slice (some ⟨g2, 0, none⟩) (l.length + (itoa i).length + 1) c2) = W2 := ⟨_, rfl⟩
  have hlen : l.length + 1 + (itoa i).length = l.length + (itoa i).length + 1 := by omega
  rw [hlen] at ho2
  have d2 : Boxed W2 bk 26 (.slice (some ⟨g2, 0, none⟩) (l.length + (itoa i).length + 1) c2) := by rw [← hW2]; exact hbx2.set _
  have d3 := ho2.kept (grownBy_setCell' w2 bk (.slice (some ⟨g2, 0, none⟩) (l.length + (itoa i).length + 1) c2)) (.inr (hbx2.not_row (by decide) ho2).symm)
  have d5 := (b5.trans hb2).setCell (p := ⟨bk, 0, none⟩) hB (.slice (some ⟨g2, 0, none⟩) (l.length + (itoa i).length + 1) c2)
  rw [hW2] at d3 d5 ⊢
  have hn2 : n₀ ≤ W2.heap.size := Nat.le_trans hn d5.size
  have hc4 := d2.cell
  clear hW2 ho2 hb2 hk2 hbx2 hc3 hf3 b2 b3 b5 hc2 hn1
  go_wp2_with (at_builtin; refine wpList_append_own _ rfl _ _ 24 rfl n₀ 5 i0 (.int .u8 0) 1 1 Tryd.underlying24 hi hz0 hz1 hz2 rfl (by decide) _ _ _ rfl (d3.alloc _) _ 2 2 [.int .u8 13, .int .u8 10] rfl rfl (cells_two_new _ _ _ _) (by simp [Value.oneCell']) (by unfold maxLen; omega) (by omega) (by simp; omega) ?_)
  intro v3 w3 hown3 hgrow3 hnil3
  obtain ⟨f1, f2, f3, _, f5⟩ := d2.appended (by decide) d3 hn2 hB hown3 hgrow3
  obtain ⟨g3, c3, rfl⟩ := ownsRow_succ (k := l.length + (itoa i).length + 2) hown3
  have hc5 := f1.cell
  have hf5 := f1.frozen
  go_wp2_with fail
  go_end0
  refine ⟨rfl, _, f2, ?_, d5.trans f5⟩
  have e1 : (l ++ reply i).length = l.length + (itoa i).length + 1 + 2 := by rw [List.length_append, reply_length]; omega
  have e2 : byteCells (l ++ reply i) = byteCells l ++ [Value.int .u8 58] ++ byteCells (itoa i) ++ [Value.int .u8 13, Value.int .u8 10] := by
    rw [byteCells_append, reply, show (58 : UInt8) :: (itoa i ++ [13, 10]) = [58] ++ (itoa i ++ [13, 10]) from rfl, byteCells_append, byteCells_append]
    simp [byteCells]
  rw [e1, e2]
  simpa using f3

set_option maxRecDepth 100000 in
set_option maxHeartbeats 2000000 in
theorem integer_any (n₀ bk : Nat) (v : Value) (l : List UInt8) (i : Int) (w : World) (hv : Boxed w bk 26 v) (hrow : w.ownsRow n₀ 5 1 v l.length (byteCells l)) (hn : n₀ ≤ w.heap.size) (hB : n₀ ≤ bk)
    (h0 : -9223372036854775808 ≤ i) (h1 : i ≤ 9223372036854775807) (hl : l.length ≤ 1073741824) (htab : TabBelow Tryd.prog n₀ w "internal/strconv.uint64pow10" .u64 pow10Tab) :
    Calls Tryd.prog 12 #[.pointer (some ⟨bk, 0, none⟩), .int .i64 i] w fun e w' => e = .returned (.tuple #[]) ∧ ∃ v', Boxed w' bk 26 v' ∧ w'.ownsRow n₀ 5 1 v' (l ++ reply i).length (byteCells (l ++ reply i)) ∧ Below n₀ w w' := by
  have H := header_any n₀ bk v l i w hv hrow hn hB h0 h1 hl htab
  go_enter Tryd.func12, Tryd.ntmps12
  go_wp2_with fail
  refine H.mono ?_
  rintro e w' ⟨rfl, h⟩
  go_wp2_with fail
  go_end0
  exact ⟨rfl, h⟩

end Go.Proofs.Qxb6616140aDoor.Rs
