/-
  Rows of bytes that the call owns: AppendUint32, AppendUint64.
-/
import Derived.Test.Qxb6618992aProg
import Derived.WalkKit
import Derived.Maps.AppendAt
import Derived.Lib.Endian
import Derived.Lib.EndianMore
import Derived.Lib.EndianBits
import Derived.Lib.Walk
import Derived.Lib.UnsafeStr
import Derived.OpenShut
namespace Go.Proofs.Qxb6618992a.Ch
open Go.RowKit

/-- the slice v owns a row of the bytes l, in a block from B on. -/
def Own (B : Nat) (w : World) (v : Value) (l : List UInt8) : Prop := w.ownsRow B 5 1 v l.length (Lib.byteCells l)
/-- from the slice v in w to the slice v' in w': only v's own row was written; v' lies in it or in a new block. -/
structure Step (w : World) (v : Value) (w' : World) (v' : Value) : Prop where
  grown : w.grownBy w' v.ownBlock
  loc : v'.ownBlock = v.ownBlock ∨ ∃ g, v'.ownBlock = some g ∧ w.heap.size ≤ g

theorem Step.refl (w : World) (v : Value) : Step w v w v := ⟨⟨rfl, rfl, rfl, Nat.le_refl _, fun _ _ _ => rfl⟩, .inl rfl⟩
theorem Step.sep {w w' : World} {v v' : Value} (h : Step w v w' v') {b : Nat} (hb : b < w.heap.size) (hne : some b ≠ v.ownBlock) : some b ≠ v'.ownBlock := by
  rcases h.loc with e | ⟨g, e, hg⟩
  · rw [e]; exact hne
  · rw [e]; intro h; cases h; omega
theorem Step.block {w w' : World} {v v' : Value} (h : Step w v w' v') {b : Nat} (hb : b < w.heap.size) (hne : some b ≠ v.ownBlock) : w'.heap[b]? = w.heap[b]? := h.grown.block b hb hne
theorem Step.trans {w w' w'' : World} {v v' v'' : Value} (h : Step w v w' v') (k : Step w' v' w'' v'') : Step w v w'' v'' := by
  refine ⟨⟨k.grown.os.trans h.grown.os, k.grown.tape.trans h.grown.tape, k.grown.output.trans h.grown.output, Nat.le_trans h.grown.size k.grown.size, fun b hb hne => ?_⟩, ?_⟩
  · exact (k.block (Nat.lt_of_lt_of_le hb h.grown.size) (h.sep hb hne)).trans (h.block hb hne)
  · rcases k.loc with e | ⟨g, e, hg⟩
    · rw [e]; exact h.loc
    · exact .inr ⟨g, e, Nat.le_trans h.grown.size hg⟩
theorem Step.alloc (w : World) (v : Value) (o : Obj) : Step w v (w.alloc o) v := ⟨World.grownBy_alloc _ _ _, .inl rfl⟩
theorem Step.of_grown {w w' : World} (v : Value) (h : w.grownBy w' none) : Step w v w' v := ⟨⟨h.os, h.tape, h.output, h.size, fun b hb _ => h.block b hb (by simp)⟩, .inl rfl⟩
theorem Step.cell {w w' : World} {v v' : Value} (h : Step w v w' v') {a : Addr} {x : Value} (hc : w.cell? a = some x) (hne : some a.block ≠ v.ownBlock) : w'.cell? a = some x := h.grown.cell hc hne
theorem Own.alloc {B : Nat} {w : World} {v : Value} {l : List UInt8} (h : Own B w v l) (o : Obj) : Own B (w.alloc o) v l := World.ownsRow.alloc h o

theorem byteCells_append (a b : List UInt8) : Lib.byteCells (a ++ b) = Lib.byteCells a ++ Lib.byteCells b := by simp [Lib.byteCells]
theorem length_byteCells (a : List UInt8) : (Lib.byteCells a).length = a.length := by simp [Lib.byteCells]
theorem Try.info5 : (Try.prog.info? 5).map (fun i => (i.zero, i.size, i.bytes)) = some (some (.int .u8 0), 1, 1) := by kernel_rfl

set_option maxHeartbeats 8000000 in
set_option maxRecDepth 100000 in
theorem appendU64 (B v : Nat) (hv : v < 18446744073709551616) (sv : Value) (l : List UInt8) (w : World) (hown : Own B w sv l) (hBw : B ≤ w.heap.size) (hlim : l.length + 8 ≤ 1073741824) :
    Calls Try.prog 21 #[.agg #[], sv, .int .u64 v] w fun e w' => ∃ v', e = .returned v' ∧ Own B w' v' (l ++ Lib.beBytes 8 v) ∧ Step w sv w' v' := by
  obtain ⟨i0, hi, hz0, hz1, hz2⟩ := info_parts Try.info5
  have e0 : ((v % 256 : Nat) : Int) = (v : Int) % 256 := by omega
  have e1 : ((v / 256 % 256 : Nat) : Int) = (v : Int) / 256 % 256 := by omega
  have e2 : ((v / 256 / 256 % 256 : Nat) : Int) = (v : Int) / 65536 % 256 := by omega
  have e3 : ((v / 256 / 256 / 256 % 256 : Nat) : Int) = (v : Int) / 16777216 % 256 := by omega
  have e4 : ((v / 256 / 256 / 256 / 256 % 256 : Nat) : Int) = (v : Int) / 4294967296 % 256 := by omega
  have e5 : ((v / 256 / 256 / 256 / 256 / 256 % 256 : Nat) : Int) = (v : Int) / 1099511627776 % 256 := by omega
  have e6 : ((v / 256 / 256 / 256 / 256 / 256 / 256 % 256 : Nat) : Int) = (v : Int) / 281474976710656 % 256 := by omega
  have e7 : ((v / 256 / 256 / 256 / 256 / 256 / 256 / 256 % 256 : Nat) : Int) = (v : Int) / 72057594037927936 := by omega
  have HB : Hid (Lib.byteCells (Lib.beBytes 8 v) = [Value.int .u8 ((v : Int) / 72057594037927936), Value.int .u8 ((v : Int) / 281474976710656 % 256), Value.int .u8 ((v : Int) / 1099511627776 % 256), Value.int .u8 ((v : Int) / 4294967296 % 256), Value.int .u8 ((v : Int) / 16777216 % 256), Value.int .u8 ((v : Int) / 65536 % 256), Value.int .u8 ((v : Int) / 256 % 256), Value.int .u8 ((v : Int) % 256)]) := by
    show _ = _
    simp only [Lib.byteCells, Lib.beBytes, Lib.leBytes, List.reverse_cons, List.reverse_nil, List.nil_append, List.cons_append, List.map, Lib.toUInt8_mod, e0, e1, e2, e3, e4, e5, e6, e7]
  clear e0 e1 e2 e3 e4 e5 e6 e7
  have hown' : w.ownsRow B 5 1 sv l.length (Lib.byteCells l) := hown
  clear hown
  go_enter Try.func21, Try.ntmps21
  go_wp2_with (at_builtin; refine wpList_append_own_at _ rfl _ _ 22 rfl B 5 i0 (.int .u8 0) 1 1 Try.underlying22 hi hz0 hz1 hz2 rfl (by decide) _ _ _ rfl ((hown'.alloc _).alloc _) _ 8 8 [Value.int .u8 ((v : Int) / 72057594037927936), Value.int .u8 ((v : Int) / 281474976710656 % 256), Value.int .u8 ((v : Int) / 1099511627776 % 256), Value.int .u8 ((v : Int) / 4294967296 % 256), Value.int .u8 ((v : Int) / 16777216 % 256), Value.int .u8 ((v : Int) / 65536 % 256), Value.int .u8 ((v : Int) / 256 % 256), Value.int .u8 ((v : Int) % 256)] rfl rfl ?c1 ?c2 ?c3 ?c4 ?c5 ?_)
  case c1 =>
    intro j u hj
    match j, hj with
    | 0, hj => simp at hj; subst hj; simp [Addr.add]
    | 1, hj => simp at hj; subst hj; simp [Addr.add]
    | 2, hj => simp at hj; subst hj; simp [Addr.add]
    | 3, hj => simp at hj; subst hj; simp [Addr.add]
    | 4, hj => simp at hj; subst hj; simp [Addr.add]
    | 5, hj => simp at hj; subst hj; simp [Addr.add]
    | 6, hj => simp at hj; subst hj; simp [Addr.add]
    | 7, hj => simp at hj; subst hj; simp [Addr.add]
  case c2 => intro u hu; simp at hu; rcases hu with rfl | rfl | rfl | rfl | rfl | rfl | rfl | rfl <;> rfl
  case c3 => unfold maxLen; omega
  case c4 => omega
  case c5 => simp; omega
  intro v' w1 hown1 hgrow _ hloc
  go_wp2
  go_ret
  refine ⟨_, rfl, ?_, ?_⟩
  · show World.ownsRow _ _ _ _ _ _ _
    rw [byteCells_append, HB.out, List.length_append, Lib.beBytes_length]
    exact hown1
  · refine (Step.alloc _ _ _).trans ((Step.alloc _ _ _).trans ⟨hgrow, ?_⟩)
    rcases hloc with e | e
    · exact .inl e
    · exact .inr ⟨_, e, by simp⟩

set_option maxHeartbeats 8000000 in
set_option maxRecDepth 100000 in
theorem appendU32 (B v : Nat) (hv : v < 4294967296) (sv : Value) (l : List UInt8) (w : World) (hown : Own B w sv l) (hBw : B ≤ w.heap.size) (hlim : l.length + 4 ≤ 1073741824) :
    Calls Try.prog 17 #[.agg #[], sv, .int .u32 v] w fun e w' => ∃ v', e = .returned v' ∧ Own B w' v' (l ++ Lib.leBytes 4 v) ∧ Step w sv w' v' := by
  obtain ⟨i0, hi, hz0, hz1, hz2⟩ := info_parts Try.info5
  have e0 : ((v % 256 : Nat) : Int) = (v : Int) % 256 := by omega
  have e1 : ((v / 256 % 256 : Nat) : Int) = (v : Int) / 256 % 256 := by omega
  have e2 : ((v / 256 / 256 % 256 : Nat) : Int) = (v : Int) / 65536 % 256 := by omega
  have e3 : ((v / 256 / 256 / 256 % 256 : Nat) : Int) = (v : Int) / 16777216 := by omega
  have HB : Hid (Lib.byteCells (Lib.leBytes 4 v) = [Value.int .u8 ((v : Int) % 256), Value.int .u8 ((v : Int) / 256 % 256), Value.int .u8 ((v : Int) / 65536 % 256), Value.int .u8 ((v : Int) / 16777216)]) := by
    show _ = _
    simp only [Lib.byteCells, Lib.leBytes, List.map, Lib.toUInt8_mod, e0, e1, e2, e3]
  clear e0 e1 e2 e3
  have hown' : w.ownsRow B 5 1 sv l.length (Lib.byteCells l) := hown
  clear hown
  go_enter Try.func17, Try.ntmps17
  go_wp2_with (at_builtin; refine wpList_append_own_at _ rfl _ _ 22 rfl B 5 i0 (.int .u8 0) 1 1 Try.underlying22 hi hz0 hz1 hz2 rfl (by decide) _ _ _ rfl ((hown'.alloc _).alloc _) _ 4 4 [Value.int .u8 ((v : Int) % 256), Value.int .u8 ((v : Int) / 256 % 256), Value.int .u8 ((v : Int) / 65536 % 256), Value.int .u8 ((v : Int) / 16777216)] rfl rfl ?c1 ?c2 ?c3 ?c4 ?c5 ?_)
  case c1 =>
    intro j u hj
    match j, hj with
    | 0, hj => simp at hj; subst hj; simp [Addr.add]
    | 1, hj => simp at hj; subst hj; simp [Addr.add]
    | 2, hj => simp at hj; subst hj; simp [Addr.add]
    | 3, hj => simp at hj; subst hj; simp [Addr.add]
  case c2 => intro u hu; simp at hu; rcases hu with rfl | rfl | rfl | rfl <;> rfl
  case c3 => unfold maxLen; omega
  case c4 => omega
  case c5 => simp; omega
  intro v' w1 hown1 hgrow _ hloc
  go_wp2
  go_ret
  refine ⟨_, rfl, ?_, ?_⟩
  · show World.ownsRow _ _ _ _ _ _ _
    rw [byteCells_append, HB.out, List.length_append, Lib.leBytes_length]
    exact hown1
  · refine (Step.alloc _ _ _).trans ((Step.alloc _ _ _).trans ⟨hgrow, ?_⟩)
    rcases hloc with e | e
    · exact .inl e
    · exact .inr ⟨_, e, by simp⟩

end Go.Proofs.Qxb6618992a.Ch
