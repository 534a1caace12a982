/-
  slices.Values over gaps, and its closure.
-/
import Derived.Test.Qxb6618992aNums
import Derived.RangeFuncNested
import Derived.RangeFuncBound
import Derived.RangeFuncCalls
import Derived.RangeFuncLeaves
import Derived.Shelf.Abstract
import Derived.Shelf.RegionOpen
import Derived.WalkKit
import Derived.OwnWalkIn
import Derived.TacticsInMore
import Derived.LoopNIn
import Derived.LoopIn
namespace Go.Proofs.Qxb6618992a.Ch
open Go.RowKit Go.Shelf

attribute [local go_sem] Oper.semAt_some

/-- a gap whose numbers fit. -/
abbrev Gp := { g : (Nat × Nat) × (Nat × Nat) // (g.1.1 < 18446744073709551616 ∧ g.1.2 < 18446744073709551616) ∧ (g.2.1 < 18446744073709551616 ∧ g.2.2 < 18446744073709551616) }
def gapVal (g : Gp) : Value := .agg #[.int .u64 g.1.1.1, .int .u64 g.1.1.2, .int .u64 g.1.2.1, .int .u64 g.1.2.2]
/-- m gaps lie at ⟨b, o⟩, four cells each. -/
def GapsAt (w : World) (b o m : Nat) (gs : Nat → Gp) : Prop :=
  ∀ j, j < m → w.cell? ⟨b, o + j * 4, none⟩ = some (.int .u64 (gs j).1.1.1) ∧ w.cell? ⟨b, o + j * 4 + 1, none⟩ = some (.int .u64 (gs j).1.1.2) ∧
    w.cell? ⟨b, o + j * 4 + 2, none⟩ = some (.int .u64 (gs j).1.2.1) ∧ w.cell? ⟨b, o + j * 4 + 3, none⟩ = some (.int .u64 (gs j).1.2.2)
theorem GapsAt.same {w w' : World} {b o m : Nat} {gs : Nat → Gp} (h : GapsAt w b o m gs) (e : w'.heap[b]? = w.heap[b]?) : GapsAt w' b o m gs := fun j hj => by
  obtain ⟨h1, h2, h3, h4⟩ := h j hj
  exact ⟨(World.cell?_of_block e).trans h1, (World.cell?_of_block e).trans h2, (World.cell?_of_block e).trans h3, (World.cell?_of_block e).trans h4⟩

def upto {α : Type} (f : Nat → α) (k : Nat) : List α := (List.range k).map f
theorem upto_succ {α : Type} (f : Nat → α) (k : Nat) : upto f (k + 1) = upto f k ++ [f k] := by simp [upto, List.range_succ]
theorem upto_length {α : Type} (f : Nat → α) (k : Nat) : (upto f k).length = k := by simp [upto]

/-- what the iterator wants kept of a round: its box, and the block of the gaps. -/
def Kp (Bs b : Nat) (W W' : World) : Prop := W.heap.size ≤ W'.heap.size ∧ W'.heap[Bs]? = W.heap[Bs]? ∧ W'.heap[b]? = W.heap[b]?
theorem Kp.refl (Bs b : Nat) (W : World) : Kp Bs b W W := ⟨Nat.le_refl _, rfl, rfl⟩
theorem Kp.trans {Bs b : Nat} {A B C : World} (h : Kp Bs b A B) (k : Kp Bs b B C) : Kp Bs b A C := ⟨Nat.le_trans h.1 k.1, k.2.1.trans h.2.1, k.2.2.trans h.2.2⟩
theorem Kp.of_grown {Bs b : Nat} {A B : World} (hBs : Bs < A.heap.size) (hb : b < A.heap.size) (h : A.grownBy B none) : Kp Bs b A B := ⟨h.size, h.block Bs hBs (by simp), h.block b hb (by simp)⟩

set_option maxRecDepth 100000 in
set_option maxHeartbeats 2000000 in
theorem values1 (n : Nat) (hn : 1 ≤ n) (l Bs b off len cap : Nat) (gs : Nat → Gp) (hreach : len ≤ 65536) (J Jx : List Gp → World → Prop) (W : World)
    (hJ : AbidesFrom W.heap.size J)
    (hY : ∀ pre x W, J pre W → pre.length < len → YieldAt Fence.wide (n - 1) Try.prog l #[gapVal x] W fun e W' =>
      (e = .returned (.bool true) ∧ J (pre ++ [x]) W' ∧ Kp Bs b W W') ∨ (e = .returned (.bool false) ∧ Jx (pre ++ [x]) W'))
    (hBs : W.cell? ⟨Bs, 0, none⟩ = some (.slice (some ⟨b, off, none⟩) len cap)) (hBl : Bs < W.heap.size) (hbl : b < W.heap.size) (hc : GapsAt W b off len gs) (h0 : J [] W) :
    CallsIn Fence.wide n Try.prog 20 #[.func (.yield l) #[] #[], .pointer (some ⟨Bs, 0, none⟩)] W fun e W' => (∃ v, e = .returned v) ∧
      ((∃ ys, ys = upto gs len ∧ J ys W') ∨ (∃ pre, (∃ k, k ≤ len ∧ pre = upto gs k) ∧ Jx pre W')) := by
  refine callsIn_of_wp Try.func20 rfl trivial ?_ rfl
  simp only [Try.ntmps20, List.size_toArray, List.length_cons, List.length_nil, Nat.reduceAdd, Nat.reduceSub, Array.replicate_succ, Array.replicate_zero, List.push_toArray, List.append_toArray, List.nil_append, List.cons_append]
  gi_wp2
  gi_loopw [7] (fun i wr => ∃ k : Nat, k ≤ len ∧ i = .int .i64 k ∧ J (upto gs k) wr ∧ Kp Bs b W wr)
    (fun i _ => len - (intOf i).toNat)
  case atStart => exact ⟨0, Nat.zero_le _, rfl, h0, Kp.refl _ _ _⟩
  case round =>
    obtain ⟨k, hk, rfl, hJs, hkp⟩ := hrel
    by_cases hlt : k < len
    · obtain ⟨c1, c2, c3, c4⟩ := (hc.same hkp.2.2) k hlt
      have hJa : J (upto gs k) (wr.alloc (.cells #[.int .u64 (gs k).1.1.1, .int .u64 (gs k).1.1.2, .int .u64 (gs k).1.2.1, .int .u64 (gs k).1.2.2] 45)) := hJ _ _ _ none hJs (World.grownBy_alloc _ _ _) (by simp)
      obtain ⟨fn, tmps, assign, body, hy, hR⟩ := hY _ (gs k) _ hJa (by rw [upto_length]; exact hlt)
      unfold gapVal at hy
      gi_wp2
      refine hR.mono ?_
      rintro e W3 (⟨rfl, hJ3, hk3⟩ | ⟨rfl, hJx3⟩)
      · gi_wp2
        go_roundw
        case rel =>
          refine ⟨k + 1, by omega, by simp, by rw [upto_succ]; exact hJ3, hkp.trans (Kp.trans ?_ hk3)⟩
          exact Kp.of_grown (Nat.lt_of_lt_of_le hBl hkp.1) (Nat.lt_of_lt_of_le hbl hkp.1) (World.grownBy_alloc _ _ _)
        case measure => simp [intOf]; omega
      · gi_wp2
        refine bodyPost_ret (results_none rfl _ _ _) rfl ?_
        exact ⟨⟨_, rfl⟩, .inr ⟨_, ⟨k + 1, by omega, (upto_succ _ _).symm⟩, hJx3⟩⟩
    · obtain rfl : k = len := by omega
      gi_wp2
      go_end0
      exact ⟨⟨_, rfl⟩, .inl ⟨_, rfl, hJs⟩⟩

set_option maxRecDepth 100000 in
set_option maxHeartbeats 1000000 in
/-- no gaps: no round. -/
theorem values1_none (n l Bs cap : Nat) (a : Option Addr) (J : List Gp → World → Prop) (W : World) (hBs : W.cell? ⟨Bs, 0, none⟩ = some (.slice a 0 cap)) (h0 : J [] W) :
    CallsIn Fence.wide n Try.prog 20 #[.func (.yield l) #[] #[], .pointer (some ⟨Bs, 0, none⟩)] W fun e W' => (∃ v, e = .returned v) ∧ J [] W' := by
  refine callsIn_of_wp Try.func20 rfl trivial ?_ rfl
  simp only [Try.ntmps20, List.size_toArray, List.length_cons, List.length_nil, Nat.reduceAdd, Nat.reduceSub, Array.replicate_succ, Array.replicate_zero, List.push_toArray, List.append_toArray, List.nil_append, List.cons_append]
  gi_wp2
  gi_loopw [7] (fun i wr => i = .int .i64 0 ∧ J [] wr) (fun _ _ => 0)
  case atStart => exact ⟨rfl, h0⟩
  case round =>
    obtain ⟨rfl, hJs⟩ := hrel
    gi_wp2
    go_end0
    exact ⟨⟨_, rfl⟩, hJs⟩

set_option maxHeartbeats 1000000 in
/-- slices.Values(s): the slice value is boxed; the function value captures the box. -/
theorem values_any (a : Option Addr) (len cap : Nat) (w : World) :
    Calls Try.prog 16 #[.slice a len cap] w fun e w' => e = .returned (.func (.func 20) #[] #[.pointer (some ⟨w.heap.size, 0, none⟩)]) ∧ w' = w.alloc (.cells #[.slice a len cap] 29) := by
  go_enter Try.func16, Try.ntmps16
  go_wp2
  go_ret
  exact ⟨rfl, rfl⟩

/-- what is known of a slice of gaps: empty, or its cells lie in block b. -/
def Gaps (w : World) (a : Option Addr) (len b : Nat) (gs : Nat → Gp) : Prop := len = 0 ∨ ∃ off, a = some ⟨b, off, none⟩ ∧ b < w.heap.size ∧ GapsAt w b off len gs
theorem Gaps.same {w w' : World} {a : Option Addr} {len b : Nat} {gs : Nat → Gp} (h : Gaps w a len b gs) (hs : w.heap.size ≤ w'.heap.size) (e : b < w.heap.size → w'.heap[b]? = w.heap[b]?) : Gaps w' a len b gs := by
  rcases h with h | ⟨off, ha, hb, h⟩
  · exact Or.inl h
  · exact Or.inr ⟨off, ha, Nat.lt_of_lt_of_le hb hs, h.same (e hb)⟩

theorem values_stops (n : Nat) (hn : 1 ≤ n) (Bs b len cap : Nat) (a : Option Addr) (gs : Nat → Gp) (hreach : len ≤ 65536) (w : World) (hBs : Bs < w.heap.size) (hc : w.cell? ⟨Bs, 0, none⟩ = some (.slice a len cap)) (hG : Gaps w a len b gs) :
    SeqStopsK Fence.wide n Try.prog 20 #[.pointer (some ⟨Bs, 0, none⟩)] (fun x : Gp => #[gapVal x]) (Kp Bs b) (fun ys => ys = upto gs len) (fun pre => ∃ k, k ≤ len ∧ pre = upto gs k) len w := fun l J Jx W hW hJ _ hY h0 => by
  have hc' := (hW.cell (p := ⟨Bs, 0, none⟩) hBs).trans hc
  rcases hG with rfl | ⟨off, rfl, hb, hg⟩
  · exact (values1_none n l Bs cap a J W hc' h0).mono fun e W' ⟨he, hj⟩ => ⟨he, .inl ⟨_, rfl, hj⟩⟩
  · exact values1 n hn l Bs b off len cap gs hreach J Jx W hJ hY hc' (Nat.lt_of_lt_of_le hBs hW.size) (Nat.lt_of_lt_of_le hb hW.size) (hg.same (hW.block b hb)) h0

end Go.Proofs.Qxb6618992a.Ch
