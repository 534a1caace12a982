/-
  What the loops of FnIntegerRepliesParseBackInOrder keep.
-/
import Derived.Test.Qxb6616140aDoorParse
namespace Go.Proofs.Qxb6616140aDoor.Rs
open Go.RowKit Go.Lib

/-- the replies of the first k. -/
def replies (X : Nat → Int) : Nat → List UInt8
  | 0 => []
  | k + 1 => replies X k ++ reply (X k)
theorem replies_add (X : Nat → Int) (a : Nat) : ∀ b, replies X (a + b) = replies X a ++ replies (fun j => X (a + j)) b
  | 0 => by simp [replies]
  | b + 1 => by rw [← Nat.add_assoc, replies, replies_add X a b, replies, List.append_assoc]

def InI64 (x : Int) : Prop := -9223372036854775808 ≤ x ∧ x ≤ 9223372036854775807
theorem replies_length_le (X : Nat → Int) (hX : ∀ j, InI64 (X j)) : ∀ k, (replies X k).length ≤ 24 * k
  | 0 => Nat.zero_le _
  | k + 1 => by
    have h1 := replies_length_le X hX k
    have h2 := itoa_length_le (X k) (hX k).1 (hX k).2
    rw [replies, List.length_append, reply_length]
    omega

theorem below_cell {B : Nat} {w w' : World} (h : Below B w w') {a : Addr} {v : Value} (hc : w.cell? a = some v) (ha : a.block < B) : w'.cell? a = some v :=
  (World.cell?_of_block (h.block a.block ha)).trans hc
theorem cell_lt {w : World} {a : Addr} {v : Value} (h : w.cell? a = some v) : a.block < w.heap.size := by
  rcases Nat.lt_or_ge a.block w.heap.size with h' | h'
  · exact h'
  · simp [World.cell?, Array.getElem?_eq_none h'] at h

def RetBool (e : Ending) : Prop := ∃ r : Bool, e = .returned (.bool r)
set_option maxRecDepth 100000 in
theorem bytes_any (a : Option Addr) (n c : Nat) (w : World) (h : n ≤ maxLen) : Calls Tryd.prog 11 #[.slice a n c] w fun e w' => RetBool e ∧ w' = w := by
  unfold maxLen at h
  go_enter Tryd.func11, Tryd.ntmps11
  go_wp2
  all_goals go_ret
  all_goals exact ⟨⟨_, rfl⟩, rfl⟩

set_option maxRecDepth 100000 in
theorem out_any (bk : Nat) (a : Option Addr) (n c : Nat) (w : World) (h : Boxed w bk 26 (.slice a n c)) : Calls Tryd.prog 13 #[.pointer (some ⟨bk, 0, none⟩)] w fun e w' => e = .returned (.slice a n c) ∧ w' = w := by
  have hc := h.cell
  go_enter Tryd.func13, Tryd.ntmps13
  go_wp2
  go_ret
  exact ⟨rfl, rfl⟩

/-- what the first loop keeps. -/
def Inv1 (w : World) (X : Nat → Int) (k : Nat) (wr : World) : Prop :=
  ∃ v, Boxed wr w.heap.size 26 v ∧ wr.ownsRow w.heap.size 5 1 v (replies X k).length (byteCells (replies X k)) ∧ Below w.heap.size w wr

theorem Inv1.start (w : World) (X : Nat → Int) : Inv1 w X 0 (w.alloc (.cells #[.slice none 0 0] 26)) :=
  ⟨_, Boxed.new _ _ _, World.ownsRow_nil _ _ _ _, below_alloc _ _⟩

theorem Inv1.step {w wr : World} {X : Nat → Int} {k : Nat} (h : Inv1 w X k wr) (hX : ∀ j, InI64 (X j)) (hk : k ≤ 65536) (htab : TabIs Tryd.prog w "internal/strconv.uint64pow10" .u64 pow10Tab) :
    Calls Tryd.prog 12 #[.pointer (some ⟨w.heap.size, 0, none⟩), .int .i64 (X k)] wr fun e w' => e = .returned (.tuple #[]) ∧ Inv1 w X (k + 1) w' := by
  obtain ⟨v, h1, h2, h3⟩ := h
  have hl := replies_length_le X hX k
  refine (integer_any w.heap.size w.heap.size v (replies X k) (X k) wr h1 h2 h3.size (Nat.le_refl _) (hX k).1 (hX k).2 (by omega) ((tabBelow_of_tabIs htab).on h3)).mono ?_
  rintro e w' ⟨he, v', g1, g2, g3⟩
  exact ⟨he, v', g1, g2, h3.trans g3⟩

/-- what lies behind the first loop. -/
theorem Inv1.out {w wr : World} {X : Nat → Int} {k : Nat} (h : Inv1 w X k wr) : ∃ a c, Boxed wr w.heap.size 26 (.slice a (replies X k).length c) ∧ (replies X k).length ≤ c ∧ ((replies X k).length = 0 ∨ ∃ g, a = some ⟨g, 0, none⟩ ∧ CellsAt wr g 0 (replies X k)) := by
  obtain ⟨v, h1, h2, h3⟩ := h
  have hc := fun g => World.ownsRow.cells h2 (g := g)
  rcases h2.2 with ⟨e, h0⟩ | ⟨g, cap, cur, e, _, _, hn, _⟩
  · subst e
    rw [h0]
    exact ⟨none, 0, h1, Nat.zero_le _, Or.inl rfl⟩
  · subst e
    refine ⟨_, cap, h1, hn, Or.inr ⟨g, rfl, fun j hj => ?_⟩⟩
    have := hc g rfl j (.int .u8 (((replies X k).getD j 0).toNat : Nat)) (by
      simp [byteCells, List.getD_eq_getElem?_getD, List.getElem?_eq_getElem hj])
    rw [Go.WideShapes.add_plain] at this
    exact this

end Go.Proofs.Qxb6616140aDoor.Rs
