/-
  PutUint32 into a row of the call's own.
-/
import Derived.Test.Qxb6618992aNums
namespace Go.Proofs.Qxb6618992a.Ch
open Go.RowKit

theorem set4 {α : Type} (xs : List α) (o : Nat) (a b c d : α) (h : o + 4 ≤ xs.length) :
    (((xs.set o a).set (o + 1) b).set (o + 2) c).set (o + 3) d = xs.take o ++ ([a, b, c, d] ++ xs.drop (o + 4)) := by
  apply List.ext_getElem
  · simp; omega
  · intro i h1 h2
    simp only [List.getElem_set, List.getElem_append, List.length_take]
    by_cases c1 : i < o
    · rw [dif_pos (by omega), if_neg (by omega), if_neg (by omega), if_neg (by omega), if_neg (by omega)]
      simp
    · rw [dif_neg (by omega)]
      have e : min o xs.length = o := by omega
      by_cases c2 : i < o + 4
      · rw [dif_pos (by simp; omega)]
        rcases (show i = o ∨ i = o + 1 ∨ i = o + 2 ∨ i = o + 3 by omega) with rfl | rfl | rfl | rfl
        all_goals simp [e]
      · rw [dif_neg (by simp; omega), if_neg (by omega), if_neg (by omega), if_neg (by omega), if_neg (by omega)]
        simp only [List.getElem_drop, e]
        congr 1
        simp; omega

/-- l with the four bytes of v laid at o. -/
def putAt (l : List UInt8) (o v : Nat) : List UInt8 := l.take o ++ (Lib.leBytes 4 v ++ l.drop (o + 4))
theorem putAt_length (l : List UInt8) (o v : Nat) (h : o + 4 ≤ l.length) : (putAt l o v).length = l.length := by simp [putAt, Lib.leBytes_length]; omega
theorem putAt_mid (a b c : List UInt8) (v : Nat) (hb : b.length = 4) : putAt (a ++ (b ++ c)) a.length v = a ++ (Lib.leBytes 4 v ++ c) := by
  unfold putAt
  rw [List.take_left, ← List.drop_drop, List.drop_left, ← hb, List.drop_left]

set_option maxHeartbeats 2000000 in
set_option maxRecDepth 100000 in
theorem put32 (B g cap o v : Nat) (hv : v < 4294967296) (l : List UInt8) (w : World) (hown : Own B w (.slice (some ⟨g, 0, none⟩) l.length cap) l) (ho : o + 4 ≤ l.length) :
    Calls Try.prog 22 #[.agg #[], .slice (some ⟨g, o, none⟩) (l.length - o) (cap - o), .int .u32 v] w fun e w' => e = .returned (.tuple #[]) ∧ Own B w' (.slice (some ⟨g, 0, none⟩) l.length cap) (putAt l o v) ∧ w.grownBy w' (some g) := by
  have hrow : w.ownsRow B 5 1 (.slice (some ⟨g, 0, none⟩) l.length cap) l.length (Lib.byteCells l) := hown
  have hrow1 := hrow.alloc (.cells #[] 52)
  have hcell : ∀ j, j < l.length → ∃ x, (w.alloc (.cells #[] 52)).cell? ⟨g, j, none⟩ = some x := fun j hj => by
    rw [hrow1.cellAt j (by omega)]
    exact ⟨_, List.getElem?_eq_getElem (by rw [length_byteCells]; exact hj)⟩
  obtain ⟨x0, c0⟩ := hcell o (by omega)
  obtain ⟨x1, c1⟩ := hcell (o + 1) (by omega)
  obtain ⟨x2, c2⟩ := hcell (o + 2) (by omega)
  obtain ⟨x3, c3⟩ := hcell (o + 3) (by omega)
  have f0 := hrow1.frozenAt o
  have f1 := hrow1.frozenAt (o + 1)
  have f2 := hrow1.frozenAt (o + 2)
  have f3 := hrow1.frozenAt (o + 3)
  have b0 : (0 : Int) < ((l.length - o : Nat) : Int) := by omega
  have b1 : (1 : Int) < ((l.length - o : Nat) : Int) := by omega
  have b2 : (2 : Int) < ((l.length - o : Nat) : Int) := by omega
  have b3 : (3 : Int) < ((l.length - o : Nat) : Int) := by omega
  obtain ⟨n', hn'⟩ : ∃ n', n' = l.length - o := ⟨_, rfl⟩
  rw [← hn'] at b0 b1 b2 b3 ⊢
  have HR := hide hrow1
  have HB : Hid (Lib.byteCells (Lib.leBytes 4 v) = [Value.int .u8 ((v : Int) % 256), Value.int .u8 ((v : Int) / 256 % 256), Value.int .u8 ((v : Int) / 65536 % 256), Value.int .u8 ((v : Int) / 16777216)]) := by
    show _ = _
    have e0 : ((v % 256 : Nat) : Int) = (v : Int) % 256 := by omega
    have e1 : ((v / 256 % 256 : Nat) : Int) = (v : Int) / 256 % 256 := by omega
    have e2 : ((v / 256 / 256 % 256 : Nat) : Int) = (v : Int) / 65536 % 256 := by omega
    have e3 : ((v / 256 / 256 / 256 % 256 : Nat) : Int) = (v : Int) / 16777216 := by omega
    simp only [Lib.byteCells, Lib.leBytes, List.map, Lib.toUInt8_mod, e0, e1, e2, e3]
  clear hcell hrow hown hrow1 hn'
  go_enter Try.func22, Try.ntmps22
  go_wp2
  go_end0
  have s0 := HR.out.stored o (.int .u8 ((v : Int) % 256))
  have s1 := s0.1.stored (o + 1) (.int .u8 ((v : Int) / 256 % 256))
  have s2 := s1.1.stored (o + 2) (.int .u8 ((v : Int) / 65536 % 256))
  have s3 := s2.1.stored (o + 3) (.int .u8 ((v : Int) / 16777216))
  refine ⟨rfl, ?_, ?_⟩
  · show World.ownsRow _ _ _ _ _ _ _
    rw [putAt_length l o v ho]
    have e : Lib.byteCells (putAt l o v) = ((((Lib.byteCells l).set o (.int .u8 ((v : Int) % 256))).set (o + 1) (.int .u8 ((v : Int) / 256 % 256))).set (o + 2) (.int .u8 ((v : Int) / 65536 % 256))).set (o + 3) (.int .u8 ((v : Int) / 16777216)) := by
      rw [set4 _ _ _ _ _ _ (by rw [length_byteCells]; exact ho), putAt, byteCells_append, byteCells_append, HB.out]
      simp [Lib.byteCells]
    rw [e]
    exact s3.1
  · exact (World.grownBy_alloc _ _ _).trans (s0.2.trans (s1.2.trans (s2.2.trans s3.2)))

end Go.Proofs.Qxb6618992a.Ch
