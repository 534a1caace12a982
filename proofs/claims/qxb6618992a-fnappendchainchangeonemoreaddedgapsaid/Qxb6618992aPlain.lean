/-
  How a log holds a chain's change: the plain bytes. No Go in it.
-/
import Derived.Lib.EndianMore
namespace Go.Proofs.Qxb6618992a.Ch

def be8 (v : Nat) : List UInt8 := Lib.beBytes 8 v
def le4 (v : Nat) : List UInt8 := Lib.leBytes 4 v
def encNum (p : Nat × Nat) : List UInt8 := be8 p.1 ++ be8 p.2
def encNums (ps : Nat → Nat × Nat) : Nat → List UInt8
  | 0 => []
  | k + 1 => encNums ps k ++ encNum (ps k)
def encGap (g : (Nat × Nat) × (Nat × Nat)) : List UInt8 := encNum g.1 ++ encNum g.2
def encGaps (gs : Nat → (Nat × Nat) × (Nat × Nat)) : Nat → List UInt8
  | 0 => []
  | k + 1 => encGaps gs k ++ encGap (gs k)
/-- the count of gaps, then the gaps. -/
def encList (gs : Nat → (Nat × Nat) × (Nat × Nat)) (n : Nat) : List UInt8 := le4 n ++ encGaps gs n
def encChange (name : List UInt8) (top : Nat × Nat) (rs : Nat → (Nat × Nat) × (Nat × Nat)) (nr : Nat) (ags : Nat → (Nat × Nat) × (Nat × Nat)) (na : Nat) (ps : Nat → Nat × Nat) (np : Nat) : List UInt8 :=
  le4 name.length ++ name ++ encNum top ++ encList rs nr ++ encList ags na ++ le4 np ++ encNums ps np

theorem be8_length (v : Nat) : (be8 v).length = 8 := Lib.beBytes_length 8 v
theorem le4_length (v : Nat) : (le4 v).length = 4 := Lib.leBytes_length 4 v
theorem encNum_length (p : Nat × Nat) : (encNum p).length = 16 := by simp [encNum, be8_length]
theorem encNums_length (ps : Nat → Nat × Nat) : ∀ k, (encNums ps k).length = 16 * k
  | 0 => rfl
  | k + 1 => by rw [encNums, List.length_append, encNums_length ps k, encNum_length]; omega
theorem encGap_length (g : (Nat × Nat) × (Nat × Nat)) : (encGap g).length = 32 := by simp [encGap, encNum_length]
theorem encGaps_length (gs : Nat → (Nat × Nat) × (Nat × Nat)) : ∀ k, (encGaps gs k).length = 32 * k
  | 0 => rfl
  | k + 1 => by rw [encGaps, List.length_append, encGaps_length gs k, encGap_length]; omega
theorem encList_length (gs : Nat → (Nat × Nat) × (Nat × Nat)) (n : Nat) : (encList gs n).length = 4 + 32 * n := by simp [encList, le4_length, encGaps_length]
theorem encChange_length (name : List UInt8) (top : Nat × Nat) (rs : Nat → (Nat × Nat) × (Nat × Nat)) (nr : Nat) (ags : Nat → (Nat × Nat) × (Nat × Nat)) (na : Nat) (ps : Nat → Nat × Nat) (np : Nat) :
    (encChange name top rs nr ags na ps np).length = 4 + name.length + 16 + 4 + 32 * nr + 4 + 32 * na + 4 + 16 * np := by
  simp only [encChange, List.length_append, le4_length, encNum_length, encList_length, encNums_length]; omega

theorem encGaps_add (gs : Nat → (Nat × Nat) × (Nat × Nat)) (a : Nat) : ∀ b, encGaps gs (a + b) = encGaps gs a ++ encGaps (fun j => gs (a + j)) b
  | 0 => by simp [encGaps]
  | b + 1 => by rw [← Nat.add_assoc, encGaps, encGaps_add gs a b, encGaps, List.append_assoc]
theorem encNums_add (ps : Nat → Nat × Nat) (a : Nat) : ∀ b, encNums ps (a + b) = encNums ps a ++ encNums (fun j => ps (a + j)) b
  | 0 => by simp [encNums]
  | b + 1 => by rw [← Nat.add_assoc, encNums, encNums_add ps a b, encNums, List.append_assoc]
theorem encGaps_congr {f g : Nat → (Nat × Nat) × (Nat × Nat)} : ∀ {n : Nat}, (∀ j, j < n → f j = g j) → encGaps f n = encGaps g n
  | 0, _ => rfl
  | n + 1, h => by rw [encGaps, encGaps, encGaps_congr (fun j hj => h j (by omega)), h n (by omega)]

end Go.Proofs.Qxb6618992a.Ch
