/-
  What ZZcheckEntries answers, over plain lists; how a joined text is cut.
-/
import Derived.Lib.Join
namespace Go.Proofs.Qxb6616790aDoor.Ce
open Go.Lib

/-- the entries that are not empty. -/
def reasons (ss : List ByteArray) : List ByteArray := ss.filter (fun s => decide (0 < s.size))
def sepB : ByteArray := ⟨#[59, 32]⟩
def missing : ByteArray := ⟨#[109, 105, 115, 115, 105, 110, 103, 32, 111, 114, 32, 101, 109, 112, 116, 121]⟩
def joined (rs : List ByteArray) : ByteArray := ⟨(join (rs.map (·.data.toList)) sepB.data.toList).toArray⟩
def someText (ss : List ByteArray) : Bool := ss.any (fun s => decide (0 < s.size))
def failOf (ss : List ByteArray) : Bool := ss.isEmpty || someText ss
def textOf (ss : List ByteArray) : ByteArray := if ss.isEmpty then missing else joined (reasons ss)
/-- all the bytes. -/
def total (ss : List ByteArray) : Nat := (ss.map (·.size)).sum

theorem joinTail_append (sep : List UInt8) (xs ys : List (List UInt8)) : joinTail sep (xs ++ ys) = joinTail sep xs ++ joinTail sep ys := by
  simp [joinTail]
theorem join_append (sep : List UInt8) (x y : List UInt8) (xs ys : List (List UInt8)) : join ((x :: xs) ++ (y :: ys)) sep = join (x :: xs) sep ++ sep ++ join (y :: ys) sep := by
  rw [List.cons_append, join_cons, join_cons, join_cons, joinTail_append]
  simp [joinTail]

theorem someText_eq (ss : List ByteArray) : someText ss = !(reasons ss).isEmpty := by
  induction ss with
  | nil => rfl
  | cons s ss ih =>
    by_cases h : 0 < s.size
    · simp [someText, reasons, h]
    · simp only [someText, reasons] at ih
      simp [someText, reasons, h]
      simpa using ih

theorem reasons_append (xs ys : List ByteArray) : reasons (xs ++ ys) = reasons xs ++ reasons ys := by simp [reasons]
theorem someText_append (xs ys : List ByteArray) : someText (xs ++ ys) = (someText xs || someText ys) := by simp [someText]

theorem total_nil : total [] = 0 := rfl
theorem total_cons (s : ByteArray) (ss : List ByteArray) : total (s :: ss) = s.size + total ss := by simp [total]
theorem total_append (xs ys : List ByteArray) : total (xs ++ ys) = total xs + total ys := by simp [total]

theorem joined_size_le : ∀ rs : List ByteArray, (joined rs).size ≤ total rs + 2 * rs.length
  | [] => by simp [joined, join_nil, ByteArray.size]
  | r :: rs => by
    have h := join_length r.data.toList (rs.map (·.data.toList)) sepB.data.toList
    have hl : ∀ l : List ByteArray, lens (l.map (·.data.toList)) = total l := by
      intro l
      simp only [lens, total, List.map_map]
      rfl
    have h2 := hl (r :: rs)
    simp only [List.map_cons] at h2
    rw [h2] at h
    have h3 : sepB.data.toList.length = 2 := rfl
    rw [h3, List.length_map] at h
    show (join ((r :: rs).map (·.data.toList)) sepB.data.toList).toArray.size ≤ _
    rw [List.size_toArray, List.map_cons, h, List.length_cons]
    omega

theorem total_reasons : ∀ ss : List ByteArray, total (reasons ss) ≤ total ss ∧ (reasons ss).length ≤ ss.length
  | [] => ⟨Nat.le_refl _, Nat.le_refl _⟩
  | s :: ss => by
    have ⟨h1, h2⟩ := total_reasons ss
    by_cases h : 0 < s.size
    · have e : reasons (s :: ss) = s :: reasons ss := by simp [reasons, h]
      rw [e, total_cons, total_cons]
      simp
      omega
    · have e : reasons (s :: ss) = reasons ss := by simp [reasons, h]
      rw [e, total_cons]
      simp
      omega

theorem joined_append {xs ys : List ByteArray} (hx : xs ≠ []) (hy : ys ≠ []) : joined (xs ++ ys) = joined xs ++ sepB ++ joined ys := by
  obtain ⟨x, xs, rfl⟩ := List.exists_cons_of_ne_nil hx
  obtain ⟨y, ys, rfl⟩ := List.exists_cons_of_ne_nil hy
  have h := join_append sepB.data.toList x.data.toList y.data.toList (xs.map (·.data.toList)) (ys.map (·.data.toList))
  apply ByteArray.ext
  simp only [joined, List.map_append, List.map_cons, ByteArray.data_append] at h ⊢
  rw [h]
  simp
end Go.Proofs.Qxb6616790aDoor.Ce
