/-
  ParseInteger, at a decimal numeral.
-/
import Derived.Test.Qxb6616140aDoorHeader
import Derived.Deep.QuietTactic
import Derived.BigQuiet
import Derived.Laws.BytesArg
import Derived.Lib.AtoiErrMem
import Derived.Lib.SlBytesConst
namespace Go.Proofs.Qxb6616140aDoor.Rs
open Go.RowKit Go.Lib

/-- a fact that the walk does not see. -/
def Hid (p : Prop) : Prop := p
theorem Hid.out {p : Prop} (h : Hid p) : p := h
theorem hide {p : Prop} (h : p) : Hid p := h

def CellsAt (w : World) (b o : Nat) (l : List UInt8) : Prop := ∀ j, j < l.length → w.cell? ⟨b, o + j, none⟩ = some (.int .u8 ((l.getD j 0).toNat : Nat))
theorem CellsAt.sub {w : World} {b o : Nat} {l : List UInt8} (h : CellsAt w b o l) (A M Z : List UInt8) (e : l = A ++ (M ++ Z)) : CellsAt w b (o + A.length) M := by
  intro j hj
  have := h (A.length + j) (by rw [e]; simp; omega)
  rw [← Nat.add_assoc] at this
  rw [this, e]
  simp [List.getD_eq_getElem?_getD, List.getElem?_append_right, List.getElem?_append_left, hj]

def numsOf (l : List UInt8) : List Int := l.map fun c => ((c.toNat : Nat) : Int)
theorem numsOf_getD (l : List UInt8) (j : Nat) : (numsOf l).getD j 0 = ((l.getD j 0).toNat : Nat) := by
  simp only [numsOf, List.getD_eq_getElem?_getD, List.getElem?_map]
  cases l[j]? <;> rfl

theorem bytesOf_numsOf : ∀ (l : List UInt8), bytesOf (numsOf l) = l
  | [] => rfl
  | c :: r => by
    have := bytesOf_numsOf r
    simp only [bytesOf, numsOf, List.map_cons] at this ⊢
    rw [this]
    simp
theorem strOf_numsOf (l : List UInt8) : (strOfNums (numsOf l)).data.toList = l := bytesOf_numsOf l

/-- what TrimPrefix leaves of a numeral: its digits. -/
theorem trimmed (b o c : Nat) (i : Int) (w : World) (h : CellsAt w b o (itoa i)) (hc : (itoa i).length ≤ c) :
    ∃ o' c', bytesTrimPrefix b o (itoa i).length c (numsOf (itoa i)) [45] = .slice (some ⟨b, o', none⟩) (decDigits i.natAbs).length c' ∧ CellsAt w b o' (decDigits i.natAbs) ∧
      ((i < 0 ∧ (itoa i).length = (decDigits i.natAbs).length + 1) ∨ (0 ≤ i ∧ (itoa i).length = (decDigits i.natAbs).length)) := by
  have hm : 1 ≤ (decDigits i.natAbs).length := by
    have := decDigits_ne i.natAbs
    cases e : decDigits i.natAbs with
    | nil => exact absurd e this
    | cons _ _ => simp
  by_cases hn : i < 0
  · have e : itoa i = 45 :: decDigits i.natAbs := by rw [itoa, if_pos hn]
    have hl : (itoa i).length = (decDigits i.natAbs).length + 1 := by rw [e, List.length_cons]
    refine ⟨o + 1, c - 1, ?_, ?_, Or.inl ⟨hn, hl⟩⟩
    · have hp : hasPrefix (bytesOf (numsOf (itoa i))) (bytesOf [45]) = true := by
        rw [bytesOf_numsOf, e]
        simp [hasPrefix, bytesOf, List.isPrefixOf]
      rw [bytesTrimPrefix, hp, if_pos rfl, sliceFrom]
      rw [if_neg (by simp; omega), hl]
      simp
    · have := h.sub [45] (decDigits i.natAbs) [] (by rw [e]; simp)
      exact this
  · have e : itoa i = decDigits i.natAbs := by
      rw [itoa, if_neg hn, show i.toNat = i.natAbs by omega]
    refine ⟨o, c, ?_, by rw [e] at h; exact h, Or.inr ⟨by omega, by rw [e]⟩⟩
    have hp : hasPrefix (bytesOf (numsOf (itoa i))) (bytesOf [45]) = false := by
      rw [bytesOf_numsOf, e]
      have hd := decDigits_digit i.natAbs
      cases e2 : decDigits i.natAbs with
      | nil => exact absurd e2 (decDigits_ne _)
      | cons d r =>
        rw [e2] at hd
        have := hd d (by simp)
        have hne : ¬ (45 : UInt8) = d := fun e => by
          rw [← e] at this
          exact absurd this.1 (by decide)
        simp [hasPrefix, bytesOf, List.isPrefixOf, hne]
    rw [bytesTrimPrefix, hp]
    simp [e]

theorem below_alloc (w : World) (o : Obj) : Below w.heap.size w (w.alloc o) := (Below.refl _ w).alloc (Nat.le_refl _) o

set_option maxRecDepth 100000 in
set_option maxHeartbeats 2000000 in
theorem parse_any (b o c : Nat) (i : Int) (w : World) (h0 : -9223372036854775808 ≤ i) (h1 : i ≤ 9223372036854775807) (h : CellsAt w b o (itoa i)) (hc : (itoa i).length ≤ c) :
    Calls Tryd.prog 14 #[.slice (some ⟨b, o, none⟩) (itoa i).length c] w fun e w' => e = .returned (.tuple #[.int .i64 i, .bool true]) ∧ Below w.heap.size w w' := by
  have hil := itoa_length_le i h0 h1
  have hpi := parse_itoa i h0 h1
  obtain ⟨W1, hW1⟩ : ∃ W1, w.alloc (.cells #[.int .u8 45] 5 (1, 2)) = W1 := ⟨_, rfl⟩
  have hg1 : w.grownBy W1 none := by rw [← hW1]; exact World.grownBy_alloc _ _ _
  have hb1 : Below w.heap.size w W1 := by rw [← hW1]; exact below_alloc _ _
  have hs1 : w.heap.size ≤ W1.heap.size := hg1.size
  have h' : CellsAt W1 b o (itoa i) := fun j hj => hg1.cell (h j hj) (by simp)
  have hm1 : W1.cell? ⟨w.heap.size, 0 + 0, none⟩ = some (.int .u8 45) := by
    rw [← hW1]
    show (w.alloc _).cell? ⟨w.heap.size, 0, none⟩ = _
    unfold World.cell?
    rw [World.alloc_heap_new]
    rfl
  have hcm : (convert 24 24 (.slice (some ⟨w.heap.size, 0, none⟩) 1 1)).run Tryd.prog (w.alloc (.cells #[.int .u8 45] 5)) = .ok (.slice (some ⟨w.heap.size, 0, none⟩) 1 1) W1 := by
    rw [← hW1]
    exact run_convert_bytes_const w 24 5 #[.int .u8 45] 1 1 Tryd.underlying24 Tryd.underlying5
  obtain ⟨o', c', hV, hD, hcase⟩ := trimmed b o c i W1 h' hc
  have HT := Tryd.bytes_TrimPrefix b o (itoa i).length c w.heap.size 0 1 1 (numsOf (itoa i)) [45] W1 (by simp [numsOf]) rfl hc (fun j hj => by rw [numsOf_getD]; exact h' j hj) (fun j hj => by
    obtain rfl : j = 0 := by omega
    exact hm1)
  rw [hV] at HT
  have hcv : (convert 24 9 (.slice (some ⟨b, o, none⟩) (itoa i).length c)).run Tryd.prog W1 = .ok (.string (strOfNums (numsOf (itoa i)))) W1 :=
    run_convert_bytes_arg W1 24 5 Tryd.underlying24 Tryd.underlying5 b o (itoa i).length c (numsOf (itoa i)) (by simp [numsOf]) (fun j hj => by rw [numsOf_getD]; exact h' j hj) 9 Tryd.underlying9
  have HP := hide (Tryd.strconv_ParseInt_10_at64_ok (strOfNums (numsOf (itoa i))) (by rw [strOfNums_size]; simp [numsOf]; omega) i (by rw [strOf_numsOf]; exact hpi) W1)
  have HD := hide hD
  have hdg := hide (decDigits_digit i.natAbs)
  obtain ⟨n, hn⟩ : ∃ n, n = (itoa i).length := ⟨_, rfl⟩
  obtain ⟨m, hm⟩ : ∃ m, m = (decDigits i.natAbs).length := ⟨_, rfl⟩
  have hm0 : 1 ≤ m := by
    rw [hm]
    cases e : decDigits i.natAbs with
    | nil => exact absurd e (decDigits_ne _)
    | cons _ _ => simp
  have hz : ∃ z : Int, W1.cell? ⟨b, o', none⟩ = some (.int .u8 z) ∧ ((z = 48 ∧ m = 1 ∧ n = m) ∨ z ≠ 48) := by
    have hc0 := hD 0 (by omega)
    refine ⟨_, hc0, ?_⟩
    by_cases hu : i.natAbs = 0
    · left
      have e : decDigits i.natAbs = [48] := by rw [hu, decDigits_small (by decide)]; rfl
      have : m = 1 := by rw [hm, e]; rfl
      refine ⟨by rw [e]; rfl, this, ?_⟩
      omega
    · right
      obtain ⟨d, r, e, hd⟩ := decDigits_head (u := i.natAbs) (by omega)
      rw [e]
      simp
      omega
  obtain ⟨z, hz0, hz1⟩ := hz
  rw [← hn] at hcase hcv HT hil hc ⊢
  rw [← hm] at hcase HT
  have HM := hide hm
  clear hV h h' hm1 hpi hn hm hD
  go_enter Tryd.func14, Tryd.ntmps14
  clear hW1
  go_wp2_with fail
  refine HT.mono ?_
  rintro e wz ⟨rfl, hwz⟩
  rw [hwz]
  clear hwz wz HT hcm
  rcases hz1 with ⟨rfl, hm2, hn2⟩ | hz1
  · obtain rfl : m = 1 := hm2
    obtain rfl : n = 1 := hn2
    go_wp2_with fail
    go_loopw [7, 38] (fun cv iv wr => ∃ k : Nat, k ≤ 1 ∧ iv = .int .i64 k ∧ wr = W1) (fun cv iv _ => 1 - (RowKit.intOf iv).toNat)
    case atStart => exact ⟨0, Nat.zero_le _, rfl, rfl⟩
    case round =>
      obtain ⟨k, hk, rfl, hwr⟩ := hrel
      rw [hwr]
      by_cases hlt : k < 1
      · have hk1 : k < (decDigits i.natAbs).length := by rw [← HM.out]; exact hlt
        have ck := HD.out k hk1
        have dk := hdg.out ((decDigits i.natAbs).getD k 0) (by rw [List.getD_eq_getElem?_getD, List.getElem?_eq_getElem hk1]; exact List.getElem_mem _)
        obtain ⟨y, hy⟩ : ∃ y : Int, y = (((decDigits i.natAbs).getD k 0).toNat : Nat) := ⟨_, rfl⟩
        rw [← hy] at ck
        have y1 : decide (y < 48) = false := by simp; omega
        have y2 : decide (57 < y) = false := by simp; omega
        clear dk hy hk1
        go_wp2_with fail
        go_roundw
        case rel => exact ⟨k + 1, by omega, by go_num, trivial⟩
        case measure => simp [RowKit.intOf]; omega
      · have hkn : k = 1 := by omega
        subst hkn
        go_wp2_with fail
        refine HP.out.mono ?_
        rintro e w2 ⟨rfl, hw2⟩
        have hb2 : Below w.heap.size W1 w2 := by
          rcases hw2 with rfl | ⟨u, rfl⟩
          · exact Below.refl _ _
          · exact (bytesWorld_below W1 5 u).mono hs1
        clear hw2
        go_wp2_with fail
        go_quiet (fail)
        go_wp2_with fail
        go_ret2
        exact ⟨rfl, (hb1.trans hb2).trans ⟨rfl, rfl, rfl, Nat.le_refl _, fun _ _ => rfl⟩⟩
  · have hz2 : decide (z = 48) = false := by simpa using hz1
    go_wp2_with fail
    go_loopw [7, 38] (fun cv iv wr => ∃ k : Nat, k ≤ m ∧ iv = .int .i64 k ∧ wr = W1) (fun cv iv _ => m - (RowKit.intOf iv).toNat)
    case atStart => exact ⟨0, Nat.zero_le _, rfl, rfl⟩
    case round =>
      obtain ⟨k, hk, rfl, hwr⟩ := hrel
      rw [hwr]
      by_cases hlt : k < m
      · have hk1 : k < (decDigits i.natAbs).length := by rw [← HM.out]; exact hlt
        have ck := HD.out k hk1
        have dk := hdg.out ((decDigits i.natAbs).getD k 0) (by rw [List.getD_eq_getElem?_getD, List.getElem?_eq_getElem hk1]; exact List.getElem_mem _)
        obtain ⟨y, hy⟩ : ∃ y : Int, y = (((decDigits i.natAbs).getD k 0).toNat : Nat) := ⟨_, rfl⟩
        rw [← hy] at ck
        have y1 : decide (y < 48) = false := by simp; omega
        have y2 : decide (57 < y) = false := by simp; omega
        clear dk hy hk1
        go_wp2_with fail
        go_roundw
        case rel => exact ⟨k + 1, by omega, by go_num, trivial⟩
        case measure => simp [RowKit.intOf]; omega
      · have hkn : k = m := by omega
        subst hkn
        go_wp2_with fail
        refine HP.out.mono ?_
        rintro e w2 ⟨rfl, hw2⟩
        have hb2 : Below w.heap.size W1 w2 := by
          rcases hw2 with rfl | ⟨u, rfl⟩
          · exact Below.refl _ _
          · exact (bytesWorld_below W1 5 u).mono hs1
        clear hw2
        go_wp2_with fail
        go_quiet (fail)
        go_wp2_with fail
        go_ret2
        exact ⟨rfl, (hb1.trans hb2).trans ⟨rfl, rfl, rfl, Nat.le_refl _, fun _ _ => rfl⟩⟩

end Go.Proofs.Qxb6616140aDoor.Rs
