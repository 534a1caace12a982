/-
  Rows of strings in memory; the walks that only read: zzBytes, zzBytesOf, zzSomeText, zzEntryAsReason; errors.New.
-/
import Derived.Test.Qxb6616790aDoorProg
import Derived.Test.Qxb6616790aDoorPlain
import Derived.Test.Qxb6616790aDoorCopy
import Derived.WalkKit
import Derived.WalkSpells
import Derived.Deep.OwnRows
import Derived.Deep.QuietTactic
import Derived.BigQuiet
namespace Go.Proofs.Qxb6616790aDoor.Ce
open Go.RowKit

theorem hide {p : Prop} (h : p) : Hid p := h
/-- the slice at a holds the strings ss. -/
def Strs (w : World) (a : Option Addr) (ss : List ByteArray) : Prop :=
  ss.length = 0 ∨ ∃ b o, a = some ⟨b, o, none⟩ ∧ ∀ j, j < ss.length → w.cell? ⟨b, o + j, none⟩ = some (.string (ss.getD j ByteArray.empty))
def Szs (ss : List ByteArray) (m : Nat) : Prop := ∀ j, j < ss.length → (ss.getD j ByteArray.empty).size ≤ m

theorem Strs.src {w : World} {a : Option Addr} {ss : List ByteArray} (h : Strs w a ss) : Src w a ss.length (fun j => .string (ss.getD j ByteArray.empty)) := h
theorem Strs.kept {w w' : World} {a : Option Addr} {ss : List ByteArray} (h : Strs w a ss) (hg : w.grownBy w' none) : Strs w' a ss := by
  rcases h with h | ⟨b, o, e, h⟩
  · exact Or.inl h
  · exact Or.inr ⟨b, o, e, fun j hj => hg.cell (h j hj) (by simp)⟩
theorem strs_row {w : World} {g : Nat} {t : TypeId} {ss : List ByteArray} (h : w.rowIs g t ss.length (fun j => .string (ss.getD j ByteArray.empty))) : Strs w (some ⟨g, 0, none⟩) ss :=
  Or.inr ⟨g, 0, rfl, fun j hj => by rw [Nat.zero_add]; exact h.cell hj⟩

theorem someText_take (ss : List ByteArray) (k : Nat) (hk : k < ss.length) : someText (ss.take (k + 1)) = (someText (ss.take k) || decide (0 < (ss.getD k ByteArray.empty).size)) := by
  rw [List.take_succ_eq_append_getElem hk, someText_append]
  simp [someText, List.getD_eq_getElem?_getD, List.getElem?_eq_getElem hk]

theorem grown_refl (w : World) : w.grownBy w none := ⟨rfl, rfl, rfl, Nat.le_refl _, fun _ _ _ => rfl⟩
def RetBool (e : Ending) : Prop := ∃ r : Bool, e = .returned (.bool r)
theorem RetBool.mk (r : Bool) : RetBool (.returned (.bool r)) := ⟨r, rfl⟩
theorem ret_bool {a b : Bool} (h : a = b) : Ending.returned (.bool a) = .returned (.bool b) := by rw [h]

set_option maxRecDepth 100000 in
theorem bytes_any (a b : Option Addr) (ac bc : Nat) (xs ys : List ByteArray) (w : World) (hl : xs.length ≤ maxLen) (hv : ys.length ≤ maxLen) (hx : Strs w a xs) (hy : Strs w b ys) (sx : Szs xs maxLen) (sy : Szs ys maxLen) :
    Calls Tryd.prog 4 #[.slice a xs.length ac, .slice b ys.length bc] w fun e w' => RetBool e ∧ w' = w := by
  have HX := hide hx
  have HY := hide hy
  have HSX := hide sx
  have HSY := hide sy
  clear hx hy sx sy
  obtain ⟨n, hn⟩ : ∃ n, n = xs.length := ⟨_, rfl⟩
  obtain ⟨m, hm⟩ : ∃ m, m = ys.length := ⟨_, rfl⟩
  have HN := hide hn
  have HM := hide hm
  rw [← hn, ← hm]
  rw [← hn] at hl
  rw [← hm] at hv
  clear hn hm
  unfold maxLen at hl hv
  by_cases h1 : 1048576 < n
  · go_enter Tryd.func4, Tryd.ntmps4
    go_wp2
    go_ret
    exact ⟨RetBool.mk _, rfl⟩
  go_enter Tryd.func4, Tryd.ntmps4
  go_wp2
  go_loop [5, 6] (fun nv iv => ∃ k t : Nat, k ≤ n ∧ t ≤ 1048576 ∧ nv = .int .i64 t ∧ iv = .int .i64 k) (fun _ iv => n - (intOf iv).toNat)
  case atStart => exact ⟨0, n, Nat.zero_le _, by omega, rfl, rfl⟩
  case round =>
    obtain ⟨k, t, hk', ht, rfl, rfl⟩ := hrel
    by_cases hlt : k < n
    · obtain ⟨bk, o, rfl, hc⟩ := HX.out.resolve_left (by have := HN.out; omega)
      obtain ⟨s, hs⟩ : ∃ s, s = xs.getD k ByteArray.empty := ⟨_, rfl⟩
      have hcs : w.cell? ⟨bk, o + k, none⟩ = some (.string s) := by rw [hs]; exact hc k (by have := HN.out; omega)
      have hsz : s.size ≤ 9223372036854775807 := by rw [hs]; exact HSX.out k (by have := HN.out; omega)
      clear hs hc
      by_cases hs1 : 1048576 < s.size
      · go_wp2
        go_ret
        exact ⟨RetBool.mk _, rfl⟩
      by_cases hs2 : 1048576 < t + s.size
      · go_wp2
        go_ret
        exact ⟨RetBool.mk _, rfl⟩
      go_wp2
      go_round
      case rel => exact ⟨k + 1, t + s.size, by omega, by omega, by go_num, by go_num⟩
      case measure => simp [intOf]; omega
    · by_cases hv1 : 1048576 < m
      · go_wp2
        go_ret
        exact ⟨RetBool.mk _, rfl⟩
      by_cases hv2 : 1048576 < t + m
      · go_wp2
        go_ret
        exact ⟨RetBool.mk _, rfl⟩
      go_wp2
      go_loop [5, 7] (fun nv iv => ∃ k t : Nat, k ≤ m ∧ t ≤ 1048576 ∧ nv = .int .i64 t ∧ iv = .int .i64 k) (fun _ iv => m - (intOf iv).toNat)
      case atStart => exact ⟨0, t + m, Nat.zero_le _, by omega, by go_num, rfl⟩
      case round =>
        clear ht hk' hlt hv2 hv1
        obtain ⟨k, t, hk', ht, rfl, rfl⟩ := hrel
        by_cases hlt : k < m
        · obtain ⟨bk, o, rfl, hc⟩ := HY.out.resolve_left (by have := HM.out; omega)
          obtain ⟨s, hs⟩ : ∃ s, s = ys.getD k ByteArray.empty := ⟨_, rfl⟩
          have hcs : w.cell? ⟨bk, o + k, none⟩ = some (.string s) := by rw [hs]; exact hc k (by have := HM.out; omega)
          have hsz : s.size ≤ 9223372036854775807 := by rw [hs]; exact HSY.out k (by have := HM.out; omega)
          clear hs hc
          by_cases hs1 : 1048576 < s.size
          · go_wp2
            go_ret
            exact ⟨RetBool.mk _, rfl⟩
          by_cases hs2 : 1048576 < t + s.size
          · go_wp2
            go_ret
            exact ⟨RetBool.mk _, rfl⟩
          go_wp2
          go_round
          case rel => exact ⟨k + 1, t + s.size, by omega, by omega, by go_num, by go_num⟩
          case measure => simp [intOf]; omega
        · go_wp2
          go_ret
          exact ⟨RetBool.mk _, rfl⟩

/-- what zzBytesOf answers. -/
def Count (ss : List ByteArray) (e : Ending) : Prop := ∃ t : Nat, t ≤ 4194304 ∧ e = .returned (.int .i64 t) ∧ (t ≤ 1048576 → Szs ss 1048576)
theorem Count.mk {ss : List ByteArray} {t : Nat} (h : t ≤ 4194304) (h2 : t ≤ 1048576 → Szs ss 1048576) : Count ss (.returned (.int .i64 t)) := ⟨t, h, rfl, h2⟩

set_option maxRecDepth 100000 in
theorem bytesOf_any (a : Option Addr) (ac : Nat) (xs : List ByteArray) (w : World) (hl : xs.length ≤ 65536) (hx : Strs w a xs) (sx : Szs xs maxLen) :
    Calls Tryd.prog 5 #[.slice a xs.length ac] w fun e w' => Count xs e ∧ w' = w := by
  have HX := hide hx
  have HSX := hide sx
  clear hx sx
  obtain ⟨n, hn⟩ : ∃ n, n = xs.length := ⟨_, rfl⟩
  have HN := hide hn
  rw [← hn]
  rw [← hn] at hl
  clear hn
  go_enter Tryd.func5, Tryd.ntmps5
  go_wp2
  go_loop [3, 4] (fun nv iv => ∃ k t : Nat, k ≤ n ∧ t ≤ 1048576 ∧ nv = .int .i64 t ∧ iv = .int .i64 k ∧ Hid (∀ j, j < k → (xs.getD j ByteArray.empty).size ≤ 1048576)) (fun _ iv => n - (intOf iv).toNat)
  case atStart => exact ⟨0, 0, Nat.zero_le _, by omega, rfl, rfl, fun j hj => absurd hj (by omega)⟩
  case round =>
    obtain ⟨k, t, hk', ht, rfl, rfl, HS⟩ := hrel
    by_cases hlt : k < n
    · obtain ⟨bk, o, rfl, hc⟩ := HX.out.resolve_left (by have := HN.out; omega)
      obtain ⟨s, hs⟩ : ∃ s, s = xs.getD k ByteArray.empty := ⟨_, rfl⟩
      have hcs : w.cell? ⟨bk, o + k, none⟩ = some (.string s) := by rw [hs]; exact hc k (by have := HN.out; omega)
      have hsz : s.size ≤ 9223372036854775807 := by rw [hs]; exact HSX.out k (by have := HN.out; omega)
      have HE : Hid (s = xs.getD k ByteArray.empty) := hs
      clear hs hc
      by_cases hs1 : 1048576 < s.size
      · go_wp2
        go_ret
        exact ⟨Count.mk (t := 1048577) (by omega) (fun h => absurd h (by omega)), rfl⟩
      by_cases hs2 : 1048576 < t + (16 + s.size)
      · go_wp2
        go_ret
        exact ⟨Count.mk (t := t + (16 + s.size)) (by omega) (fun h => absurd h (by omega)), rfl⟩
      go_wp2
      go_round
      case rel => exact ⟨k + 1, t + (16 + s.size), by omega, by omega, by go_num, by go_num, fun j hj => by
          by_cases e : j = k
          · subst e; rw [← HE.out]; omega
          · exact HS.out j (by omega)⟩
      case measure => simp [intOf]; omega
    · go_wp2
      go_ret
      exact ⟨Count.mk (by omega) (fun _ j hj => HS.out j (by have := HN.out; omega)), rfl⟩

theorem pos_of {s : ByteArray} {b : Bool} (h : s.toList.isEmpty = b) : decide (0 < s.size) = !b := by
  rw [ByteArray.toList_eq] at h
  have e : s.size = s.data.toList.length := by rw [Array.length_toList]; rfl
  rw [e, ← h]
  cases s.data.toList <;> simp
theorem someText_of_take {ss : List ByteArray} {k : Nat} (h : someText (ss.take k) = true) : someText ss = true := by
  rw [← List.take_append_drop k ss, someText_append, h]; rfl
set_option maxRecDepth 100000 in
theorem someText_any (a : Option Addr) (ac : Nat) (xs : List ByteArray) (w : World) (hl : xs.length ≤ 131072) (hx : Strs w a xs) :
    Calls Tryd.prog 7 #[.slice a xs.length ac] w fun e w' => e = .returned (.bool (someText xs)) ∧ w' = w := by
  have HX := hide hx
  clear hx
  obtain ⟨n, hn⟩ : ∃ n, n = xs.length := ⟨_, rfl⟩
  have HN := hide hn
  rw [← hn]
  rw [← hn] at hl
  clear hn
  go_enter Tryd.func7, Tryd.ntmps7
  go_wp2
  go_loop [3] (fun iv => ∃ k : Nat, k ≤ n ∧ iv = .int .i64 k ∧ Hid (someText (xs.take k) = false)) (fun iv => n - (intOf iv).toNat)
  case atStart => exact ⟨0, Nat.zero_le _, rfl, (by simp [someText] : someText (xs.take 0) = false)⟩
  case round =>
    obtain ⟨k, hk', rfl, HS⟩ := hrel
    by_cases hlt : k < n
    · obtain ⟨bk, o, rfl, hc⟩ := HX.out.resolve_left (by have := HN.out; omega)
      obtain ⟨s, hs⟩ : ∃ s, s = xs.getD k ByteArray.empty := ⟨_, rfl⟩
      have hcs : w.cell? ⟨bk, o + k, none⟩ = some (.string s) := by rw [hs]; exact hc k (by have := HN.out; omega)
      have HT : Hid (someText (xs.take (k + 1)) = decide (0 < s.size)) := by
        show _ = _
        rw [someText_take xs k (by have := HN.out; omega), HS.out, ← hs]; simp
      clear hs hc
      cases he : s.toList.isEmpty
      · have hT2 := HT.out
        rw [pos_of he] at hT2
        have HT2 := hide hT2
        clear hT2 HT
        go_wp2
        go_ret
        exact ⟨ret_bool (someText_of_take HT2.out).symm, rfl⟩
      · have hT2 := HT.out
        rw [pos_of he] at hT2
        have HT2 := hide hT2
        clear hT2 HT
        go_wp2
        go_round
        case rel => exact ⟨k + 1, by omega, by go_num, HT2.out⟩
        case measure => simp [intOf]; omega
    · go_wp2
      go_ret
      refine ⟨ret_bool ?_, rfl⟩
      have := HS.out
      rw [List.take_of_length_le (by have := HN.out; omega)] at this
      exact this.symm

theorem assert9 (v : Value) (w : World) : (Instr.typeAssert (.iface 9 v) 20 9 true).run Tryd.prog w = .ok (.tuple #[v, .bool true]) w := by kernel_rfl

set_option maxRecDepth 100000 in
theorem reason_any (n : Int) (s : ByteArray) (w : World) : Calls Tryd.prog 9 #[.int .i64 n, .iface 9 (.string s)] w fun e w' => e = .returned (.string s) ∧ w' = w := by
  have hta := assert9
  go_enter Tryd.func9, Tryd.ntmps9
  go_wp2
  go_ret
  exact ⟨rfl, rfl⟩

set_option maxRecDepth 100000 in
theorem new_any (s : ByteArray) (w : World) : Calls Tryd.prog 10 #[.string s] w fun e w' => e = .returned (.iface 38 (.pointer (some ⟨w.heap.size, 0, none⟩))) ∧ w' = w.alloc (.cells #[.string s] 40) := by
  go_enter Tryd.func10, Tryd.ntmps10
  go_wp2
  go_ret
  exact ⟨rfl, rfl⟩
end Go.Proofs.Qxb6616790aDoor.Ce
