/-
  The walks that only read: dictIsFirst, dictLastValue, the two bounds on total length.
-/
import Derived.Test.Qxb6618885aDictWalks
import Derived.Deep.QuietTactic
import Derived.BigQuiet
namespace Go.Proofs.Qxb6618885a.Dc
open Go.RowKit Go.Maps

theorem ret_bool {a b : Bool} (h : a = b) : Ending.returned (.bool a) = .returned (.bool b) := by rw [h]
theorem ret_int {a b : Int} (h : a = b) : Ending.returned (.int .i64 a) = .returned (.int .i64 b) := by rw [h]

theorem grown_drewN {w wr : World} (h : w.grownBy wr none) (n : Nat) : w.grownBy (wr.drewN n) none := ⟨h.os, h.tape, h.output, h.size, h.block⟩
theorem grown_refl (w : World) : w.grownBy w none := ⟨rfl, rfl, rfl, Nat.le_refl _, fun _ _ _ => rfl⟩
theorem toList_ne {s t : ByteArray} {x y : List UInt8} (h : (s.toList == t.toList) = false) (hs : s.data.toList = x) (ht : t.data.toList = y) : x ≠ y := by
  rw [ByteArray.toList_eq, ByteArray.toList_eq, hs, ht] at h
  simpa using h
theorem toList_same {s t : ByteArray} {x y : List UInt8} (h : (s.toList == t.toList) = true) (hs : s.data.toList = x) (ht : t.data.toList = y) : x = y := by
  rw [ByteArray.toList_eq, ByteArray.toList_eq, hs, ht] at h
  simpa using h

/-- 'keys[i]' does not stand ahead of i. -/
def firstB (K : Nat → List UInt8) (i : Nat) : Bool := decide (K i ∉ dist K i)
theorem firstB_true {K : Nat → List UInt8} {i : Nat} (h : ∀ j, j < i → K j ≠ K i) : firstB K i = true := by
  simp only [firstB, decide_eq_true_eq, mem_dist]
  rintro ⟨j, hj, e⟩
  exact h j hj e
theorem firstB_false {K : Nat → List UInt8} {i j : Nat} (hj : j < i) (e : K j = K i) : firstB K i = false := by
  simp only [firstB, decide_eq_false_iff_not, Classical.not_not]
  exact mem_dist.2 ⟨j, hj, e⟩

set_option maxRecDepth 100000 in
theorem isFirst_any (b o len c i : Nat) (ss : List ByteArray) (w : World) (hl : len ≤ 4096) (hi : i < len)
    (hk : ∀ j, j < len → w.cell? ⟨b, o + j, none⟩ = some (.string (ss.getD j ByteArray.empty)) ∧ (ss.getD j ByteArray.empty).size ≤ maxLen) :
    Calls Try.prog 10 #[.slice (some ⟨b, o, none⟩) len c, .int .i64 i] w fun e w' => e = .returned (.bool (firstB (bys ss) i)) ∧ w.grownBy w' none := by
  go_enter Try.func10, Try.ntmps10
  go_wp2
  go_loopw [5] (fun jv wr => ∃ k : Nat, k ≤ i ∧ jv = .int .i64 k ∧ (∀ j, j < k → bys ss j ≠ bys ss i) ∧ w.grownBy wr none) (fun jv _ => i - (intOf jv).toNat)
  case atStart => exact ⟨0, Nat.zero_le _, rfl, fun j hj => absurd hj (by omega), ⟨rfl, rfl, rfl, Nat.le_refl _, fun _ _ _ => rfl⟩⟩
  case round =>
    obtain ⟨k, hk', rfl, hne, hgr⟩ := hrel
    by_cases hlt : k < i
    · obtain ⟨s, hs⟩ : ∃ s, s = ss.getD k ByteArray.empty := ⟨_, rfl⟩
      obtain ⟨t, ht⟩ : ∃ t, t = ss.getD i ByteArray.empty := ⟨_, rfl⟩
      have hcs : wr.cell? ⟨b, o + k, none⟩ = some (.string s) := by rw [hs]; exact hgr.cell (hk k (by omega)).1 (by simp)
      have hct : wr.cell? ⟨b, o + i, none⟩ = some (.string t) := by rw [ht]; exact hgr.cell (hk i hi).1 (by simp)
      have HS : Hid (s.data.toList = bys ss k) := by rw [hs]; rfl
      have HT : Hid (t.data.toList = bys ss i) := by rw [ht]; rfl
      have HN := hide hne
      have HC := hide hk
      clear hs ht hne hk
      cases he : (s.toList == t.toList)
      · go_wp2
        go_quiet (fail)
        go_wp2
        go_roundw
        case rel =>
          exact ⟨k + 1, by omega, by go_num, fun j hj => by
            by_cases e : j = k
            · subst e; exact toList_ne he HS.out HT.out
            · exact HN.out j (by omega), grown_drewN hgr _⟩
        case measure => simp [intOf]; omega
      · go_wp2
        go_quiet (fail)
        go_wp2
        go_ret
        exact ⟨ret_bool (firstB_false hlt (toList_same he HS.out HT.out)).symm, grown_drewN hgr _⟩
    · have : k = i := by omega
      subst this
      have HN := hide hne
      clear hne hk
      go_wp2
      go_ret
      exact ⟨ret_bool (firstB_true HN.out).symm, hgr⟩

set_option maxRecDepth 100000 in
theorem lastValue_any (b o len c vb vo vlen vc : Nat) (ss : List ByteArray) (V : Nat → Int) (x : ByteArray) (w : World) (hl : len ≤ 4096) (hv : len ≤ vlen)
    (hk : ∀ j, j < len → w.cell? ⟨b, o + j, none⟩ = some (.string (ss.getD j ByteArray.empty)) ∧ (ss.getD j ByteArray.empty).size ≤ maxLen)
    (hc : ∀ j, j < len → w.cell? ⟨vb, vo + j, none⟩ = some (.int .i64 (V j)))
    (hx : ∃ j, j < len ∧ bys ss j = x.data.toList) :
    Calls Try.prog 12 #[.slice (some ⟨b, o, none⟩) len c, .slice (some ⟨vb, vo, none⟩) vlen vc, .string x] w fun e w' => e = .returned (.int .i64 (lastv (bys ss) V len x.data.toList)) ∧ w' = w := by
  have HX := hide hx
  clear hx
  go_enter Try.func12, Try.ntmps12
  go_wp2
  go_loop [7] (fun jv => ∃ k : Nat, k ≤ len ∧ jv = .int .i64 ((k : Int) - 1) ∧ ∀ j, k ≤ j → j < len → bys ss j ≠ x.data.toList) (fun jv => (intOf jv + 1).toNat)
  case atStart => exact ⟨len, Nat.le_refl _, rfl, fun j h1 h2 => absurd h2 (by omega)⟩
  case round =>
    obtain ⟨k, hk', rfl, hne⟩ := hrel
    match k, hk', hne with
    | 0, hk', hne =>
      obtain ⟨j, hj, e⟩ := HX.out
      exact absurd e (hne j (Nat.zero_le _) hj)
    | k + 1, hk', hne =>
      obtain ⟨s, hs⟩ : ∃ s, s = ss.getD k ByteArray.empty := ⟨_, rfl⟩
      have hcs : w.cell? ⟨b, o + k, none⟩ = some (.string s) := by rw [hs]; exact (hk k (by omega)).1
      have hcv : w.cell? ⟨vb, vo + k, none⟩ = some (.int .i64 (V k)) := hc k (by omega)
      have HS : Hid (s.data.toList = bys ss k) := by rw [hs]; rfl
      have HN := hide hne
      clear hs hne hk hc
      have ek : ((k + 1 : Nat) : Int) - 1 = (k : Int) := by omega
      rw [ek]
      clear ek
      cases he : (s.toList == x.toList)
      · go_wp2
        go_round
        case rel =>
          exact ⟨k, by omega, by go_num, fun j h1 h2 => by
            by_cases e : j = k
            · subst e; exact toList_ne he HS.out rfl
            · exact HN.out j (by omega) h2⟩
        case measure => simp [intOf]
      · go_wp2
        go_ret
        exact ⟨ret_int (lastv_hit (j := k) (by omega) (toList_same he HS.out rfl) (fun i h1 h2 => HN.out i (by omega) h2)).symm, rfl⟩

/-- it answers a bool; if true, each string is short. -/
def RetBool (ss : List ByteArray) (len : Nat) (e : Ending) : Prop := ∃ r, e = .returned (.bool r) ∧ (r = true → ∀ j, j < len → (ss.getD j ByteArray.empty).size ≤ 1048576)
theorem RetBool.no {ss : List ByteArray} {len : Nat} : RetBool ss len (.returned (.bool false)) := ⟨false, rfl, by simp⟩
theorem RetBool.yes {ss : List ByteArray} {len : Nat} (h : ∀ j, j < len → (ss.getD j ByteArray.empty).size ≤ 1048576) : RetBool ss len (.returned (.bool true)) := ⟨true, rfl, fun _ => h⟩

set_option maxRecDepth 100000 in
theorem bytes7_any (ka va : Option Addr) (len kc vlen vc : Nat) (ss : List ByteArray) (w : World) (hl : len ≤ maxLen) (hv : vlen ≤ maxLen) (hk : IsK w ka len ss) :
    Calls Try.prog 7 #[.slice ka len kc, .slice va vlen vc] w fun e w' => RetBool ss len e ∧ w' = w := by
  unfold maxLen at hl hv
  by_cases h1 : 1048576 < len
  · clear hk
    go_enter Try.func7, Try.ntmps7
    go_wp2
    go_ret
    exact ⟨RetBool.no, rfl⟩
  rcases hk with rfl | ⟨b, o, rfl, hk⟩
  · go_enter Try.func7, Try.ntmps7
    go_wp2
    refine wp_loop_rounds 1 ?_
    rw [rounds_succ]
    go_wp2
    all_goals go_ret
    all_goals first | exact ⟨RetBool.no, rfl⟩ | exact ⟨RetBool.yes (fun j hj => absurd hj (by omega)), rfl⟩
  · go_enter Try.func7, Try.ntmps7
    go_wp2
    go_loop [5, 6] (fun nv iv => ∃ k m : Nat, k ≤ len ∧ m ≤ 1048576 ∧ nv = .int .i64 m ∧ iv = .int .i64 k ∧ Hid (∀ j, j < k → (ss.getD j ByteArray.empty).size ≤ 1048576)) (fun _ iv => len - (intOf iv).toNat)
    case atStart => exact ⟨0, len, Nat.zero_le _, by omega, rfl, rfl, fun j hj => absurd hj (by omega)⟩
    case round =>
      obtain ⟨k, m, hk', hm, rfl, rfl, hS⟩ := hrel
      by_cases hlt : k < len
      · obtain ⟨s, hs⟩ : ∃ s, s = ss.getD k ByteArray.empty := ⟨_, rfl⟩
        have hcs : w.cell? ⟨b, o + k, none⟩ = some (.string s) := by rw [hs]; exact (hk k hlt).1
        have hsz : s.size ≤ 9223372036854775807 := by rw [hs]; exact (hk k hlt).2
        have HS : Hid (s = ss.getD k ByteArray.empty) := hs
        clear hs hk
        by_cases hs1 : 1048576 < s.size
        · go_wp2
          go_ret
          exact ⟨RetBool.no, rfl⟩
        by_cases hs2 : 1048576 < m + s.size
        · go_wp2
          go_ret
          exact ⟨RetBool.no, rfl⟩
        go_wp2
        go_round
        case rel => exact ⟨k + 1, m + s.size, by omega, by omega, by go_num, by go_num, fun j hj => by
          by_cases e : j = k
          · subst e; rw [← HS.out]; omega
          · exact hS.out j (by omega)⟩
        case measure => simp [intOf]; omega
      · clear hk
        by_cases hv1 : 1048576 < vlen
        · go_wp2
          go_ret
          exact ⟨RetBool.no, rfl⟩
        by_cases hv2 : 1048576 < m + vlen
        · go_wp2
          go_ret
          exact ⟨RetBool.no, rfl⟩
        have hkn : k = len := by omega
        go_wp2
        go_ret
        exact ⟨RetBool.yes (fun j hj => hS.out j (by omega)), rfl⟩

set_option maxRecDepth 100000 in
theorem bytes13_any (ka va : Option Addr) (len kc vlen vc : Nat) (ss : List ByteArray) (x : ByteArray) (p q : Int) (w : World) (hx : x.size ≤ maxLen) (hl : len ≤ maxLen) (hv : vlen ≤ maxLen) (hk : IsK w ka len ss) :
    Calls Try.prog 13 #[.slice ka len kc, .slice va vlen vc, .string x, .int .i64 p, .int .i64 q] w fun e w' => RetBool ss len e ∧ w' = w := by
  unfold maxLen at hl hv hx
  by_cases h1 : 1048576 < len
  · clear hk
    go_enter Try.func13, Try.ntmps13
    go_wp2
    go_ret
    exact ⟨RetBool.no, rfl⟩
  rcases hk with rfl | ⟨b, o, rfl, hk⟩
  · go_enter Try.func13, Try.ntmps13
    go_wp2
    refine wp_loop_rounds 1 ?_
    rw [rounds_succ]
    go_wp2
    all_goals go_ret
    all_goals first | exact ⟨RetBool.no, rfl⟩ | exact ⟨RetBool.yes (fun j hj => absurd hj (by omega)), rfl⟩
  · go_enter Try.func13, Try.ntmps13
    go_wp2
    go_loop [11, 12] (fun nv iv => ∃ k m : Nat, k ≤ len ∧ m ≤ 1048576 ∧ nv = .int .i64 m ∧ iv = .int .i64 k ∧ Hid (∀ j, j < k → (ss.getD j ByteArray.empty).size ≤ 1048576)) (fun _ iv => len - (intOf iv).toNat)
    case atStart => exact ⟨0, len, Nat.zero_le _, by omega, rfl, rfl, fun j hj => absurd hj (by omega)⟩
    case round =>
      obtain ⟨k, m, hk', hm, rfl, rfl, hS⟩ := hrel
      by_cases hlt : k < len
      · obtain ⟨s, hs⟩ : ∃ s, s = ss.getD k ByteArray.empty := ⟨_, rfl⟩
        have hcs : w.cell? ⟨b, o + k, none⟩ = some (.string s) := by rw [hs]; exact (hk k hlt).1
        have hsz : s.size ≤ 9223372036854775807 := by rw [hs]; exact (hk k hlt).2
        have HS : Hid (s = ss.getD k ByteArray.empty) := hs
        clear hs hk
        by_cases hs1 : 1048576 < s.size
        · go_wp2
          go_ret
          exact ⟨RetBool.no, rfl⟩
        by_cases hs2 : 1048576 < m + s.size
        · go_wp2
          go_ret
          exact ⟨RetBool.no, rfl⟩
        go_wp2
        go_round
        case rel => exact ⟨k + 1, m + s.size, by omega, by omega, by go_num, by go_num, fun j hj => by
          by_cases e : j = k
          · subst e; rw [← HS.out]; omega
          · exact hS.out j (by omega)⟩
        case measure => simp [intOf]; omega
      · clear hk
        by_cases hv1 : 1048576 < vlen
        · go_wp2
          go_ret
          exact ⟨RetBool.no, rfl⟩
        by_cases hv2 : 1048576 < m + vlen
        · go_wp2
          go_ret
          exact ⟨RetBool.no, rfl⟩
        by_cases hx1 : 1048576 < x.size
        · go_wp2
          go_ret
          exact ⟨RetBool.no, rfl⟩
        by_cases hx2 : 1048576 < m + vlen + x.size
        · go_wp2
          go_ret
          exact ⟨RetBool.no, rfl⟩
        have hkn : k = len := by omega
        go_wp2
        go_ret
        exact ⟨RetBool.yes (fun j hj => hS.out j (by omega)), rfl⟩

end Go.Proofs.Qxb6618885a.Dc
