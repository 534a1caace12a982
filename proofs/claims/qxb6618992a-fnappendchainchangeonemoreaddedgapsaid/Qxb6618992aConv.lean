/-
  toGaps, toNums, cloneBytes.
-/
import Derived.Test.Qxb6618992aChange
import Derived.Test.Qxb6618992aReads
import Derived.Deep.OwnRows
import Derived.Laws.CopyOwn
import Derived.WalkSpells
import Derived.Lib.SliceRun
import Derived.Test.Qxb6618992aCopy
namespace Go.Proofs.Qxb6618992a.Ch
open Go.RowKit

theorem eql26 (w : World) (a : Option Addr) (n c n' c' : Nat) : (binOp .eql 26 (.slice a n c) (.slice none n' c')).run Try.prog w = .ok (.bool a.isNone) w := Lib.run_eql_slice_nil w _ _ a n c n' c' Try.underlying26
theorem eql27 (w : World) (a : Option Addr) (n c n' c' : Nat) : (binOp .eql 27 (.slice a n c) (.slice none n' c')).run Try.prog w = .ok (.bool a.isNone) w := Lib.run_eql_slice_nil w _ _ a n c n' c' Try.underlying27
theorem eql22 (w : World) (a : Option Addr) (n c n' c' : Nat) : (binOp .eql 22 (.slice a n c) (.slice none n' c')).run Try.prog w = .ok (.bool a.isNone) w := Lib.run_eql_slice_nil w _ _ a n c n' c' Try.underlying22
theorem Try.info45 : (Try.prog.info? 45).map (fun i => (i.zero, i.size, i.bytes)) = some (some (.agg #[.int .u64 0, .int .u64 0, .int .u64 0, .int .u64 0]), 4, 32) := by kernel_rfl
theorem Try.info33 : (Try.prog.info? 33).map (fun i => (i.zero, i.size, i.bytes)) = some (some (.agg #[.int .u64 0, .int .u64 0]), 2, 16) := by kernel_rfl

def comp (g : Gp) (c : Nat) : Nat := if c = 0 then g.1.1.1 else if c = 1 then g.1.1.2 else if c = 2 then g.1.2.1 else g.1.2.2
/-- the cells of the gaps while the first k are there. -/
def flat (gs : Nat → Gp) (k i : Nat) : Value := if i < 4 * k then .int .u64 (comp (gs (i / 4)) (i % 4) : Nat) else .int .u64 0
theorem flat_step (gs : Nat → Gp) (k i : Nat) :
    (if i = k * 4 + 3 then Value.int .u64 (gs k).1.2.2 else if i = k * 4 + 2 then .int .u64 (gs k).1.2.1 else if i = k * 4 + 1 then .int .u64 (gs k).1.1.2 else if i = k * 4 then .int .u64 (gs k).1.1.1 else flat gs k i) = flat gs (k + 1) i := by
  unfold flat
  by_cases h : i < 4 * k
  · rw [if_neg (by omega), if_neg (by omega), if_neg (by omega), if_neg (by omega), if_pos h, if_pos (by omega)]
  · by_cases h2 : i < 4 * (k + 1)
    · have hd : i / 4 = k := by omega
      rw [if_neg h, if_pos h2, hd]
      rcases (show i = k * 4 ∨ i = k * 4 + 1 ∨ i = k * 4 + 2 ∨ i = k * 4 + 3 by omega) with rfl | rfl | rfl | rfl
      · rw [if_neg (by omega), if_neg (by omega), if_neg (by omega), if_pos rfl, show k * 4 % 4 = 0 by omega]; rfl
      · rw [if_neg (by omega), if_neg (by omega), if_pos rfl, show (k * 4 + 1) % 4 = 1 by omega]; rfl
      · rw [if_neg (by omega), if_pos rfl, show (k * 4 + 2) % 4 = 2 by omega]; rfl
      · rw [if_pos rfl, show (k * 4 + 3) % 4 = 3 by omega]; rfl
    · rw [if_neg (by omega), if_neg (by omega), if_neg (by omega), if_neg (by omega), if_neg h, if_neg h2]
theorem flat_at {gs : Nat → Gp} {n j c : Nat} (hj : j < n) (hc : c < 4) : flat gs n (j * 4 + c) = .int .u64 (comp (gs j) c : Nat) := by
  unfold flat
  rw [if_pos (by omega), show (j * 4 + c) / 4 = j by omega, show (j * 4 + c) % 4 = c by omega]
theorem gapsAt_of_row {w : World} {g n : Nat} {t : TypeId} {gs : Nat → Gp} (h : w.rowIs g t (n * 4) (flat gs n)) : GapsAt w g 0 n gs := fun j hj => by
  have a := h.cell (i := j * 4 + 0) (by omega)
  have b := h.cell (i := j * 4 + 1) (by omega)
  have c := h.cell (i := j * 4 + 2) (by omega)
  have d := h.cell (i := j * 4 + 3) (by omega)
  rw [flat_at hj (by omega)] at a b c d
  simp only [Nat.zero_add]
  exact ⟨a, b, c, d⟩
theorem grown_new {w wr w1 : World} {B : Nat} (h : w.grownBy wr none) (hg : wr.grownBy w1 (some B)) (hB : w.heap.size ≤ B) : w.grownBy w1 none :=
  ⟨hg.os.trans h.os, hg.tape.trans h.tape, hg.output.trans h.output, Nat.le_trans h.size hg.size,
    fun i hi _ => (hg.block i (Nat.lt_of_lt_of_le hi h.size) (by simp; omega)).trans (h.block i hi (by simp))⟩
theorem grown_setCell {w wr : World} {g i : Nat} (h : w.grownBy wr none) (hB : w.heap.size ≤ g) (v : Value) : w.grownBy (wr.setCell ⟨g, i, none⟩ v) none :=
  ⟨h.os, h.tape, h.output, by simpa [World.setCell] using h.size, fun j hj _ => (Below.heap_setCell _ _ _ _ (by show j ≠ g; omega)).trans (h.block j hj (by simp))⟩
theorem grown_refl (w : World) : w.grownBy w none := ⟨rfl, rfl, rfl, Nat.le_refl _, fun _ _ _ => rfl⟩
theorem grown_drew {w wr : World} (h : w.grownBy wr none) : w.grownBy wr.drew none := ⟨h.os, h.tape, h.output, h.size, h.block⟩

theorem run_make45 (n : Nat) (hn : n ≤ 65536) (w : World) : (Instr.makeSlice 29 (.int .i64 n) (.int .i64 n)).run Try.prog w = .ok (.slice (some ⟨w.heap.size, 0, none⟩) n n) (w.alloc (.cells (madeCells #[.int .u64 0, .int .u64 0, .int .u64 0, .int .u64 0] (n * 4)) 45)) := by
  obtain ⟨i0, hi, hz0, hz1, hz2⟩ := info_parts Try.info45
  have := run_make (P := Try.prog) w 29 45 i0 _ Try.underlying29 hi hz0 .i64 .i64 n n (by omega) (by omega) (by rw [hz2]; omega) (by omega)
  rw [hz1] at this
  simpa [Value.cells] using this
theorem made45 (w : World) (n : Nat) (gs : Nat → Gp) : (w.alloc (.cells (madeCells #[.int .u64 0, .int .u64 0, .int .u64 0, .int .u64 0] (n * 4)) 45)).rowIs w.heap.size 45 (n * 4) (flat gs 0) := by
  have := World.rowIs_alloc w (madeCells #[.int .u64 0, .int .u64 0, .int .u64 0, .int .u64 0] (n * 4)) 45 (flat gs 0) (fun i hi => by
    rw [size_madeCells] at hi
    have h4 : i % 4 < 4 := Nat.mod_lt _ (by decide)
    simp [madeCells, flat, hi]
    rcases (show i % 4 = 0 ∨ i % 4 = 1 ∨ i % 4 = 2 ∨ i % 4 = 3 by omega) with h | h | h | h <;> simp [h])
  rwa [size_madeCells] at this

set_option maxRecDepth 100000 in
set_option maxHeartbeats 2000000 in
theorem toGaps_any (b o len cap : Nat) (gs : Nat → Gp) (w : World) (hl : len ≤ 65536) (hG : GapsAt w b o len gs) :
    Calls Try.prog 6 #[.slice (some ⟨b, o, none⟩) len cap] w fun e w' => e = .returned (.slice (some ⟨w.heap.size, 0, none⟩) len len) ∧ GapsAt w' w.heap.size 0 len gs ∧ w.heap.size < w'.heap.size ∧ w.grownBy w' none := by
  have hmk := run_make45 len hl
  have hq := eql26
  have HG := hide hG
  clear hG
  go_enter Try.func6, Try.ntmps6
  go_wp2
  go_loopw [4] (fun iv wr => ∃ k : Nat, k ≤ len ∧ iv = .int .i64 k ∧ wr.rowIs w.heap.size 45 (len * 4) (flat gs k) ∧ w.grownBy wr none) (fun iv _ => len - (intOf iv).toNat)
  case atStart => exact ⟨0, Nat.zero_le _, rfl, made45 _ _ _, World.grownBy_alloc _ _ _⟩
  case round =>
    obtain ⟨k, hk, rfl, hrow, hgr⟩ := hrel
    by_cases hlt : k < len
    · obtain ⟨c0, c1, c2, c3⟩ := HG.out k hlt
      have c0 := hgr.cell c0 (by simp)
      have c1 := hgr.cell c1 (by simp)
      have c2 := hgr.cell c2 (by simp)
      have c3 := hgr.cell c3 (by simp)
      have d0 := hrow.cell (i := k * 4) (by omega)
      have d1 := hrow.cell (i := k * 4 + 1) (by omega)
      have d2 := hrow.cell (i := k * 4 + 2) (by omega)
      have d3 := hrow.cell (i := k * 4 + 3) (by omega)
      have f0 := hrow.frozen (k * 4)
      have f1 := hrow.frozen (k * 4 + 1)
      have f2 := hrow.frozen (k * 4 + 2)
      have f3 := hrow.frozen (k * 4 + 3)
      go_wp2
      go_region
      all_goals
        go_wp2
        go_roundw
        case rel =>
          refine ⟨k + 1, by omega, by go_num, ?_, grown_drew (grown_setCell (grown_setCell (grown_setCell (grown_setCell hgr (Nat.le_refl _) _) (Nat.le_refl _) _) (Nat.le_refl _) _) (Nat.le_refl _) _)⟩
          exact World.rowIs.drew (((((hrow.set (k * 4) _).set (k * 4 + 1) _).set (k * 4 + 2) _).set (k * 4 + 3) _).congr (fun i _ => flat_step gs k i))
        case measure => simp [intOf]; omega
    · have hkl : len = k := by omega
      subst hkl
      go_wp2
      go_ret
      exact ⟨rfl, gapsAt_of_row hrow, hrow.lt, hgr⟩

set_option maxRecDepth 100000 in
set_option maxHeartbeats 2000000 in
theorem toGaps_zero (ad : Addr) (cap : Nat) (w : World) :
    Calls Try.prog 6 #[.slice (some ad) 0 cap] w fun e w' => e = .returned (.slice (some ⟨w.heap.size, 0, none⟩) 0 0) ∧ w.heap.size < w'.heap.size ∧ w.grownBy w' none := by
  have hmk : ∀ w, (Instr.makeSlice 29 (.int .i64 0) (.int .i64 0)).run Try.prog w = .ok (.slice (some ⟨w.heap.size, 0, none⟩) 0 0) (w.alloc (.cells (madeCells #[.int .u64 0, .int .u64 0, .int .u64 0, .int .u64 0] (0 * 4)) 45)) := run_make45 0 (by omega)
  have hq := eql26
  go_enter Try.func6, Try.ntmps6
  go_wp2
  refine wp_loop_rounds 1 ?_
  rw [rounds_succ]
  go_wp2
  go_ret
  exact ⟨rfl, by simp, World.grownBy_alloc _ _ _⟩

set_option maxRecDepth 100000 in
theorem toGaps_nil (w : World) : Calls Try.prog 6 #[.slice none 0 0] w fun e w' => e = .returned (.slice none 0 0) ∧ w' = w := by
  have hq := eql26
  go_enter Try.func6, Try.ntmps6
  go_wp2
  go_ret
  exact ⟨rfl, rfl⟩

/-- what is known of a slice of G that came in. -/
def GapsIn (w : World) (a : Option Addr) (len cap : Nat) (gs : Nat → Gp) : Prop := (a = none → len = 0 ∧ cap = 0) ∧ (len = 0 ∨ ∃ b o, a = some ⟨b, o, none⟩ ∧ GapsAt w b o len gs)

/-- toGaps, at every slice: d: a block to be named where nothing is made. -/
theorem toGaps_all (a : Option Addr) (len cap : Nat) (gs : Nat → Gp) (d : Nat) (w : World) (hl : len ≤ 65536) (hG : GapsIn w a len cap gs) (hd : d < w.heap.size) :
    Calls Try.prog 6 #[.slice a len cap] w fun e w' => ∃ a' c' b', e = .returned (.slice a' len c') ∧ Gaps w' a' len b' gs ∧ (b' = d ∨ w.heap.size ≤ b') ∧ b' < w'.heap.size ∧ w.grownBy w' none := by
  obtain ⟨h1, h2⟩ := hG
  cases a with
  | none =>
    obtain ⟨rfl, rfl⟩ := h1 rfl
    exact (toGaps_nil w).mono fun e w' ⟨he, hw⟩ => ⟨none, 0, d, he, Or.inl rfl, .inl rfl, by rw [hw]; exact hd, by rw [hw]; exact grown_refl _⟩
  | some ad =>
    rcases h2 with rfl | ⟨b, o, e, h⟩
    · exact (toGaps_zero ad cap w).mono fun e w' ⟨he, hlt, hg⟩ => ⟨_, _, w.heap.size, he, Or.inl rfl, .inr (Nat.le_refl _), hlt, hg⟩
    · cases e
      exact (toGaps_any b o len cap gs w hl h).mono fun e w' ⟨he, hG, hlt, hg⟩ => ⟨_, _, w.heap.size, he, Or.inr ⟨0, rfl, hlt, hG⟩, .inr (Nat.le_refl _), hlt, hg⟩

/-! ### toNums -/
/-- a chain number that fits. -/
abbrev Np := { p : Nat × Nat // p.1 < 18446744073709551616 ∧ p.2 < 18446744073709551616 }
def comp2 (p : Np) (c : Nat) : Nat := if c = 0 then p.1.1 else p.1.2
def flat2 (ps : Nat → Np) (k i : Nat) : Value := if i < 2 * k then .int .u64 (comp2 (ps (i / 2)) (i % 2) : Nat) else .int .u64 0
theorem flat2_step (ps : Nat → Np) (k i : Nat) :
    (if i = k * 2 + 1 then Value.int .u64 (ps k).1.2 else if i = k * 2 then .int .u64 (ps k).1.1 else flat2 ps k i) = flat2 ps (k + 1) i := by
  unfold flat2
  by_cases h : i < 2 * k
  · rw [if_neg (by omega), if_neg (by omega), if_pos h, if_pos (by omega)]
  · by_cases h2 : i < 2 * (k + 1)
    · have hd : i / 2 = k := by omega
      rw [if_neg h, if_pos h2, hd]
      rcases (show i = k * 2 ∨ i = k * 2 + 1 by omega) with rfl | rfl
      · rw [if_neg (by omega), if_pos rfl, show k * 2 % 2 = 0 by omega]; rfl
      · rw [if_pos rfl, show (k * 2 + 1) % 2 = 1 by omega]; rfl
    · rw [if_neg (by omega), if_neg (by omega), if_neg h, if_neg h2]
theorem flat2_at0 {ps : Nat → Np} {n j : Nat} (hj : j < n) : flat2 ps n (j * 2) = .int .u64 (ps j).1.1 := by
  unfold flat2
  rw [if_pos (by omega), show (j * 2) / 2 = j by omega, show j * 2 % 2 = 0 by omega]; rfl
theorem flat2_at1 {ps : Nat → Np} {n j : Nat} (hj : j < n) : flat2 ps n (j * 2 + 1) = .int .u64 (ps j).1.2 := by
  unfold flat2
  rw [if_pos (by omega), show (j * 2 + 1) / 2 = j by omega, show (j * 2 + 1) % 2 = 1 by omega]; rfl
theorem numsAt_of_row {w : World} {g n : Nat} {t : TypeId} {ps : Nat → Np} (h : w.rowIs g t (n * 2) (flat2 ps n)) : NumsAt w g 0 n (fun j => (ps j).1) := fun j hj => by
  have a := h.cell (i := j * 2) (by omega)
  have b := h.cell (i := j * 2 + 1) (by omega)
  rw [flat2_at0 hj] at a
  rw [flat2_at1 hj] at b
  simp only [Nat.zero_add]
  exact ⟨a, b, (ps j).2.1, (ps j).2.2⟩
theorem run_make33 (n : Nat) (hn : n ≤ 65536) (w : World) : (Instr.makeSlice 31 (.int .i64 n) (.int .i64 n)).run Try.prog w = .ok (.slice (some ⟨w.heap.size, 0, none⟩) n n) (w.alloc (.cells (madeCells #[.int .u64 0, .int .u64 0] (n * 2)) 33)) := by
  obtain ⟨i0, hi, hz0, hz1, hz2⟩ := info_parts Try.info33
  have := run_make (P := Try.prog) w 31 33 i0 _ Try.underlying31 hi hz0 .i64 .i64 n n (by omega) (by omega) (by rw [hz2]; omega) (by omega)
  rw [hz1] at this
  simpa [Value.cells] using this
theorem made33 (w : World) (n : Nat) (ps : Nat → Np) : (w.alloc (.cells (madeCells #[.int .u64 0, .int .u64 0] (n * 2)) 33)).rowIs w.heap.size 33 (n * 2) (flat2 ps 0) := by
  have := World.rowIs_alloc w (madeCells #[.int .u64 0, .int .u64 0] (n * 2)) 33 (flat2 ps 0) (fun i hi => by
    rw [size_madeCells] at hi
    simp [madeCells, flat2, hi]
    rcases (show i % 2 = 0 ∨ i % 2 = 1 by omega) with h | h <;> simp [h])
  rwa [size_madeCells] at this

set_option maxRecDepth 100000 in
set_option maxHeartbeats 2000000 in
theorem toNums_any (b o len cap : Nat) (ps : Nat → Np) (w : World) (hl : len ≤ 65536) (hG : NumsAt w b o len (fun j => (ps j).1)) :
    Calls Try.prog 7 #[.slice (some ⟨b, o, none⟩) len cap] w fun e w' => e = .returned (.slice (some ⟨w.heap.size, 0, none⟩) len len) ∧ NumsAt w' w.heap.size 0 len (fun j => (ps j).1) ∧ w.heap.size < w'.heap.size ∧ w.grownBy w' none := by
  have hmk := run_make33 len hl
  have hq := eql27
  have HG := hide hG
  clear hG
  go_enter Try.func7, Try.ntmps7
  go_wp2
  go_loopw [4] (fun iv wr => ∃ k : Nat, k ≤ len ∧ iv = .int .i64 k ∧ wr.rowIs w.heap.size 33 (len * 2) (flat2 ps k) ∧ w.grownBy wr none) (fun iv _ => len - (intOf iv).toNat)
  case atStart => exact ⟨0, Nat.zero_le _, rfl, made33 _ _ _, World.grownBy_alloc _ _ _⟩
  case round =>
    obtain ⟨k, hk, rfl, hrow, hgr⟩ := hrel
    by_cases hlt : k < len
    · obtain ⟨c0, c1, _⟩ := HG.out k hlt
      have c0 := hgr.cell c0 (by simp)
      have c1 := hgr.cell c1 (by simp)
      have d0 := hrow.cell (i := k * 2) (by omega)
      have d1 := hrow.cell (i := k * 2 + 1) (by omega)
      have f0 := hrow.frozen (k * 2)
      have f1 := hrow.frozen (k * 2 + 1)
      go_wp2
      go_roundw
      case rel =>
        refine ⟨k + 1, by omega, by go_num, ?_, grown_setCell (grown_setCell hgr (Nat.le_refl _) _) (Nat.le_refl _) _⟩
        exact ((hrow.set (k * 2) _).set (k * 2 + 1) _).congr (fun i _ => flat2_step ps k i)
      case measure => simp [intOf]; omega
    · have hkl : len = k := by omega
      subst hkl
      go_wp2
      go_ret
      exact ⟨rfl, numsAt_of_row hrow, hrow.lt, hgr⟩

set_option maxRecDepth 100000 in
set_option maxHeartbeats 2000000 in
theorem toNums_zero (ad : Addr) (cap : Nat) (w : World) :
    Calls Try.prog 7 #[.slice (some ad) 0 cap] w fun e w' => e = .returned (.slice (some ⟨w.heap.size, 0, none⟩) 0 0) ∧ w.heap.size < w'.heap.size ∧ w.grownBy w' none := by
  have hmk : ∀ w, (Instr.makeSlice 31 (.int .i64 0) (.int .i64 0)).run Try.prog w = .ok (.slice (some ⟨w.heap.size, 0, none⟩) 0 0) (w.alloc (.cells (madeCells #[.int .u64 0, .int .u64 0] (0 * 2)) 33)) := run_make33 0 (by omega)
  have hq := eql27
  go_enter Try.func7, Try.ntmps7
  go_wp2
  refine wp_loop_rounds 1 ?_
  rw [rounds_succ]
  go_wp2
  go_ret
  exact ⟨rfl, by simp, World.grownBy_alloc _ _ _⟩

set_option maxRecDepth 100000 in
theorem toNums_nil (w : World) : Calls Try.prog 7 #[.slice none 0 0] w fun e w' => e = .returned (.slice none 0 0) ∧ w' = w := by
  have hq := eql27
  go_enter Try.func7, Try.ntmps7
  go_wp2
  go_ret
  exact ⟨rfl, rfl⟩

/-- what is known of a slice of Num that came in. -/
def NumsIn (w : World) (a : Option Addr) (len cap : Nat) (ps : Nat → Np) : Prop := (a = none → len = 0 ∧ cap = 0) ∧ (len = 0 ∨ ∃ b o, a = some ⟨b, o, none⟩ ∧ NumsAt w b o len (fun j => (ps j).1))

theorem toNums_all (a : Option Addr) (len cap : Nat) (ps : Nat → Np) (d : Nat) (w : World) (hl : len ≤ 65536) (hG : NumsIn w a len cap ps) (hd : d < w.heap.size) :
    Calls Try.prog 7 #[.slice a len cap] w fun e w' => ∃ a' c' b', e = .returned (.slice a' len c') ∧ Nums w' a' len b' (fun j => (ps j).1) ∧ (b' = d ∨ w.heap.size ≤ b') ∧ b' < w'.heap.size ∧ w.grownBy w' none := by
  obtain ⟨h1, h2⟩ := hG
  cases a with
  | none =>
    obtain ⟨rfl, rfl⟩ := h1 rfl
    exact (toNums_nil w).mono fun e w' ⟨he, hw⟩ => ⟨none, 0, d, he, Or.inl rfl, .inl rfl, by rw [hw]; exact hd, by rw [hw]; exact grown_refl _⟩
  | some ad =>
    rcases h2 with rfl | ⟨b, o, e, h⟩
    · exact (toNums_zero ad cap w).mono fun e w' ⟨he, hlt, hg⟩ => ⟨_, _, w.heap.size, he, Or.inl rfl, .inr (Nat.le_refl _), hlt, hg⟩
    · cases e
      exact (toNums_any b o len cap ps w hl h).mono fun e w' ⟨he, hG, hlt, hg⟩ => ⟨_, _, w.heap.size, he, Or.inr ⟨0, rfl, hG⟩, .inr (Nat.le_refl _), hlt, hg⟩

/-! ### cloneBytes -/
theorem Try.one5 : (Try.prog.info? 5).map (·.size) = some 1 := by kernel_rfl
/-- what is known of a slice of bytes that came in. -/
def BytesIn (w : World) (a : Option Addr) (cap : Nat) (l : List UInt8) : Prop := (a = none → l.length = 0 ∧ cap = 0) ∧ (l.length = 0 ∨ ∃ b o, a = some ⟨b, o, none⟩ ∧ CellsAt w b o l)
theorem own_of_row {B : Nat} {w : World} {g : Nat} {l : List UInt8} (hB : B ≤ g) (hl : l.length ≤ maxLen) (h : w.rowIs g 5 l.length (fun j => .int .u8 ((l.getD j 0).toNat : Nat))) : Own B w (.slice (some ⟨g, 0, none⟩) l.length l.length) l := by
  obtain ⟨c, hb, hn, hc⟩ := h
  refine ⟨by rw [length_byteCells]; omega, .inr ⟨g, l.length, c, rfl, hB, hb, Nat.le_refl _, hl, by omega, ?_⟩⟩
  apply List.ext_getElem?
  intro i
  rw [List.getElem?_take]
  by_cases hi : i < l.length
  · rw [if_pos (by omega), Array.getElem?_toList, hc i hi]
    simp [Lib.byteCells, hi]
  · rw [if_neg (by omega), List.getElem?_eq_none (by rw [length_byteCells]; omega)]

set_option maxRecDepth 100000 in
set_option maxHeartbeats 2000000 in
theorem clone_some (ad : Addr) (cap : Nat) (l : List UInt8) (w : World) (hl : l.length ≤ 1048576) (hs : CSrc w (some ad) l.length (fun j => .int .u8 ((l.getD j 0).toNat : Nat))) :
    Calls Try.prog 10 #[.slice (some ad) l.length cap] w fun e w' => ∃ v', e = .returned v' ∧ Own w.heap.size w' v' l ∧ w.grownBy w' none := by
  have hmk := run_make_row' 22 5 (.int .u8 0) 1 Try.underlying22 Try.info5 rfl .i64 .i64 l.length (by omega) (by omega)
  have hq := eql22
  have HS := hide hs
  clear hs
  go_enter Try.func10, Try.ntmps10
  go_wp2_with (with_reducible refine at_copy ?_; refine wpList_copy_full rfl _ _ 22 rfl 5 Try.underlying22 Try.one5 _ l.length _ _ rfl rfl 5 _ (fun j => .int .u8 ((l.getD j 0).toNat : Nat)) (World.rowIs_made _ _ _ _) (CSrc.kept HS.out (World.grownBy_alloc _ _ _)) (fun _ _ => rfl) ?_; intro w2 hrow2 hg2)
  go_ret
  exact ⟨_, rfl, own_of_row (Nat.le_refl _) (by unfold maxLen; omega) hrow2, grown_new (World.grownBy_alloc _ _ _) hg2 (Nat.le_refl _)⟩

set_option maxRecDepth 100000 in
theorem clone_nil (w : World) : Calls Try.prog 10 #[.slice none 0 0] w fun e w' => e = .returned (.slice none 0 0) ∧ w' = w := by
  have hq := eql22
  go_enter Try.func10, Try.ntmps10
  go_wp2
  go_ret
  exact ⟨rfl, rfl⟩

theorem clone_all (a : Option Addr) (cap : Nat) (l : List UInt8) (w : World) (hl : l.length ≤ 1048576) (hs : BytesIn w a cap l) :
    Calls Try.prog 10 #[.slice a l.length cap] w fun e w' => ∃ v', e = .returned v' ∧ Own w.heap.size w' v' l ∧ w.grownBy w' none := by
  obtain ⟨h1, h2⟩ := hs
  cases a with
  | none =>
    obtain ⟨h3, rfl⟩ := h1 rfl
    obtain rfl : l = [] := List.eq_nil_of_length_eq_zero h3
    exact (clone_nil w).mono fun e w' ⟨he, hw⟩ => ⟨_, he, by rw [hw]; exact World.ownsRow_nil _ _ _ _, by rw [hw]; exact grown_refl _⟩
  | some ad => exact clone_some ad cap l w hl h2

end Go.Proofs.Qxb6618992a.Ch
