/-
  ZZcheckEntries.
-/
import Derived.Test.Qxb6616790aDoorCheck
namespace Go.Proofs.Qxb6616790aDoor.Ce
open Go.RowKit

theorem Tryd.info20 : (Tryd.prog.info? 20).map (fun i => (i.zero, i.size, i.bytes)) = some (some .nilIface, 1, 16) := by kernel_rfl
/-- the row of interfaces while the first k are there. -/
def vrow (ss : List ByteArray) (k i : Nat) : Value := if i < k then .iface 9 (.string (ss.getD i ByteArray.empty)) else .nilIface
theorem vrow_step (ss : List ByteArray) (k i : Nat) : (if i = k then Value.iface 9 (.string (ss.getD k ByteArray.empty)) else vrow ss k i) = vrow ss (k + 1) i := by
  unfold vrow
  by_cases h : i = k
  · subst h; simp
  · by_cases h2 : i < k
    · rw [if_neg h, if_pos h2, if_pos (by omega)]
    · rw [if_neg h, if_neg h2, if_neg (by omega)]
theorem grown_setCell {w wr : World} {g i : Nat} (h : w.grownBy wr none) (hB : w.heap.size ≤ g) (v : Value) : w.grownBy (wr.setCell ⟨g, i, none⟩ v) none :=
  ⟨h.os, h.tape, h.output, by simpa [World.setCell] using h.size, fun j hj _ => (Below.heap_setCell _ _ _ _ (by show j ≠ g; omega)).trans (h.block j hj (by simp))⟩

theorem methErr (q : Addr) (w : World) : (method 173 38 (.pointer (some q)) "Error").run Tryd.prog w = .ok (34, .pointer (some q)) w := by kernel_rfl

set_option maxRecDepth 100000 in
theorem err_any (p : Addr) (s : ByteArray) (w : World) (h : w.cell? p = some (.string s)) : Calls Tryd.prog 34 #[.pointer (some p)] w fun e w' => e = .returned (.string s) ∧ w' = w := by
  go_enter Tryd.func34, Tryd.ntmps34
  go_wp2
  go_ret
  exact ⟨rfl, rfl⟩

set_option maxRecDepth 100000 in
set_option maxHeartbeats 2000000 in
theorem entries_any (a : Option Addr) (c : Nat) (p : Addr) (ss : List ByteArray) (w : World) (hl : ss.length ≤ 131072) (hS : Szs ss 1048576) (hA : Strs w a ss) (hM : Miss w p) :
    Calls Tryd.prog 6 #[.slice a ss.length c] w fun e w' => e = .returned (.tuple #[.bool (failOf ss), .string (textOf ss)]) ∧ w.grownBy w' none := by
  have HA := hide hA
  have HS := hide hS
  have HM := hide hM
  clear hA hS hM
  obtain ⟨n, hn⟩ : ∃ n, n = ss.length := ⟨_, rfl⟩
  have HN := hide hn
  rw [← hn]
  rw [← hn] at hl
  clear hn
  have hmk := run_make_row' 28 20 .nilIface 16 Tryd.underlying28 Tryd.info20 rfl .i64 .i64 n (by omega) (by omega)
  go_enter Tryd.func6, Tryd.ntmps6
  go_wp2_with fail
  go_loopw [5] (fun iv wr => ∃ k : Nat, k ≤ n ∧ iv = .int .i64 k ∧ wr.rowIs w.heap.size 20 n (vrow ss k) ∧ w.grownBy wr none) (fun iv _ => n - (intOf iv).toNat)
  case atStart => exact ⟨0, Nat.zero_le _, rfl, (World.rowIs_made _ _ _ _).congr (fun i _ => by simp [vrow]), World.grownBy_alloc _ _ _⟩
  case round =>
    obtain ⟨k, hk', rfl, hrow, hgr⟩ := hrel
    by_cases hlt : k < n
    · obtain ⟨b, o, rfl, hc⟩ := HA.out.resolve_left (by have := HN.out; omega)
      have hcs := hgr.cell (hc k (by have := HN.out; omega)) (by simp)
      have hcn := hrow.cell hlt
      have hfn := hrow.frozen k
      clear hc
      go_wp2
      go_roundw
      case rel =>
        exact ⟨k + 1, by omega, by go_num, (hrow.set k _).congr (fun j _ => vrow_step ss k j), grown_setCell hgr (Nat.le_refl _) _⟩
      case measure => simp [intOf]; omega
    · have hkn : k = n := by omega
      subst hkn
      have hAn : Anys wr (some ⟨w.heap.size, 0, none⟩) ss := Or.inr ⟨_, _, rfl, fun j hj => by
        have := hrow.cell (i := j) (by have := HN.out; omega)
        rw [Nat.zero_add, this]
        simp [vrow]
        have := HN.out
        omega⟩
      have h8 := check_any (some ⟨w.heap.size, 0, none⟩) k p ss wr (by have := HN.out; omega) HS.out hAn (HM.out.kept hgr)
      rw [← HN.out] at h8
      have H8 := hide h8
      have HG := hide hgr
      clear h8 hAn hrow hgr
      go_wp2_with fail
      refine H8.out.mono ?_
      rintro e w1 ⟨⟨v, rfl, hv⟩, hg1⟩
      have HG1 := hide (HG.out.trans hg1)
      rcases hv with ⟨hf, rfl, ht⟩ | ⟨hf, q, rfl, hq⟩
      · have HF := hide (show failOf ss = false ∧ textOf ss = ⟨#[]⟩ from ⟨hf, ht⟩)
        clear hf ht
        go_wp2_with fail
        go_ret2
        exact ⟨by rw [HF.out.1, HF.out.2]; rfl, HG1.out⟩
      · have HF := hide hf
        clear hf
        have HE := hide (err_any q _ w1 hq)
        have hme := methErr
        clear hq
        go_wp2_with fail
        refine HE.out.mono ?_
        rintro e w2 ⟨rfl, rfl⟩
        go_wp2_with fail
        go_ret2
        exact ⟨by rw [HF.out]; rfl, HG1.out⟩
end Go.Proofs.Qxb6616790aDoor.Ce
