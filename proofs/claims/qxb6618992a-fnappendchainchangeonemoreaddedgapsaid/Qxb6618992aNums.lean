/-
  appendChainNumbers.
-/
import Derived.Test.Qxb6618992aPlain
import Derived.Test.Qxb6618992aBytes
namespace Go.Proofs.Qxb6618992a.Ch
open Go.RowKit

theorem hide {p : Prop} (h : p) : Hid p := h

theorem Own.not_new {B : Nat} {w : World} {v : Value} {l : List UInt8} (h : Own B w v l) : some w.heap.size ≠ v.ownBlock := by
  intro e
  have := (World.ownsRow.lt h w.heap.size e.symm).2
  omega
theorem Own.from {B : Nat} {w : World} {v : Value} {l : List UInt8} (h : Own B w v l) {g : Nat} (e : v.ownBlock = some g) : B ≤ g ∧ g < w.heap.size := World.ownsRow.lt h g e

/-- m chain numbers lie at ⟨b, o⟩, two cells each. -/
def NumsAt (w : World) (b o m : Nat) (ps : Nat → Nat × Nat) : Prop :=
  ∀ j, j < m → w.cell? ⟨b, o + j * 2, none⟩ = some (.int .u64 (ps j).1) ∧ w.cell? ⟨b, o + j * 2 + 1, none⟩ = some (.int .u64 (ps j).2) ∧ (ps j).1 < 18446744073709551616 ∧ (ps j).2 < 18446744073709551616

set_option maxRecDepth 100000 in
set_option maxHeartbeats 1000000 in
theorem nums_any (B : Nat) (sv : Value) (l : List UInt8) (b o m c : Nat) (ps : Nat → Nat × Nat) (w : World) (hown : Own B w sv l) (hBw : B ≤ w.heap.size) (hm : m ≤ 65536) (hlim : l.length ≤ 536870912) (hn : NumsAt w b o m ps) (hne : some b ≠ sv.ownBlock) :
    Calls Try.prog 18 #[sv, .slice (some ⟨b, o, none⟩) m c] w fun e w' => ∃ v', e = .returned v' ∧ Own B w' v' (l ++ encNums ps m) ∧ Step w sv w' v' := by
  have HN := hide hn
  clear hn
  go_enter Try.func18, Try.ntmps18
  go_wp2
  go_loopw [0, 9] (fun v iv wr => ∃ k : Nat, k ≤ m ∧ iv = .int .i64 k ∧ Own B wr v (l ++ encNums ps k) ∧ Step w sv wr v) (fun _ iv _ => m - (intOf iv).toNat)
  case atStart => exact ⟨0, Nat.zero_le _, rfl, by simpa [encNums] using hown, Step.refl _ _⟩
  case round =>
    clear hown
    obtain ⟨k, hk, rfl, hown, hst⟩ := hrel
    by_cases hlt : k < m
    · obtain ⟨h1, h2, h3, h4⟩ := HN.out k hlt
      have hc1 := hst.cell h1 hne
      have hc2 := hst.cell h2 hne
      clear h1 h2
      go_wp2_with fail
      have hl1 : (l ++ encNums ps k).length ≤ 536870912 + 16 * k := by rw [List.length_append, encNums_length]; omega
      refine (appendU64 B _ h3 _ _ _ (hown.alloc _) (by have := hst.grown.size; simp; omega) (by omega)).mono ?_
      rintro e w2 ⟨v2, rfl, hown2, hst2⟩
      have hnb : some wr.heap.size ≠ u0.ownBlock := hown.not_new
      have hc3 : w2.cell? ⟨wr.heap.size, 1, none⟩ = some (.int .u64 (ps k).2) := hst2.cell (by simp) hnb
      have hs2 := hst2.grown.size
      clear hc1 hc2 hown
      go_wp2_with fail
      refine (appendU64 B _ h4 _ _ _ hown2 (by have := hst.grown.size; simp at hs2; omega) (by rw [List.length_append, Lib.beBytes_length]; omega)).mono ?_
      rintro e w3 ⟨v3, rfl, hown3, hst3⟩
      clear hown2 hc3 hs2
      go_wp2_with fail
      go_roundw
      case rel =>
        refine ⟨k + 1, by omega, by go_num, ?_, hst.trans ((Step.alloc _ _ _).trans (hst2.trans hst3))⟩
        have e : l ++ encNums ps (k + 1) = l ++ encNums ps k ++ Lib.beBytes 8 (ps k).1 ++ Lib.beBytes 8 (ps k).2 := by simp [encNums, encNum, be8]
        rw [e]
        exact hown3
      case measure => simp [intOf]; omega
    · have hkm : m = k := by omega
      subst hkm
      go_wp2_with fail
      go_ret
      exact ⟨_, rfl, hown, hst⟩

set_option maxRecDepth 100000 in
set_option maxHeartbeats 1000000 in
theorem nums_none (B : Nat) (sv : Value) (l : List UInt8) (a : Option Addr) (c : Nat) (w : World) (hown : Own B w sv l) :
    Calls Try.prog 18 #[sv, .slice a 0 c] w fun e w' => ∃ v', e = .returned v' ∧ Own B w' v' l ∧ Step w sv w' v' := by
  go_enter Try.func18, Try.ntmps18
  go_wp2
  refine wp_loop_rounds 1 ?_
  rw [rounds_succ]
  go_wp2
  go_ret
  exact ⟨_, rfl, hown, Step.refl _ _⟩

end Go.Proofs.Qxb6618992a.Ch
