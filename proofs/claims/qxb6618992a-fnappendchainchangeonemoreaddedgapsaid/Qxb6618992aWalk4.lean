/-
  The walk of FnAppendChainChangeOneMoreAddedGap.
-/
import Derived.Test.Qxb6618992aCall1
namespace Go.Proofs.Qxb6618992a.Ch
open Go.RowKit

theorem info42 : (Try.prog.info? 42).map (fun i => (i.zero, i.size, i.bytes)) = some (some (.agg #[.int .u64 0, .int .u64 0, .int .u64 0, .int .u64 0]), 4, 32) := by kernel_rfl

theorem grown_own {w w3 w4 : World} {b : Nat} (h : w.grownBy w3 none) (h' : w3.grownBy w4 (some b)) (hb : w.heap.size ≤ b) : w.grownBy w4 none :=
  ⟨h'.os.trans h.os, h'.tape.trans h.tape, h'.output.trans h.output, Nat.le_trans h.size h'.size, fun k hk _ => (h'.block k (Nat.lt_of_lt_of_le hk h.size) (by simp; omega)).trans (h.block k hk (by simp))⟩

theorem gap_new (w : World) (g : Gp) : ∀ ad, some (⟨w.heap.size, 0, none⟩ : Addr) = some ad → ∀ j u, (g4 g)[j]? = some u → (w.alloc (.cells #[.int .u64 g.1.1.1, .int .u64 g.1.1.2, .int .u64 g.1.2.1, .int .u64 g.1.2.2] 42)).cell? (ad.add j) = some u := by
  intro ad e j u hu
  cases e
  rw [Go.WideShapes.add_plain]
  match j, hu with
  | 0, hu => simp [g4] at hu ⊢; exact hu
  | 1, hu => simp [g4] at hu ⊢; exact hu
  | 2, hu => simp [g4] at hu ⊢; exact hu
  | 3, hu => simp [g4] at hu ⊢; exact hu
  | j + 4, hu => simp [g4] at hu

theorem tail_none {w : World} {a : Option Addr} {n c : Nat} {gs : Nat → Gp} (h : GapsIn w a n c gs) (k : Nat) : (if c = k then a else a.map (·.add (k * 4))) = none → n - k = 0 ∧ c - k = 0 := by
  intro e
  have ha : a = none := by
    split at e
    · exact e
    · simpa using e
  have := h.1 ha
  omega

theorem more_row {B : Nat} {w : World} {b n c k m : Nat} {gs : Nat → Gp} {g : Gp} (h : w.ownsRow B 42 4 (.slice (some ⟨b, 0, none⟩) n c) n (gcells gs k ++ g4 g ++ gcells (fun j => gs (k + j)) m)) (hn : n = k + 1 + m) :
    GapsIn w (some ⟨b, 0, none⟩) n c (ins gs k g) ∧ b < w.heap.size := by
  have hc := World.ownsRow.cells h (g := b) rfl
  refine ⟨⟨fun e => (by cases e), Or.inr ⟨b, 0, rfl, gapsAt_of ?_⟩⟩, ?_⟩
  · intro j u hu
    refine hc j u ?_
    rw [← gcells_ins, ← hn]
    exact hu
  · rcases h.2 with ⟨h1, _⟩ | ⟨b', c', cur, h1, _, h2, _⟩
    · cases h1
    · cases h1
      exact (Array.getElem?_eq_some_iff.1 h2).1

set_option maxRecDepth 100000 in
set_option maxHeartbeats 8000000 in
theorem one_walk (a0 : Option Addr) (c0 : Nat) (l : List UInt8) (name : ByteArray) (t : Np) (a3 : Option Addr) (n3 c3 : Nat) (rs : Nat → Gp) (a4 : Option Addr) (n4 c4 : Nat) (ags : Nat → Gp) (a5 : Option Addr) (n5 c5 : Nat) (ps : Nat → Np) (p : Int) (g : Gp) (w : World)
    (hI : Ins w a0 c0 l a3 n3 c3 rs a4 n4 c4 ags a5 n5 c5 ps) (h0 : l.length ≤ maxLen) (h1 : name.size ≤ maxLen) (h3 : n3 ≤ maxLen) (h4 : n4 ≤ maxLen) (h5 : n5 ≤ maxLen) (hc4 : n4 ≤ c4) :
    Calls Try.prog 4 #[.slice a0 l.length c0, .string name, .agg #[.int .u64 t.1.1, .int .u64 t.1.2], .slice a3 n3 c3, .slice a4 n4 c4, .slice a5 n5 c5, .int .i64 p, .agg #[.int .u64 g.1.1.1, .int .u64 g.1.1.2, .int .u64 g.1.2.1, .int .u64 g.1.2.2]] w fun e w' => e = .returned (.bool true) ∧ w.grownBy w' none := by
  have H5 := hide (bytes14_any a0 a3 a4 a5 l.length c0 n3 c3 n4 c4 n5 c5 name t.1.1 t.1.2 p g.1.1.1 g.1.1.2 g.1.2.1 g.1.2.2 ((w.alloc (.cells #[.int .u64 t.1.1, .int .u64 t.1.2] 25)).alloc (.cells #[.int .u64 g.1.1.1, .int .u64 g.1.1.2, .int .u64 g.1.2.1, .int .u64 g.1.2.2] 42)) h0 h1 h3 h4 h5)
  have HI := hide hI
  clear hI
  unfold maxLen at h0 h1 h3 h4 h5
  go_enter Try.func4, Try.ntmps4
  go_wp2_with fail
  refine H5.out.mono ?_
  rintro e w2 ⟨⟨r, rfl⟩, hg2⟩
  have hgw := ((World.grownBy_alloc w (.cells #[.int .u64 t.1.1, .int .u64 t.1.2] 25) none).trans (World.grownBy_alloc _ (.cells #[.int .u64 g.1.1.1, .int .u64 g.1.1.2, .int .u64 g.1.2.1, .int .u64 g.1.2.2] 42) none)).trans hg2
  have hx0 : w2.cell? ⟨w.heap.size, 0, none⟩ = some (.int .u64 t.1.1) := hg2.cell (by simp) (by simp)
  have hx1 : w2.cell? ⟨w.heap.size, 1, none⟩ = some (.int .u64 t.1.2) := hg2.cell (by simp) (by simp)
  have hy0 : w2.cell? ⟨w.heap.size + 1, 0, none⟩ = some (.int .u64 g.1.1.1) := hg2.cell (by simp) (by simp)
  have hy1 : w2.cell? ⟨w.heap.size + 1, 1, none⟩ = some (.int .u64 g.1.1.2) := hg2.cell (by simp) (by simp)
  have hy2 : w2.cell? ⟨w.heap.size + 1, 2, none⟩ = some (.int .u64 g.1.2.1) := hg2.cell (by simp) (by simp)
  have hy3 : w2.cell? ⟨w.heap.size + 1, 3, none⟩ = some (.int .u64 g.1.2.2) := hg2.cell (by simp) (by simp)
  have hlt : w.heap.size + 1 < w2.heap.size := by have := hg2.size; simp at this; omega
  clear H5 hg2
  cases r
  · go_wp2_with fail
    go_ret
    exact ⟨rfl, hgw⟩
  by_cases q0 : 65536 < l.length
  · go_wp2_with fail
    go_ret
    exact ⟨rfl, hgw⟩
  by_cases q1 : 65536 < name.size
  · go_wp2_with fail
    go_ret
    exact ⟨rfl, hgw⟩
  by_cases q3 : 4096 < n3
  · go_wp2_with fail
    go_ret
    exact ⟨rfl, hgw⟩
  by_cases q4 : 4096 < n4
  · go_wp2_with fail
    go_ret
    exact ⟨rfl, hgw⟩
  by_cases q5 : 4096 < n5
  · go_wp2_with fail
    go_ret
    exact ⟨rfl, hgw⟩
  by_cases q7 : p < 0
  · go_wp2_with fail
    go_ret
    exact ⟨rfl, hgw⟩
  by_cases q8 : (n4 : Int) < p
  · go_wp2_with fail
    go_ret
    exact ⟨rfl, hgw⟩
  obtain ⟨k, rfl⟩ : ∃ k : Nat, p = (k : Int) := ⟨p.toNat, by omega⟩
  have hk : k ≤ n4 := by omega
  clear q7 q8
  obtain ⟨i0, hi, hz0, hz1, hz2⟩ := info_parts info42
  have hI2 := HI.out.add.grown hgw
  have HN := hide hI2
  go_wp2_with (at_make; refine wpList_make_own _ rfl _ _ 26 rfl w2.heap.size 42 i0 _ 4 Try.underlying26 hi hz0 hz1 _ _ _ (n4 + 1) rfl rfl ?b1 ?b2 ?b3 ?b4 ?_)
  case b1 => omega
  case b2 => rw [hz2]; omega
  case b3 => unfold maxLen; omega
  case b4 => exact Nat.le_refl _
  intro w3 ho3 hg3
  go_wp2_with (at_builtin; refine wpList_append_fits_any _ rfl _ _ 26 rfl w2.heap.size 42 i0 4 Try.underlying26 hi hz1 _ _ _ _ rfl ho3 _ k c4 (gcells ags k) rfl (gcells_length _ _) ?c2 (head_cells (HN.out.grown hg3) k hk) (gcells_one _ _) ?c5 ?_)
  case c2 => intro e; have := HN.out.1 e; omega
  case c5 => omega
  intro w4 ho4 hg4
  have hg4' := grown_own hg3 hg4 (Nat.le_refl _)
  have hz0' := hg4'.cell hy0 (by simp)
  have hz1' := hg4'.cell hy1 (by simp)
  have hz2' := hg4'.cell hy2 (by simp)
  have hz3' := hg4'.cell hy3 (by simp)
  have hga := World.grownBy_alloc w4 (.cells #[.int .u64 g.1.1.1, .int .u64 g.1.1.2, .int .u64 g.1.2.1, .int .u64 g.1.2.2] 42) none
  go_wp2_with (at_builtin; refine wpList_append_fits_any _ rfl _ _ 26 rfl w2.heap.size 42 i0 4 Try.underlying26 hi hz1 _ _ _ _ rfl (ho4.alloc _) _ 1 1 (g4 g) rfl (g4_length g) ?d2 (gap_new _ g) (g4_one g) ?d5 ?_)
  case d2 => intro e; cases e
  case d5 => omega
  intro w5 ho5 hg5
  have hg5' := grown_own (hg4'.trans hga) hg5 (Nat.le_refl _)
  go_upto_region 20 with fail
  go_cut [17] (fun v wc => v = .slice (some ⟨w2.heap.size, 0, none⟩) (n4 + 1) (n4 + 1) ∧ Hid (GapsIn wc (some ⟨w2.heap.size, 0, none⟩) (n4 + 1) (n4 + 1) (ins ags k g) ∧ w2.heap.size < wc.heap.size ∧ w2.grownBy wc none))
  case first =>
    have hn : k + 1 + (n4 - k) = n4 + 1 := by omega
    go_wp2_with (at_builtin; refine wpList_append_fits_any _ rfl _ _ 26 rfl w2.heap.size 42 i0 4 Try.underlying26 hi hz1 _ _ _ _ rfl ho5 _ (n4 - k) (c4 - k) (gcells (fun j => ags (k + j)) (n4 - k)) rfl (gcells_length _ _) (tail_none HN.out k) (tail_cells (HN.out.grown hg5') hc4 k hk) (gcells_one _ _) (by omega) ?_; intro w6 ho6 hg6)
    all_goals
      go_wp2_with fail
      try (have hck : c4 = k := by assumption
           subst hck)
      go_meet
      obtain ⟨m1, m2⟩ := more_row ho6 rfl
      rw [hn] at m1
      exact ⟨rfl, m1, m2, grown_own hg5' hg6 (Nat.le_refl _)⟩
  case rest =>
  obtain ⟨rfl, HM⟩ := hcut
  have hgwc := hgw.trans HM.out.2.2
  have hx0 := HM.out.2.2.cell hx0 (by simp)
  have hx1 := HM.out.2.2.cell hx1 (by simp)
  have hy0 := HM.out.2.2.cell hy0 (by simp)
  have hy1 := HM.out.2.2.cell hy1 (by simp)
  have hy2 := HM.out.2.2.cell hy2 (by simp)
  have hy3 := HM.out.2.2.cell hy3 (by simp)
  have hltc : w.heap.size + 1 < wc.heap.size := by have := HM.out.2.2.size; omega
  clear ho3 hg3 ho4 hg4 hg4' hz0' hz1' hz2' hz3' hga ho5 hg5 hg5' hI2 HN hi hz0 hz1 hz2 hgw hlt
  go_wp2_with fail
  refine (toGaps_all a3 n3 c3 rs w.heap.size _ (by omega) (HI.out.rem.grown hgwc) (by omega)).mono ?_
  rintro e w3 ⟨ra, rc, rb, rfl, hR, hRl, hRs, hg3⟩
  have hgw3 := hgwc.trans hg3
  have hs3 := hg3.size
  go_wp2_with fail
  refine (toNums_all a5 n5 c5 ps w.heap.size _ (by omega) (HI.out.pas.grown hgw3) (by omega)).mono ?_
  rintro e w5 ⟨pa, pc, pb, rfl, hP, hPl, hPs, hg5⟩
  have hgw5 := hgw3.trans hg5
  have hgc5 := hg3.trans hg5
  have hR := hR.grown hg5
  have hx0 := hgc5.cell hx0 (by simp)
  have hx1 := hgc5.cell hx1 (by simp)
  have hs5 := hg5.size
  go_upto_region 23 with fail
  go_cut [20] (fun v wx => v = .pointer (some ⟨w5.heap.size, 0, none⟩) ∧ wx = w5.alloc (.cells #[.int .u64 t.1.1, .int .u64 t.1.2] 33))
  case first =>
    go_wp2_with fail
    go_meet
    exact ⟨rfl, rfl⟩
  case rest =>
  obtain ⟨rfl, hW6⟩ := hcut
  have hg6 : w5.grownBy wc none := by rw [hW6]; exact World.grownBy_alloc _ _ _
  have hgw6 := hgw5.trans hg6
  have hgc6 := hgc5.trans hg6
  have hs6 := hg6.size
  have hs36 := (hg5.trans hg6).size
  have hsc := hgc6.size
  have hMid : Mid w wc a0 c0 l name t n3 rs a4 n4 c4 ags n5 ps k g ra rb pa pb w5.heap.size w2.heap.size :=
    ⟨hgw6, HI.out.buf.grown hgw6, HI.out.add.grown hgw6, HM.out.1.grown hgc6, hgc6.cell hy0 (by simp), hgc6.cell hy1 (by simp), hgc6.cell hy2 (by simp), hgc6.cell hy3 (by simp), by omega, hR.grown hg6, by omega, hP.grown hg6, by omega,
      by rw [hW6]; simp, by rw [hW6]; simp, by omega, by omega, by omega, by omega, by omega, hk⟩
  have hK := ‹∀ (a : Act) (w : World), Code.wp Try.prog _ _ a w → _›
  refine hK _ _ ?_
  exact left24 w wc a0 c0 l name t n3 rs a4 n4 c4 ags n5 ps k g ra rb pa pb w5.heap.size w2.heap.size a3 c3 a5 c5 rc pc hMid _ _ _ _ _ _ _ _ _ _ _ _ _ _ _ _ _ _ _ _ _ _ _ _ _ _ _ _ _ _ _ _ _ _ _ _ _ _ _ _ _ _ _ _ _ _ _ _ _ _ _ _ _ _ _ _ _ _ _ _ _ _ _ _ _ _ _ _ _ _ _ _ _ _ _ _ _ _ _ _ _ _ _ _ _ _ _ _ _ _ _ _ _ _ _ _ _ _ _ _ _ _ _ _ _ _ _ _ _ _ _ _ _ _ _ _ _ _ _ _ _ _ _ _ _ _ _ _ _ _ _ _ _ _ _ _ _ _ _ _ _ _ _ _ _ _ _ _ _ _ _ _ _ _ _ _ _ _ _ _ _ _ _ _ _ _ _ _ _ _ _ _ _ _ _ _ _ _ _ _ _ _ _ _ _ _ _ _ _ _ _ _ _ _ _ _ _ _ _ _ _ _ _ _ _ _ _ _ _ _ _ _ _ _ _ _ _ _ _ _ _ _ _ _ _ _ _ _ _

end Go.Proofs.Qxb6618992a.Ch
