/-
  The walk of FnAppendChainChangeOneMoreAddedGap.
-/
import Derived.Test.Qxb6618992aLaw3
import Derived.Test.Qxb6618992aMore
import Derived.Test.Qxb6618992aOuts
import Derived.Test.Qxb6618992aTails
import Derived.OwnWalk
namespace Go.Proofs.Qxb6618992a.Ch
open Go.RowKit

theorem info42 : (Try.prog.info? 42).map (fun i => (i.zero, i.size, i.bytes)) = some (some (.agg #[.int .u64 0, .int .u64 0, .int .u64 0, .int .u64 0]), 4, 32) := by kernel_rfl

theorem grown_own {w w3 w4 : World} {b : Nat} (h : w.grownBy w3 none) (h' : w3.grownBy w4 (some b)) (hb : w.heap.size ≤ b) : w.grownBy w4 none :=
  ⟨h'.os.trans h.os, h'.tape.trans h.tape, h'.output.trans h.output, Nat.le_trans h.size h'.size, fun k hk _ => (h'.block k (Nat.lt_of_lt_of_le hk h.size) (by simp; omega)).trans (h.block k hk (by simp))⟩

theorem gap_new (w : World) (g : Gp) : ∀ ad, some (⟨w.heap.size, 0, none⟩ : Addr) = some ad → ∀ j u, (g4 g)[j]? = some u → (w.alloc (.cells #[.int .u64 g.1.1.1, .int .u64 g.1.1.2, .int .u64 g.1.2.1, .int .u64 g.1.2.2] 42)).cell? (ad.add j) = some u := by
  intro ad e j u hu
  cases e
  rw [Go.WideShapes.add_plain]
  match j, hu with
  | 0, hu => simp [g4] at hu ⊢; exact hu
  | 1, hu => simp [g4] at hu ⊢; exact hu
  | 2, hu => simp [g4] at hu ⊢; exact hu
  | 3, hu => simp [g4] at hu ⊢; exact hu
  | j + 4, hu => simp [g4] at hu

theorem tail_none {w : World} {a : Option Addr} {n c : Nat} {gs : Nat → Gp} (h : GapsIn w a n c gs) (k : Nat) : (if c = k then a else a.map (·.add (k * 4))) = none → n - k = 0 ∧ c - k = 0 := by
  intro e
  have ha : a = none := by
    split at e
    · exact e
    · simpa using e
  have := h.1 ha
  omega

theorem more_row {B : Nat} {w : World} {b n c k m : Nat} {gs : Nat → Gp} {g : Gp} (h : w.ownsRow B 42 4 (.slice (some ⟨b, 0, none⟩) n c) n (gcells gs k ++ g4 g ++ gcells (fun j => gs (k + j)) m)) (hn : n = k + 1 + m) :
    GapsIn w (some ⟨b, 0, none⟩) n c (ins gs k g) ∧ b < w.heap.size := by
  have hc := World.ownsRow.cells h (g := b) rfl
  refine ⟨⟨fun e => (by cases e), Or.inr ⟨b, 0, rfl, gapsAt_of ?_⟩⟩, ?_⟩
  · intro j u hu
    refine hc j u ?_
    rw [← gcells_ins, ← hn]
    exact hu
  · rcases h.2 with ⟨h1, _⟩ | ⟨b', c', cur, h1, _, h2, _⟩
    · cases h1
    · cases h1
      exact (Array.getElem?_eq_some_iff.1 h2).1

/-- both outputs, cut at the places that the law looks at. -/
theorem change_split (l : List UInt8) (name : ByteArray) (t : Np) (rs : Nat → Gp) (n3 : Nat) (ags : Nat → Gp) (n4 : Nat) (ps : Nat → Np) (n5 k : Nat) (g : Gp) (hk : k ≤ n4) :
    ∃ A G D : List UInt8, A.length = l.length + 4 + name.size + 16 + 4 + 32 * n3 ∧ G.length = 32 * k ∧ D.length = 32 * (n4 - k) + 4 + 16 * n5 ∧
      l ++ encChange name.data.toList t.1 (fun j => (rs j).1) n3 (fun j => (ags j).1) n4 (fun j => (ps j).1) n5 = A ++ (le4 n4 ++ (G ++ D)) ∧
      l ++ encChange name.data.toList t.1 (fun j => (rs j).1) n3 (fun j => (ins ags k g j).1) (n4 + 1) (fun j => (ps j).1) n5 = A ++ (le4 (n4 + 1) ++ (G ++ (be8 g.1.1.1 ++ (be8 g.1.1.2 ++ (be8 g.1.2.1 ++ (be8 g.1.2.2 ++ D)))))) := by
  have hnl : name.data.toList.length = name.size := by rw [Array.length_toList]; rfl
  refine ⟨l ++ (le4 name.data.toList.length ++ (name.data.toList ++ (encNum t.1 ++ encList (fun j => (rs j).1) n3))), encGaps (fun j => (ags j).1) k, encGaps (fun j => (ags (k + j)).1) (n4 - k) ++ (le4 n5 ++ encNums (fun j => (ps j).1) n5), ?_, encGaps_length _ _, ?_, ?_, ?_⟩
  · simp only [List.length_append, le4_length, encNum_length, encList_length, hnl]; omega
  · simp only [List.length_append, le4_length, encGaps_length, encNums_length]; omega
  · have e : encGaps (fun j => (ags j).1) n4 = encGaps (fun j => (ags j).1) k ++ encGaps (fun j => (ags (k + j)).1) (n4 - k) := by
      rw [← encGaps_add, show k + (n4 - k) = n4 by omega]
    simp only [encChange, encList, e, List.append_assoc]
  · have e := encGaps_ins ags k (n4 - k) g
    rw [show k + 1 + (n4 - k) = n4 + 1 by omega] at e
    simp only [encChange, encList, e, encGap, encNum, List.append_assoc]

theorem sep_of {B d ab : Nat} {w7 w8 : World} {sv : Value} {l : List UInt8} (ho : Own B w7 sv l) (hd : d < B) (h : ab = d ∨ w7.heap.size ≤ ab) (hlt : ab < w8.heap.size) : Sep w8 sv ab :=
  ⟨hlt, fun e => by have := ho.from e.symm; omega⟩
theorem Own.grown {B : Nat} {w w' : World} {v : Value} {l : List UInt8} (h : Own B w v l) (hg : w.grownBy w' none) : Own B w' v l :=
  World.ownsRow.kept h hg (by cases v.ownBlock <;> simp)

set_option maxRecDepth 100000 in
set_option maxHeartbeats 8000000 in
theorem one_walk (a0 : Option Addr) (c0 : Nat) (l : List UInt8) (name : ByteArray) (t : Np) (a3 : Option Addr) (n3 c3 : Nat) (rs : Nat → Gp) (a4 : Option Addr) (n4 c4 : Nat) (ags : Nat → Gp) (a5 : Option Addr) (n5 c5 : Nat) (ps : Nat → Np) (p : Int) (g : Gp) (w : World)
    (hI : Ins w a0 c0 l a3 n3 c3 rs a4 n4 c4 ags a5 n5 c5 ps) (h0 : l.length ≤ maxLen) (h1 : name.size ≤ maxLen) (h3 : n3 ≤ maxLen) (h4 : n4 ≤ maxLen) (h5 : n5 ≤ maxLen) (hc4 : n4 ≤ c4) :
    Calls Try.prog 4 #[.slice a0 l.length c0, .string name, .agg #[.int .u64 t.1.1, .int .u64 t.1.2], .slice a3 n3 c3, .slice a4 n4 c4, .slice a5 n5 c5, .int .i64 p, .agg #[.int .u64 g.1.1.1, .int .u64 g.1.1.2, .int .u64 g.1.2.1, .int .u64 g.1.2.2]] w fun e w' => e = .returned (.bool true) ∧ w.grownBy w' none := by
  have H5 := hide (bytes14_any a0 a3 a4 a5 l.length c0 n3 c3 n4 c4 n5 c5 name t.1.1 t.1.2 p g.1.1.1 g.1.1.2 g.1.2.1 g.1.2.2 ((w.alloc (.cells #[.int .u64 t.1.1, .int .u64 t.1.2] 25)).alloc (.cells #[.int .u64 g.1.1.1, .int .u64 g.1.1.2, .int .u64 g.1.2.1, .int .u64 g.1.2.2] 42)) h0 h1 h3 h4 h5)
  have HI := hide hI
  clear hI
  unfold maxLen at h0 h1 h3 h4 h5
  go_enter Try.func4, Try.ntmps4
  go_wp2_with fail
  refine H5.out.mono ?_
  rintro e w2 ⟨⟨r, rfl⟩, hg2⟩
  have hgw := ((World.grownBy_alloc w (.cells #[.int .u64 t.1.1, .int .u64 t.1.2] 25) none).trans (World.grownBy_alloc _ (.cells #[.int .u64 g.1.1.1, .int .u64 g.1.1.2, .int .u64 g.1.2.1, .int .u64 g.1.2.2] 42) none)).trans hg2
  have hx0 : w2.cell? ⟨w.heap.size, 0, none⟩ = some (.int .u64 t.1.1) := hg2.cell (by simp) (by simp)
  have hx1 : w2.cell? ⟨w.heap.size, 1, none⟩ = some (.int .u64 t.1.2) := hg2.cell (by simp) (by simp)
  have hy0 : w2.cell? ⟨w.heap.size + 1, 0, none⟩ = some (.int .u64 g.1.1.1) := hg2.cell (by simp) (by simp)
  have hy1 : w2.cell? ⟨w.heap.size + 1, 1, none⟩ = some (.int .u64 g.1.1.2) := hg2.cell (by simp) (by simp)
  have hy2 : w2.cell? ⟨w.heap.size + 1, 2, none⟩ = some (.int .u64 g.1.2.1) := hg2.cell (by simp) (by simp)
  have hy3 : w2.cell? ⟨w.heap.size + 1, 3, none⟩ = some (.int .u64 g.1.2.2) := hg2.cell (by simp) (by simp)
  have hlt : w.heap.size + 1 < w2.heap.size := by have := hg2.size; simp at this; omega
  clear H5 hg2
  cases r
  · go_wp2_with fail
    go_ret
    exact ⟨rfl, hgw⟩
  by_cases q0 : 65536 < l.length
  · go_wp2_with fail
    go_ret
    exact ⟨rfl, hgw⟩
  by_cases q1 : 65536 < name.size
  · go_wp2_with fail
    go_ret
    exact ⟨rfl, hgw⟩
  by_cases q3 : 4096 < n3
  · go_wp2_with fail
    go_ret
    exact ⟨rfl, hgw⟩
  by_cases q4 : 4096 < n4
  · go_wp2_with fail
    go_ret
    exact ⟨rfl, hgw⟩
  by_cases q5 : 4096 < n5
  · go_wp2_with fail
    go_ret
    exact ⟨rfl, hgw⟩
  by_cases q7 : p < 0
  · go_wp2_with fail
    go_ret
    exact ⟨rfl, hgw⟩
  by_cases q8 : (n4 : Int) < p
  · go_wp2_with fail
    go_ret
    exact ⟨rfl, hgw⟩
  obtain ⟨k, rfl⟩ : ∃ k : Nat, p = (k : Int) := ⟨p.toNat, by omega⟩
  have hk : k ≤ n4 := by omega
  clear q7 q8
  obtain ⟨i0, hi, hz0, hz1, hz2⟩ := info_parts info42
  have hI2 := HI.out.add.grown hgw
  have HN := hide hI2
  go_wp2_with (at_make; refine wpList_make_own _ rfl _ _ 26 rfl w2.heap.size 42 i0 _ 4 Try.underlying26 hi hz0 hz1 _ _ _ (n4 + 1) rfl rfl ?b1 ?b2 ?b3 ?b4 ?_)
  case b1 => omega
  case b2 => rw [hz2]; omega
  case b3 => unfold maxLen; omega
  case b4 => exact Nat.le_refl _
  intro w3 ho3 hg3
  go_wp2_with (at_builtin; refine wpList_append_fits_any _ rfl _ _ 26 rfl w2.heap.size 42 i0 4 Try.underlying26 hi hz1 _ _ _ _ rfl ho3 _ k c4 (gcells ags k) rfl (gcells_length _ _) ?c2 (head_cells (HN.out.grown hg3) k hk) (gcells_one _ _) ?c5 ?_)
  case c2 => intro e; have := HN.out.1 e; omega
  case c5 => omega
  intro w4 ho4 hg4
  have hg4' := grown_own hg3 hg4 (Nat.le_refl _)
  have hz0' := hg4'.cell hy0 (by simp)
  have hz1' := hg4'.cell hy1 (by simp)
  have hz2' := hg4'.cell hy2 (by simp)
  have hz3' := hg4'.cell hy3 (by simp)
  have hga := World.grownBy_alloc w4 (.cells #[.int .u64 g.1.1.1, .int .u64 g.1.1.2, .int .u64 g.1.2.1, .int .u64 g.1.2.2] 42) none
  go_wp2_with (at_builtin; refine wpList_append_fits_any _ rfl _ _ 26 rfl w2.heap.size 42 i0 4 Try.underlying26 hi hz1 _ _ _ _ rfl (ho4.alloc _) _ 1 1 (g4 g) rfl (g4_length g) ?d2 (gap_new _ g) (g4_one g) ?d5 ?_)
  case d2 => intro e; cases e
  case d5 => omega
  intro w5 ho5 hg5
  have hg5' := grown_own (hg4'.trans hga) hg5 (Nat.le_refl _)
  go_upto_region 20 with fail
  go_cut [17] (fun v wc => v = .slice (some ⟨w2.heap.size, 0, none⟩) (n4 + 1) (n4 + 1) ∧ Hid (GapsIn wc (some ⟨w2.heap.size, 0, none⟩) (n4 + 1) (n4 + 1) (ins ags k g) ∧ w2.heap.size < wc.heap.size ∧ w2.grownBy wc none))
  case first => as_aux_lemma =>
    have hn : k + 1 + (n4 - k) = n4 + 1 := by omega
    go_wp2_with (at_builtin; refine wpList_append_fits_any _ rfl _ _ 26 rfl w2.heap.size 42 i0 4 Try.underlying26 hi hz1 _ _ _ _ rfl ho5 _ (n4 - k) (c4 - k) (gcells (fun j => ags (k + j)) (n4 - k)) rfl (gcells_length _ _) (tail_none HN.out k) (tail_cells (HN.out.grown hg5') hc4 k hk) (gcells_one _ _) (by omega) ?_; intro w6 ho6 hg6)
    all_goals
      go_wp2_with fail
      try (have hck : c4 = k := by assumption
           subst hck)
      go_meet
      obtain ⟨m1, m2⟩ := more_row ho6 rfl
      rw [hn] at m1
      exact ⟨rfl, m1, m2, grown_own hg5' hg6 (Nat.le_refl _)⟩
  case rest => as_aux_lemma =>
  obtain ⟨rfl, HM⟩ := hcut
  have hgwc := hgw.trans HM.out.2.2
  have hx0 := HM.out.2.2.cell hx0 (by simp)
  have hx1 := HM.out.2.2.cell hx1 (by simp)
  have hy0 := HM.out.2.2.cell hy0 (by simp)
  have hy1 := HM.out.2.2.cell hy1 (by simp)
  have hy2 := HM.out.2.2.cell hy2 (by simp)
  have hy3 := HM.out.2.2.cell hy3 (by simp)
  have hltc : w.heap.size + 1 < wc.heap.size := by have := HM.out.2.2.size; omega
  clear ho3 hg3 ho4 hg4 hg4' hz0' hz1' hz2' hz3' hga ho5 hg5 hg5' hI2 HN hi hz0 hz1 hz2 hgw hlt
  go_wp2_with fail
  refine (toGaps_all a3 n3 c3 rs w.heap.size _ (by omega) (HI.out.rem.grown hgwc) (by omega)).mono ?_
  rintro e w3 ⟨ra, rc, rb, rfl, hR, hRl, hRs, hg3⟩
  have hgw3 := hgwc.trans hg3
  have hs3 := hg3.size
  go_wp2_with fail
  refine (toNums_all a5 n5 c5 ps w.heap.size _ (by omega) (HI.out.pas.grown hgw3) (by omega)).mono ?_
  rintro e w5 ⟨pa, pc, pb, rfl, hP, hPl, hPs, hg5⟩
  have hgw5 := hgw3.trans hg5
  have hgc5 := hg3.trans hg5
  have hR := hR.grown hg5
  have hx0 := hgc5.cell hx0 (by simp)
  have hx1 := hgc5.cell hx1 (by simp)
  have hs5 := hg5.size
  go_upto_region 24 with fail
  obtain ⟨W6, hW6⟩ : ∃ W6, w5.alloc (.cells #[.int .u64 t.1.1, .int .u64 t.1.2] 33) = W6 := ⟨_, rfl⟩
  have hg6 : w5.grownBy W6 none := by rw [← hW6]; exact World.grownBy_alloc _ _ _
  have hgw6 := hgw5.trans hg6
  have hgc6 := hgc5.trans hg6
  have hsc := hgc6.size
  have hR := hR.grown hg6
  have hP := hP.grown hg6
  have hq0 : W6.cell? ⟨w5.heap.size, 0, none⟩ = some (.int .u64 t.1.1) := by rw [← hW6]; simp
  have hq1 : W6.cell? ⟨w5.heap.size, 1, none⟩ = some (.int .u64 t.1.2) := by rw [← hW6]; simp
  have hs6 : W6.heap.size = w5.heap.size + 1 := by rw [← hW6]; simp
  rw [hW6]
  clear hW6
  have HZ : Hid (∀ (Wb w7 w8 : World) (sv : Value) (aa : Option Addr) (m ac ab : Nat) (gs : Nat → Gp), W6.grownBy Wb none → Wb.grownBy w7 none → Own Wb.heap.size w7 sv l → w7.grownBy w8 none → Gaps w8 aa m ab gs → (ab = w.heap.size ∨ w7.heap.size ≤ ab) → ab < w8.heap.size → m ≤ 65536 →
      Calls Try.prog 9 #[sv, .string name, .agg #[.int .u64 t.1.1, .int .u64 t.1.2], .slice ra n3 rc, .slice aa m ac, .slice pa n5 pc] w8 fun e w' => ∃ v', e = .returned v' ∧ Own Wb.heap.size w' v' (l ++ encChange name.data.toList t.1 (fun j => (rs j).1) n3 (fun j => (gs j).1) m (fun j => (ps j).1) n5) ∧ Wb.grownBy w' none) := by
    intro Wb w7 w8 sv aa m ac ab gs hb6 hb7 ho7 hg8 hA hAl hAs hm
    have hz6 := hb6.size
    have hz7 := hb7.size
    have hz8 := hg8.size
    have hb8 := hb7.trans hg8
    have ho8 := ho7.grown hg8
    have hsep : ∀ b, b < Wb.heap.size → Sep w8 sv b := fun b hb => ⟨by omega, fun e => by have := (ho8.from e.symm).1; omega⟩
    have hg68 := hb6.trans hb8
    refine (zz_any Wb.heap.size sv l name t.1 ra n3 rc rb rs aa m ac ab gs pa n5 pc pb (fun j => (ps j).1) w8 ho8 (by omega) (by omega) (by omega) (by omega) (by omega) (by omega) t.2.1 t.2.2
      (hR.grown hg68) (hsep rb (by omega)) hA (sep_of ho7 (by omega) hAl hAs) (hP.grown hg68) (hsep pb (by omega))).mono ?_
    rintro e w' ⟨v', he, ho', hst⟩
    refine ⟨v', he, ho', ⟨hst.grown.os.trans hb8.os, hst.grown.tape.trans hb8.tape, hst.grown.output.trans hb8.output, Nat.le_trans hb8.size hst.grown.size, fun b hb _ => ?_⟩⟩
    exact (hst.block (hsep b hb).lt (hsep b hb).ne).trans (hb8.block b hb (by simp))
  obtain ⟨T, hT⟩ : ∃ T, T = 4 + name.size + 16 + 4 + 32 * n3 + 4 + 32 * n4 + 4 + 16 * n5 := ⟨_, rfl⟩
  have hnl : name.data.toList.length = name.size := by rw [Array.length_toList]; rfl
  have HL1 : Hid ((l ++ encChange name.data.toList t.1 (fun j => (rs j).1) n3 (fun j => (ags j).1) n4 (fun j => (ps j).1) n5).length = l.length + T) := by
    show _ = _
    rw [List.length_append, encChange_length, hT, hnl]
  have HL2 : Hid ((l ++ encChange name.data.toList t.1 (fun j => (rs j).1) n3 (fun j => (ins ags k g j).1) (n4 + 1) (fun j => (ps j).1) n5).length = l.length + T + 32) := by
    show _ = _
    rw [List.length_append, encChange_length, hT, hnl]
    omega
  have hTb : T ≤ 1048576 := by omega
  have HT := hide hT
  have H10 := hide (clone_all a0 c0 l W6.drew (by omega) (HI.out.buf.grown (grown_drew hgw6)))
  clear hT hR hP hRl hPl hRs hPs hg3 hg5 hg6 hgw3 hgw5 hgc5 hs3 hs5 hnl hgwc
  go_cut [21] (fun v wd => ∃ g1 c1, v = .slice (some ⟨g1, 0, none⟩) (l.length + T) c1 ∧ Hid (Own W6.heap.size wd (.slice (some ⟨g1, 0, none⟩) (l.length + T) c1) (l ++ encChange name.data.toList t.1 (fun j => (rs j).1) n3 (fun j => (ags j).1) n4 (fun j => (ps j).1) n5) ∧ W6.grownBy wd none))
  case first => as_aux_lemma =>
    go_region_with (first | (go_at_call 10; refine H10.out.mono ?_; rintro e w7 ⟨sv, rfl, ho7, hg7⟩; have hz0 := hg7.cell (show W6.drew.cell? _ = _ from hq0) (by simp); have hz1 := hg7.cell (show W6.drew.cell? _ = _ from hq1) (by simp); have hg7' := grown_undrew hg7) | (go_at_call 6; refine (toGaps_all a4 n4 c4 ags w.heap.size w7 (by omega) (HI.out.add.grown (hgw6.trans hg7')) (by have := hg7'.size; omega)).mono ?_; rintro e w8 ⟨aa, ac, ab, rfl, hA, hAl, hAs, hg8⟩; have hv0 := hg8.cell hz0 (by simp); have hv1 := hg8.cell hz1 (by simp)) | (go_at_call 9; refine (HZ.out W6 w7 w8 sv aa n4 ac ab ags (World.grownBy.refl _ _) hg7' ho7 hg8 hA hAl hAs (by omega)).mono ?_; rintro e w9 ⟨v9, rfl, ho9, hg9⟩))
    all_goals
      obtain ⟨g1, c1, hv⟩ := shape_len ho9 (n := l.length + T) HL1.out (by have := HT.out; omega)
      go_wp2_with fail
      go_meet
      exact ⟨g1, c1, hv, by rw [← hv]; exact ho9, hg9⟩
  case rest => as_aux_lemma =>
  obtain ⟨g1, c1, rfl, HO1⟩ := hcut
  have hgwd := hgw6.trans HO1.out.2
  have hgcd := hgc6.trans HO1.out.2
  have hsd := hgcd.size
  have hq0 := HO1.out.2.cell hq0 (by simp)
  have hq1 := HO1.out.2.cell hq1 (by simp)
  have hlt : w.heap.size + 1 < wc.heap.size := by omega
  have hn41 : n4 + 1 ≤ 65536 := by omega
  have HM2 := hide (HM.out.1.grown hgcd)
  have HO1g := hide HO1.out.2
  have hy0 := hgcd.cell hy0 (by simp)
  have hy1 := hgcd.cell hy1 (by simp)
  have hy2 := hgcd.cell hy2 (by simp)
  have hy3 := hgcd.cell hy3 (by simp)
  have H10 := hide (clone_all a0 c0 l wc.drew (by omega) (HI.out.buf.grown (grown_drew hgwd)))
  clear hgw6 hgc6 hsc hgcd hsd hs6 HM
  go_upto_region 25 with fail
  obtain ⟨Wd, hWd⟩ : ∃ Wd, Wd = wc := ⟨_, rfl⟩
  subst hWd
  go_cut [22] (fun v we => ∃ g2 c2, v = .slice (some ⟨g2, 0, none⟩) (l.length + T + 32) c2 ∧ Hid (Own Wd.heap.size we (.slice (some ⟨g2, 0, none⟩) (l.length + T + 32) c2) (l ++ encChange name.data.toList t.1 (fun j => (rs j).1) n3 (fun j => (ins ags k g j).1) (n4 + 1) (fun j => (ps j).1) n5) ∧ Wd.grownBy we none))
  case first => as_aux_lemma =>
    go_region_with (first | (go_at_call 10; refine H10.out.mono ?_; rintro e w7 ⟨sv, rfl, ho7, hg7⟩; have hz0 := hg7.cell (show Wd.drew.cell? _ = _ from hq0) (by simp); have hz1 := hg7.cell (show Wd.drew.cell? _ = _ from hq1) (by simp); have hg7' := grown_undrew hg7) | (go_at_call 6; refine (toGaps_all (some ⟨w2.heap.size, 0, none⟩) (n4 + 1) (n4 + 1) (ins ags k g) w.heap.size w7 hn41 (HM2.out.grown hg7') (by have := hg7'.size; omega)).mono ?_; rintro e w8 ⟨aa, ac, ab, rfl, hA, hAl, hAs, hg8⟩; have hv0 := hg8.cell hz0 (by simp); have hv1 := hg8.cell hz1 (by simp)) | (go_at_call 9; refine (HZ.out Wd w7 w8 sv aa (n4 + 1) ac ab (ins ags k g) HO1g.out hg7' ho7 hg8 hA hAl hAs hn41).mono ?_; rintro e w9 ⟨v9, rfl, ho9, hg9⟩))
    all_goals
      obtain ⟨g2, c2, hv⟩ := shape_len ho9 (n := l.length + T + 32) HL2.out (by omega)
      go_wp2_with fail
      go_meet
      exact ⟨g2, c2, hv, by rw [← hv]; exact ho9, hg9⟩
  case rest => as_aux_lemma =>
  obtain ⟨g2, c2, rfl, HO2⟩ := hcut
  obtain ⟨A, G, D, hA, hG, hD, hE1, hE2⟩ := change_split l name t rs n3 ags n4 ps n5 k g hk
  have ho1 := HO1.out.1.grown HO2.out.2
  have ho2 := HO2.out.1
  have hk1 := ho1.cap_le
  have hk2 := ho2.cap_le
  rw [HL1.out] at hk1
  rw [HL2.out] at hk2
  rw [hE1] at ho1
  rw [hE2] at ho2
  have hTe : T = 4 + name.size + 16 + 4 + 32 * n3 + 4 + 32 * n4 + 4 + 16 * n5 := HT.out
  have hFin : Fin w wc g1 g2 (w.heap.size + 1) (l.length + T) c1 c2 (l.length + 4 + name.size + 16 + 4 + 32 * n3) (l.length + 4 + name.size + 16 + 4 + 32 * n3 + 4 + 32 * k) n4 k g A G D :=
    ⟨⟨ho1.cellsAt, ho2.cellsAt, hgwd.trans HO2.out.2, HO2.out.2.cell hy0 (by simp), HO2.out.2.cell hy1 (by simp), HO2.out.2.cell hy2 (by simp), HO2.out.2.cell hy3 (by simp)⟩, hA, hG, rfl, by omega, by omega, by omega, by omega, hk1, hk2⟩
  have hK := ‹∀ (a : Act) (w : World), Code.wp Try.prog _ _ a w → _›
  refine hK _ _ ?_
  exact left26 w wc g1 g2 (w.heap.size + 1) (l.length + T) c1 c2 _ _ n4 k g A G D a0 a3 a4 a5 l.length c0 n3 c3 c4 n5 c5 name hFin rfl (by omega) hk (by omega) (by omega) _ _ _ _ _ _ _ _ _ _ _ _ _ _ _ _ _ _ _ _ _ _ _ _ _ _ _ _ _ _ _ _ _ _ _ _ _ _ _ _ _ _ _ _ _ _ _ _ _ _ _ _ _ _ _ _ _ _ _ _ _ _ _ _ _ _ _ _ _ _ _ _ _ _ _ _ _ _ _ _ _ _ _ _ _ _ _ _ _ _ _ _ _ _ _ _ _ _ _ _ _ _ _ _ _ _ _ _ _ _ _ _ _ _ _ _ _ _ _ _ _ _ _ _ _ _ _ _ _ _ _ _ _ _ _ _ _ _ _ _ _ _ _ _ _ _ _ _ _ _ _ _ _ _ _ _ _ _ _ _ _ _ _ _ _ _ _ _ _ _ _ _ _ _ _ _ _ _ _ _ _ _ _ _ _ _ _ _ _ _ _ _ _ _ _ _ _ _ _ _ _ _ _ _ _ _ _ _ _ _ _ _ _ _ _ _ _ _ _ _ _ _ _ _ _ _ _ _ _ _ _

end Go.Proofs.Qxb6618992a.Ch
