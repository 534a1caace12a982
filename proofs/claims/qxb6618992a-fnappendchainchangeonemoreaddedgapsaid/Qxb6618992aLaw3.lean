/-
  The walk of FnAppendChainChangeExtendsBuf.
-/
import Derived.Test.Qxb6618992aRowReads
import Derived.Deep.Cut
import Derived.Deep.CutRange
import Derived.Deep.DeepCutAuto
import Derived.Deep.QuietTactic
import Derived.BigQuiet
namespace Go.Proofs.Qxb6618992a.Ch
open Go.RowKit

theorem Gaps.grown {w w' : World} {a : Option Addr} {len b : Nat} {gs : Nat → Gp} (h : Gaps w a len b gs) (hg : w.grownBy w' none) : Gaps w' a len b gs := h.same hg.size (fun hb => hg.block b hb (by simp))
theorem Nums.grown {w w' : World} {a : Option Addr} {len b : Nat} {ps : Nat → Nat × Nat} (h : Nums w a len b ps) (hg : w.grownBy w' none) : Nums w' a len b ps := by
  rcases h with h | ⟨off, ha, h⟩
  · exact Or.inl h
  · refine Or.inr ⟨off, ha, fun j hj => ?_⟩
    obtain ⟨h1, h2, h3⟩ := h j hj
    exact ⟨hg.cell h1 (by simp), hg.cell h2 (by simp), h3⟩
theorem GapsIn.grown {w w' : World} {a : Option Addr} {len cap : Nat} {gs : Nat → Gp} (h : GapsIn w a len cap gs) (hg : w.grownBy w' none) : GapsIn w' a len cap gs := by
  obtain ⟨h1, h2⟩ := h
  refine ⟨h1, ?_⟩
  rcases h2 with h2 | ⟨b, o, e, h2⟩
  · exact Or.inl h2
  · refine Or.inr ⟨b, o, e, fun j hj => ?_⟩
    obtain ⟨c0, c1, c2, c3⟩ := h2 j hj
    exact ⟨hg.cell c0 (by simp), hg.cell c1 (by simp), hg.cell c2 (by simp), hg.cell c3 (by simp)⟩
theorem NumsIn.grown {w w' : World} {a : Option Addr} {len cap : Nat} {ps : Nat → Np} (h : NumsIn w a len cap ps) (hg : w.grownBy w' none) : NumsIn w' a len cap ps := by
  obtain ⟨h1, h2⟩ := h
  refine ⟨h1, ?_⟩
  rcases h2 with h2 | ⟨b, o, e, h2⟩
  · exact Or.inl h2
  · refine Or.inr ⟨b, o, e, fun j hj => ?_⟩
    obtain ⟨c0, c1, c2⟩ := h2 j hj
    exact ⟨hg.cell c0 (by simp), hg.cell c1 (by simp), c2⟩
theorem NumsIn.at_pos {w : World} {a : Option Addr} {len cap : Nat} {ps : Nat → Np} (h : NumsIn w a len cap ps) (h0 : ¬ len = 0) : ∃ b o, a = some ⟨b, o, none⟩ ∧ NumsAt w b o len (fun j => (ps j).1) := (And.right h).resolve_left h0
theorem BytesIn.grown {w w' : World} {a : Option Addr} {cap : Nat} {l : List UInt8} (h : BytesIn w a cap l) (hg : w.grownBy w' none) : BytesIn w' a cap l := by
  obtain ⟨h1, h2⟩ := h
  refine ⟨h1, ?_⟩
  rcases h2 with h2 | ⟨b, o, e, h2⟩
  · exact Or.inl h2
  · exact Or.inr ⟨b, o, e, fun j hj => hg.cell (h2 j hj) (by simp)⟩
theorem BytesIn.bytesA {w : World} {a : Option Addr} {cap : Nat} {l : List UInt8} (h : BytesIn w a cap l) : BytesA w a l := And.right h

theorem grown_undrew {w w' : World} (h : w.drew.grownBy w' none) : w.grownBy w' none := ⟨h.os, h.tape, h.output, h.size, h.block⟩

theorem shape_len {B : Nat} {w : World} {v : Value} {l : List UInt8} (h : Own B w v l) {n : Nat} (hn : l.length = n) (hp : 0 < n) : ∃ g c, v = .slice (some ⟨g, 0, none⟩) n c := by
  subst hn
  exact h.shape_pos hp

theorem Own.cap_le {B : Nat} {w : World} {g n c : Nat} {l : List UInt8} (h : Own B w (.slice (some ⟨g, 0, none⟩) n c) l) : l.length ≤ c := by
  rcases h.2 with ⟨h1, _⟩ | ⟨g', c', cur, h1, _, _, h2, _⟩
  · cases h1
  · cases h1; exact h2

/-- the arguments of the law, as the walk is told of them. -/
structure Ins (w : World) (a0 : Option Addr) (c0 : Nat) (l : List UInt8) (a3 : Option Addr) (n3 c3 : Nat) (rs : Nat → Gp) (a4 : Option Addr) (n4 c4 : Nat) (ags : Nat → Gp) (a5 : Option Addr) (n5 c5 : Nat) (ps : Nat → Np) : Prop where
  buf : BytesIn w a0 c0 l
  rem : GapsIn w a3 n3 c3 rs
  add : GapsIn w a4 n4 c4 ags
  pas : NumsIn w a5 n5 c5 ps

set_option maxRecDepth 100000 in
set_option maxHeartbeats 8000000 in
theorem ext_walk (a0 : Option Addr) (c0 : Nat) (l : List UInt8) (name : ByteArray) (t : Np) (a3 : Option Addr) (n3 c3 : Nat) (rs : Nat → Gp) (a4 : Option Addr) (n4 c4 : Nat) (ags : Nat → Gp) (a5 : Option Addr) (n5 c5 : Nat) (ps : Nat → Np) (w : World)
    (hI : Ins w a0 c0 l a3 n3 c3 rs a4 n4 c4 ags a5 n5 c5 ps) (h0 : l.length ≤ maxLen) (h1 : name.size ≤ maxLen) (h3 : n3 ≤ maxLen) (h4 : n4 ≤ maxLen) (h5 : n5 ≤ maxLen) :
    Calls Try.prog 3 #[.slice a0 l.length c0, .string name, .agg #[.int .u64 t.1.1, .int .u64 t.1.2], .slice a3 n3 c3, .slice a4 n4 c4, .slice a5 n5 c5] w fun e w' => e = .returned (.bool true) ∧ w.grownBy w' none := by
  have H5 := hide (bytes5_any a0 a3 a4 a5 l.length c0 n3 c3 n4 c4 n5 c5 name t.1.1 t.1.2 (w.alloc (.cells #[.int .u64 t.1.1, .int .u64 t.1.2] 25)) h0 h1 h3 h4 h5)
  have HI := hide hI
  clear hI
  unfold maxLen at h0 h1 h3 h4 h5
  go_enter Try.func3, Try.ntmps3
  go_wp2_with fail
  refine H5.out.mono ?_
  rintro e w2 ⟨⟨r, rfl⟩, hg2⟩
  have hgw := (World.grownBy_alloc w (.cells #[.int .u64 t.1.1, .int .u64 t.1.2] 25) none).trans hg2
  have hx0 : w2.cell? ⟨w.heap.size, 0, none⟩ = some (.int .u64 t.1.1) := hg2.cell (by simp) (by simp)
  have hx1 : w2.cell? ⟨w.heap.size, 1, none⟩ = some (.int .u64 t.1.2) := hg2.cell (by simp) (by simp)
  have hlt : w.heap.size < w2.heap.size := by have := hg2.size; simp at this; omega
  clear H5 hg2
  cases r
  · go_wp2_with fail
    go_ret
    exact ⟨rfl, hgw⟩
  by_cases q0 : 65536 < l.length
  · go_wp2_with fail
    go_ret
    exact ⟨rfl, hgw⟩
  by_cases q1 : 65536 < name.size
  · go_wp2_with fail
    go_ret
    exact ⟨rfl, hgw⟩
  by_cases q3 : 4096 < n3
  · go_wp2_with fail
    go_ret
    exact ⟨rfl, hgw⟩
  by_cases q4 : 4096 < n4
  · go_wp2_with fail
    go_ret
    exact ⟨rfl, hgw⟩
  by_cases q5 : 4096 < n5
  · go_wp2_with fail
    go_ret
    exact ⟨rfl, hgw⟩
  go_wp2_with fail
  refine (toGaps_all a3 n3 c3 rs w.heap.size _ (by omega) (HI.out.rem.grown hgw) hlt).mono ?_
  rintro e w3 ⟨ra, rc, rb, rfl, hR, hRl, hRs, hg3⟩
  have hgw3 := hgw.trans hg3
  have hx0 := hg3.cell hx0 (by simp)
  have hx1 := hg3.cell hx1 (by simp)
  have hs3 := hg3.size
  go_wp2_with fail
  refine (toGaps_all a4 n4 c4 ags w.heap.size _ (by omega) (HI.out.add.grown hgw3) (by omega)).mono ?_
  rintro e w4 ⟨aa, ac, ab, rfl, hA, hAl, hAs, hg4⟩
  have hgw4 := hgw3.trans hg4
  have hR := hR.grown hg4
  have hx0 := hg4.cell hx0 (by simp)
  have hx1 := hg4.cell hx1 (by simp)
  have hs4 := hg4.size
  go_wp2_with fail
  refine (toNums_all a5 n5 c5 ps w.heap.size _ (by omega) (HI.out.pas.grown hgw4) (by omega)).mono ?_
  rintro e w5 ⟨pa, pc, pb, rfl, hP, hPl, hPs, hg5⟩
  have hgw5 := hgw4.trans hg5
  have hR := hR.grown hg5
  have hA := hA.grown hg5
  have hx0 := hg5.cell hx0 (by simp)
  have hx1 := hg5.cell hx1 (by simp)
  have hs5 := hg5.size
  go_wp2_with fail
  obtain ⟨T, hT⟩ : ∃ T, T = 4 + name.size + 16 + 4 + 32 * n3 + 4 + 32 * n4 + 4 + 16 * n5 := ⟨_, rfl⟩
  have H8 := len_any name.size n3 n4 n5 (w5.alloc (.cells #[.int .u64 t.1.1, .int .u64 t.1.2] 33)) (by omega) (by omega) (by omega) (by omega)
  rw [← hT] at H8
  have hTb : T ≤ 1048576 := by omega
  have hTl : name.size + 32 + 16 * n5 ≤ T := by omega
  have HT := hide hT
  clear hT
  refine H8.mono ?_
  rintro e w6 ⟨rfl, rfl⟩
  clear H8
  -- the world of the two calls
  obtain ⟨W6, hW6⟩ : ∃ W6, w5.alloc (.cells #[.int .u64 t.1.1, .int .u64 t.1.2] 33) = W6 := ⟨_, rfl⟩
  have hg6 : w5.grownBy W6 none := by rw [← hW6]; exact World.grownBy_alloc _ _ _
  have hgw6 := hgw5.trans hg6
  have hR := hR.grown hg6
  have hA := hA.grown hg6
  have hP := hP.grown hg6
  have hx0 := hg6.cell hx0 (by simp)
  have hx1 := hg6.cell hx1 (by simp)
  have hy0 : W6.cell? ⟨w5.heap.size, 0, none⟩ = some (.int .u64 t.1.1) := by rw [← hW6]; simp
  have hy1 : W6.cell? ⟨w5.heap.size, 1, none⟩ = some (.int .u64 t.1.2) := by rw [← hW6]; simp
  have hs6 : W6.heap.size = w5.heap.size + 1 := by rw [← hW6]; simp
  rw [hW6]
  clear hW6
  obtain ⟨E, hE⟩ : ∃ E, E = encChange name.data.toList t.1 (fun j => (rs j).1) n3 (fun j => (ags j).1) n4 (fun j => (ps j).1) n5 := ⟨_, rfl⟩
  have hEl : E.length = T := by
    have hnl : name.data.toList.length = name.size := by rw [Array.length_toList]; rfl
    rw [hE, encChange_length, HT.out, hnl]
  -- ZZappendChainChange from a world that has grown
  have HZ : Hid (∀ (w7 : World) (sv : Value) (l' : List UInt8), W6.grownBy w7 none → Own W6.heap.size w7 sv l' → l'.length ≤ 1048576 →
      Calls Try.prog 9 #[sv, .string name, .agg #[.int .u64 t.1.1, .int .u64 t.1.2], .slice ra n3 rc, .slice aa n4 ac, .slice pa n5 pc] w7 fun e w' => ∃ v', e = .returned v' ∧ Own W6.heap.size w' v' (l' ++ E) ∧ W6.grownBy w' none ∧ w7.grownBy w' sv.ownBlock) := by
    intro w7 sv l' hg ho hl'
    have hsz := hg.size
    have hsep : ∀ b, b < W6.heap.size → Sep w7 sv b := fun b hb => ⟨by omega, fun e => by have := (ho.from e.symm).1; omega⟩
    refine (zz_any W6.heap.size sv l' name t.1 ra n3 rc rb rs aa n4 ac ab ags pa n5 pc pb (fun j => (ps j).1) w7 ho hsz hl' (by omega) (by omega) (by omega) (by omega) t.2.1 t.2.2
      (hR.grown hg) (hsep rb (by omega)) (hA.grown hg) (hsep ab (by omega)) (hP.grown hg) (hsep pb (by omega))).mono ?_
    rintro e w' ⟨v', he, ho', hst⟩
    refine ⟨v', he, by rw [hE]; exact ho', ⟨hst.grown.os.trans hg.os, hst.grown.tape.trans hg.tape, hst.grown.output.trans hg.output, Nat.le_trans hg.size hst.grown.size, fun b hb _ => ?_⟩, hst.grown⟩
    exact (hst.block (hsep b hb).lt (hsep b hb).ne).trans (hg.block b hb (by simp))
  have HE := hide hE
  have H10 := hide (clone_all a0 c0 l W6.drew (by omega) (HI.out.buf.grown (grown_drew hgw6)))
  clear hE hR hA hP hRl hAl hPl hRs hAs hPs hg3 hg4 hg5 hg6 hgw hgw3 hgw4 hgw5 hs3 hs4 hs5
  go_upto_region 20 with fail
  go_cut [18] (fun v wc => ∃ g c, v = .slice (some ⟨g, 0, none⟩) (l.length + T) c ∧ Hid (Own W6.heap.size wc (.slice (some ⟨g, 0, none⟩) (l.length + T) c) (l ++ E) ∧ W6.grownBy wc none))
  case first =>
    go_region_with (first | (go_at_call 10; refine H10.out.mono ?_; rintro e w7 ⟨sv, rfl, ho7, hg7⟩; have hz0 := hg7.cell (show W6.drew.cell? _ = _ from hy0) (by simp); have hz1 := hg7.cell (show W6.drew.cell? _ = _ from hy1) (by simp); have hg7' := grown_undrew hg7) | (go_at_call 9; refine (HZ.out w7 sv l hg7' ho7 (by omega)).mono ?_; rintro e w8 ⟨v8, rfl, ho8, hg8, _⟩))
    all_goals
      obtain ⟨g, c, hv⟩ := shape_len ho8 (n := l.length + T) (by rw [List.length_append, hEl]) (by omega)
      go_wp2_with fail
      go_meet
      exact ⟨g, c, hv, by rw [← hv]; exact ho8, hg8⟩
  case rest =>
  obtain ⟨g1, c1, rfl, HO1⟩ := hcut
  have hz0 : wc.cell? ⟨w5.heap.size, 0, none⟩ = some (.int .u64 t.1.1) := HO1.out.2.cell hy0 (by simp)
  have hz1 : wc.cell? ⟨w5.heap.size, 1, none⟩ = some (.int .u64 t.1.2) := HO1.out.2.cell hy1 (by simp)
  have H9 := hide (HZ.out wc (.slice none 0 0) [] HO1.out.2 (World.ownsRow_nil _ _ _ _) (by simp))
  clear H10 HZ hy0 hy1
  go_wp2_with fail
  refine H9.out.mono ?_
  rintro e w9 ⟨v9, rfl, ho9, hg9, hgc9⟩
  rw [List.nil_append] at ho9
  have ho1 : Own W6.heap.size w9 (.slice (some ⟨g1, 0, none⟩) (l.length + T) c1) (l ++ E) := World.ownsRow.kept HO1.out.1 hgc9 (.inr (by simp [Value.ownBlock]))
  obtain ⟨g2, c2, hv9⟩ := shape_len ho9 hEl (by omega)
  rw [hv9] at ho9 ⊢
  have hk1 := ho1.cap_le
  have hk2 := ho9.cap_le
  rw [List.length_append, hEl] at hk1
  rw [hEl] at hk2
  have hx0 : w9.cell? ⟨w.heap.size, 0, none⟩ = some (.int .u64 t.1.1) := hg9.cell hx0 (by simp)
  have hx1 : w9.cell? ⟨w.heap.size, 1, none⟩ = some (.int .u64 t.1.2) := hg9.cell hx1 (by simp)
  have HC1 := hide ho1.cellsAt
  have HC2 := hide ho9.cellsAt
  have HB9 := hide (HI.out.buf.grown (hgw6.trans hg9)).bytesA
  have HP9 := hide (HI.out.pas.grown (hgw6.trans hg9))
  have HG := hide (hgw6.trans hg9)
  have k1 : (l.length : Int) ≤ (c1 : Int) := by omega
  have k2 : ¬ c1 = l.length := by omega
  have k3 : (4 : Int) ≤ (c2 : Int) := by omega
  have k4 : (4 : Int) + (name.size : Int) ≤ (c2 : Int) := by omega
  have k5 : ¬ c2 = 4 := by omega
  clear H9 HO1 hz0 hz1 ho9 ho1 hgc9 hgw6 hg9 hv9 hs6 hlt
  have HEl := hide hEl
  clear hEl
  have hnl : name.data.toList.length = name.size := by rw [Array.length_toList]; rfl
  have HNL := hide hnl
  -- the parts of the change
  obtain ⟨R1, hR1⟩ : ∃ R1, R1 = encList (fun j => (rs j).1) n3 ++ encList (fun j => (ags j).1) n4 ++ le4 n5 ++ encNums (fun j => (ps j).1) n5 := ⟨_, rfl⟩
  have HE1 : Hid (E = [] ++ (le4 name.size ++ (name.data.toList ++ (be8 t.1.1 ++ (be8 t.1.2 ++ R1))))) := by
    show _ = _
    rw [HE.out, encChange, hR1, hnl]; simp [encNum]
  have HR1 := hide hR1
  clear hnl hR1
  go_wp2_with fail
  refine (bytesEq_all _ _ l.length l.length _ _ l w9 (by omega) rfl rfl (Or.inr ⟨g1, 0, rfl, by simpa using HC1.out.sub [] l E (by simp)⟩) HB9.out).mono ?_
  rintro e w10 ⟨rfl, m1, rfl⟩
  go_wp2_with fail
  refine (bytesEq_all _ _ _ _ _ _ E (w9.drewN m1) (by rw [HEl.out]; omega) HEl.out.symm HEl.out.symm (Or.inr ⟨g1, l.length, rfl, by have := (HC1.out.drewN m1).sub l E [] (by simp); rwa [Nat.zero_add] at this⟩) (Or.inr ⟨g2, 0, rfl, HC2.out.drewN m1⟩)).mono ?_
  rintro e w10 ⟨rfl, m2, rfl⟩
  go_wp2_with fail
  refine (le32_row g2 T c2 E [] _ name.size 0 (w9.drewN (m1 + m2)) (by omega) HEl.out.symm (HC2.out.drewN (m1 + m2)) HE1.out rfl (by omega)).mono ?_
  rintro e wq ⟨rfl, m3, hwq⟩
  have hgq : w9.grownBy wq none := by rw [hwq]; exact ⟨rfl, rfl, rfl, Nat.le_refl _, fun _ _ _ => rfl⟩
  have HCq : Hid (CellsAt wq g2 0 E) := by rw [hwq]; exact (HC2.out.drewN (m1 + m2)).drewN m3
  have hx0 : wq.cell? ⟨w.heap.size, 0, none⟩ = some (.int .u64 t.1.1) := hgq.cell hx0 (by simp)
  have hx1 : wq.cell? ⟨w.heap.size, 1, none⟩ = some (.int .u64 t.1.2) := hgq.cell hx1 (by simp)
  have HPq := hide (HP9.out.grown hgq)
  have HGq := hide (HG.out.trans hgq)
  have hcv : (convert 22 9 (.slice (some ⟨g2, 4, none⟩) name.size (c2 - 4))).run Try.prog wq = .ok (.string name) wq := by
    refine conv_str _ g2 4 _ _ name rfl ?_
    have := HCq.out.sub (le4 name.size) name.data.toList (be8 t.1.1 ++ (be8 t.1.2 ++ R1)) (by rw [HE1.out]; simp)
    rwa [le4_length, Nat.zero_add] at this
  have HA : Hid (∀ (i : Int) (k : Nat), i = 4 + (name.size : Int) → Calls Try.prog 13 #[.slice (some ⟨g2, 0, none⟩) T c2, .int .i64 i] (wq.drewN k) fun e w' => e = .returned (.int .u64 t.1.1) ∧ w' = wq.drewN k) := fun i k hi =>
    be64_row g2 T c2 E (le4 name.size ++ name.data.toList) (be8 t.1.2 ++ R1) t.1.1 i _ (by omega) HEl.out.symm (HCq.out.drewN k) (by rw [HE1.out]; simp) (by rw [List.length_append, le4_length, HNL.out, hi]; simp) t.2.1
  have HB : Hid (∀ (i : Int) (k : Nat), i = 12 + (name.size : Int) → Calls Try.prog 13 #[.slice (some ⟨g2, 0, none⟩) T c2, .int .i64 i] (wq.drewN k) fun e w' => e = .returned (.int .u64 t.1.2) ∧ w' = wq.drewN k) := fun i k hi =>
    be64_row g2 T c2 E (le4 name.size ++ name.data.toList ++ be8 t.1.1) R1 t.1.2 i _ (by omega) HEl.out.symm (HCq.out.drewN k) (by rw [HE1.out]; simp) (by rw [List.length_append, List.length_append, le4_length, HNL.out, be8_length, hi]; simp; omega) t.2.2
  clear hwq hgq HC2 HC1 HB9 HP9 HG
  go_wp2_with fail
  go_quiet (first | (go_at_call 13; refine Calls.quiet_of_same (HA.out _ _ ?_); first | omega | (rw [IntKind.wrap_i64]; omega)) | (go_at_call 13; refine Calls.quiet_of_same (HB.out _ _ ?_); first | omega | (rw [IntKind.wrap_i64]; omega)))
  obtain ⟨A2, hA2⟩ : ∃ A2, A2 = le4 name.size ++ (name.data.toList ++ (be8 t.1.1 ++ (be8 t.1.2 ++ (encList (fun j => (rs j).1) n3 ++ encList (fun j => (ags j).1) n4)))) := ⟨_, rfl⟩
  have hA2l : (A2.length : Int) = (T : Int) - 16 * (n5 : Int) - 4 := by
    rw [hA2, HT.out]
    simp only [List.length_append, le4_length, be8_length, encList_length, HNL.out]
    omega
  have HE2 : Hid (E = A2 ++ (le4 n5 ++ encNums (fun j => (ps j).1) n5)) := by
    show _ = _
    rw [HE1.out, hA2, HR1.out]; simp
  have HA2 := hide hA2l
  clear hA2 hA2l HA HB hcv hx0 hx1 HE1 HR1
  go_wp2_with fail
  refine (le32_row g2 T c2 E A2 _ n5 _ _ (by omega) HEl.out.symm (HCq.out.drewN nq) HE2.out HA2.out.symm (by omega)).mono ?_
  rintro e wz ⟨rfl, m4, hwz⟩
  have hgz : wq.grownBy wz none := by rw [hwz]; exact ⟨rfl, rfl, rfl, Nat.le_refl _, fun _ _ _ => rfl⟩
  have HCz : Hid (CellsAt wz g2 0 E) := by rw [hwz]; exact (HCq.out.drewN nq).drewN m4
  have HPz := hide (HPq.out.grown hgz)
  have HGz := hide (HGq.out.trans hgz)
  clear hwz hgz HCq HPq HGq
  by_cases hn5 : n5 = 0
  · subst hn5
    go_wp2_with fail
    refine wp_loop_rounds 1 ?_
    rw [rounds_succ]
    go_wp2_with fail
    go_ret
    exact ⟨rfl, HGz.out⟩
  obtain ⟨b5, o5, rfl, hN5⟩ := HPz.out.at_pos hn5
  have HN5 := hide hN5
  clear hN5 HPz
  go_wp2_with fail
  go_loopw [21] (fun iv wr => ∃ k : Nat, k ≤ n5 ∧ iv = .int .i64 k ∧ ∃ n, wr = wz.drewN n) (fun iv _ => n5 - (intOf iv).toNat)
  case atStart => exact ⟨0, Nat.zero_le _, rfl, 0, rfl⟩
  case round =>
    obtain ⟨k, hk, rfl, nk, hwr⟩ := hrel
    have HW := hide hwr
    have HCr : Hid (CellsAt wr g2 0 E) := by rw [hwr]; exact HCz.out.drewN nk
    clear hwr
    by_cases hlt5 : k < n5
    · obtain ⟨d0, d1, _⟩ := HN5.out k hlt5
      have d0 : wr.cell? ⟨b5, o5 + k * 2, none⟩ = some (.int .u64 (ps k).1.1) := by rw [HW.out]; exact d0
      have d1 : wr.cell? ⟨b5, o5 + k * 2 + 1, none⟩ = some (.int .u64 (ps k).1.2) := by rw [HW.out]; exact d1
      have HS : Hid (E = A2 ++ (le4 n5 ++ encNums (fun j => (ps j).1) k) ++ (be8 (ps k).1.1 ++ (be8 (ps k).1.2 ++ encNums (fun j => (ps (k + 1 + j)).1) (n5 - (k + 1))))) := by
        show _ = _
        have e1 : encNums (fun j => (ps j).1) n5 = encNums (fun j => (ps j).1) (k + 1) ++ encNums (fun j => (ps (k + 1 + j)).1) (n5 - (k + 1)) := by
          rw [← encNums_add, show k + 1 + (n5 - (k + 1)) = n5 by omega]
        rw [HE2.out, e1, encNums, encNum]
        simp
      have HLk : Hid (((A2 ++ (le4 n5 ++ encNums (fun j => (ps j).1) k)).length : Int) = (T : Int) - 16 * (n5 : Int) + 16 * (k : Int)) := by
        have h1 := HA2.out
        have h2 : (A2 ++ (le4 n5 ++ encNums (fun j => (ps j).1) k)).length = A2.length + 4 + 16 * k := by rw [List.length_append, List.length_append, le4_length, encNums_length]; omega
        show _ = _
        rw [h2]
        omega
      have HA : Hid (∀ (i : Int) (q : Nat), i = (T : Int) - 16 * (n5 : Int) + 16 * (k : Int) → Calls Try.prog 13 #[.slice (some ⟨g2, 0, none⟩) T c2, .int .i64 i] (wr.drewN q) fun e w' => e = .returned (.int .u64 (ps k).1.1) ∧ w' = wr.drewN q) := fun i q hi =>
        be64_row g2 T c2 E _ _ (ps k).1.1 i _ (by omega) HEl.out.symm (HCr.out.drewN q) HS.out (by rw [HLk.out, hi]) (ps k).2.1
      have HB : Hid (∀ (i : Int) (q : Nat), i = (T : Int) - 16 * (n5 : Int) + 16 * (k : Int) + 8 → Calls Try.prog 13 #[.slice (some ⟨g2, 0, none⟩) T c2, .int .i64 i] (wr.drewN q) fun e w' => e = .returned (.int .u64 (ps k).1.2) ∧ w' = wr.drewN q) := fun i q hi =>
        be64_row g2 T c2 E (A2 ++ (le4 n5 ++ encNums (fun j => (ps j).1) k) ++ be8 (ps k).1.1) _ (ps k).1.2 i _ (by omega) HEl.out.symm (HCr.out.drewN q) (by rw [HS.out, List.append_assoc (A2 ++ (le4 n5 ++ encNums (fun j => (ps j).1) k))]) (by rw [List.length_append, be8_length, hi]; have := HLk.out; omega) (ps k).2.2
      clear HS HLk
      go_wp2_with fail
      go_quiet (first | (go_at_call 13; refine Calls.quiet_of_same (HA.out _ _ ?_); first | omega | (simp only [IntKind.wrap_i64]; omega)) | (go_at_call 13; refine Calls.quiet_of_same (HB.out _ _ ?_); first | omega | (simp only [IntKind.wrap_i64]; omega)))
      go_wp2_with fail
      go_roundw
      case rel => exact ⟨k + 1, by omega, by go_num, _, by rw [HW.out, World.drewN_drewN]⟩
      case measure => simp [intOf]; omega
    · go_wp2_with fail
      go_ret
      exact ⟨rfl, by rw [HW.out]; exact HGz.out.trans ⟨rfl, rfl, rfl, Nat.le_refl _, fun _ _ _ => rfl⟩⟩

end Go.Proofs.Qxb6618992a.Ch
