/-
  appendGaps.
-/
import Derived.Test.Qxb6618992aIter
import Derived.Test.Qxb6618992aPut
import Derived.Maps.OwnIn
namespace Go.Proofs.Qxb6618992a.Ch
open Go.RowKit Go.Shelf

attribute [local go_sem] Oper.semAt_some

/-- the bytes of the gaps that have come. -/
def encL : List Gp → List UInt8
  | [] => []
  | g :: r => encGap g.1 ++ encL r
theorem encL_snoc : ∀ (pre : List Gp) (g : Gp), encL (pre ++ [g]) = encL pre ++ encGap g.1
  | [], g => by simp [encL]
  | x :: r, g => by rw [List.cons_append, encL, encL_snoc r g, encL, List.append_assoc]
theorem encL_upto (gs : Nat → Gp) : ∀ n, encL (upto gs n) = encGaps (fun j => (gs j).1) n
  | 0 => rfl
  | n + 1 => by rw [upto_succ, encL_snoc, encL_upto gs n, encGaps]
theorem encL_length : ∀ (pre : List Gp), (encL pre).length = 32 * pre.length
  | [] => rfl
  | g :: r => by rw [encL, List.length_append, encL_length r, encGap_length, List.length_cons]; omega

theorem Own.shape {B : Nat} {w : World} {v : Value} {l : List UInt8} (h : Own B w v l) : ∃ a c, v = .slice a l.length c := by
  rcases h.2 with ⟨h1, h2⟩ | ⟨g, c, _, h1, _⟩
  · exact ⟨none, 0, by rw [h1, h2]⟩
  · exact ⟨_, c, h1⟩
theorem Own.shape_pos {B : Nat} {w : World} {v : Value} {l : List UInt8} (h : Own B w v l) (hl : 0 < l.length) : ∃ g c, v = .slice (some ⟨g, 0, none⟩) l.length c := by
  rcases h.2 with ⟨h1, h2⟩ | ⟨g, c, _, h1, _⟩
  · omega
  · exact ⟨g, c, h1⟩

theorem Step.setCell_new {w W : World} {sv v : Value} (h : Step w sv W v) {p : Addr} (hp : w.heap.size ≤ p.block) (u : Value) : Step w sv (W.setCell p u) v :=
  ⟨⟨h.grown.os, h.grown.tape, h.grown.output, by simpa [World.setCell] using h.grown.size, fun k hk hne => (Below.heap_setCell _ _ _ _ (by omega)).trans (h.grown.block k hk hne)⟩, h.loc⟩
theorem Own.setCell_box {B : Nat} {W : World} {v : Value} {l : List UInt8} {b : Nat} {t : TypeId} {x : Value} (h : Own B W v l) (hb : Boxed W b t x) (ht : t ≠ 5) (u : Value) : Own B (W.setCell ⟨b, 0, none⟩ u) v l :=
  World.ownsRow.kept h (grownBy_setCell' W b u) (.inr (fun e => hb.not_row ht h e.symm))

/-- what the loop over the gaps keeps: the variable's box, the counter's box, the row. -/
def GInv (w : World) (sv : Value) (B Bb Bn : Nat) (l : List UInt8) (pre : List Gp) (W : World) : Prop :=
  ∃ v, Boxed W Bb 22 v ∧ Boxed W Bn 38 (.int .u32 (pre.length : Nat)) ∧ Own B W v (l ++ [0, 0, 0, 0] ++ encL pre) ∧ Step w sv W v
theorem GInv.own {w : World} {sv : Value} {B Bb Bn : Nat} {l : List UInt8} (B' : Nat) (hB' : w.heap.size ≤ B') : OwnFrom B' (GInv w sv B Bb Bn l) := by
  rintro pre W W' row ⟨v, h1, h2, h3, h4⟩ hg hr
  have nocell : ∀ {b : Nat} {cs : Array Value} {t : TypeId} {fr : Nat × Nat}, W.heap[b]? = some (.cells cs t fr) → some b ≠ row := by
    intro b cs t fr hb e
    obtain ⟨_, o, ho, hc⟩ := hr b e.symm
    rw [hb] at ho; cases ho; cases hc
  refine ⟨v, h1.kept hg (nocell h1), h2.kept hg (nocell h2), World.ownsRow.kept h3 hg ?_, ?_⟩
  · rcases World.ownsRow.lt h3 with hlt
    cases hob : v.ownBlock with
    | none => exact .inl rfl
    | some k =>
      rcases h3.2 with ⟨rfl, _⟩ | ⟨g, c, cur, rfl, _, hgb, _⟩
      · cases hob
      · cases hob
        exact .inr (nocell hgb)
  · refine ⟨⟨hg.os.trans h4.grown.os, hg.tape.trans h4.grown.tape, hg.output.trans h4.grown.output, Nat.le_trans h4.grown.size hg.size, fun k hk hne => ?_⟩, h4.loc⟩
    refine (hg.block k (Nat.lt_of_lt_of_le hk h4.grown.size) (fun e => ?_)).trans (h4.grown.block k hk hne)
    have := (hr k e.symm).1
    omega
theorem GInv.alloc {w : World} {sv : Value} {B Bb Bn : Nat} {l : List UInt8} {pre : List Gp} {W : World} (h : GInv w sv B Bb Bn l pre W) (o : Obj) : GInv w sv B Bb Bn l pre (W.alloc o) := (GInv.own w.heap.size (Nat.le_refl _)).alloc o h

/-- Q, and no way out but the straight one. -/
def calmQ (Q : Exit → Act → World → Prop) : Exit → Act → World → Prop
  | .normal, a, w => Q .normal a w
  | _, _, _ => False
theorem calmQ_normal {Q : Exit → Act → World → Prop} {a : Act} {w : World} (h : Q .normal a w) : calmQ Q .normal a w := h
theorem calmQ_le {Q : Exit → Act → World → Prop} : ∀ (e : Exit) (a : Act) (w : World), calmQ Q e a w → Q e a w
  | .normal, _, _, h => h
  | .ret, _, _, h => h.elim
  | .exit _, _, _, h => h.elim
  | .goto _, _, _, h => h.elim
  | .panic _, _, _, h => h.elim
  | .outgrown, _, _, h => h.elim
theorem wpIn_calm {F : Fence} {n : Nat} {P : Program} {c : Code} {Q : Exit → Act → World → Prop} {a : Act} {w : World} (h : c.wpIn F n P (calmQ Q) a w) : c.wpIn F n P Q a w := wpIn_mono h calmQ_le

theorem Step.putObj_new {w W : World} {sv v : Value} (h : Step w sv W v) {D : Nat} (hD : w.heap.size ≤ D) (o : Obj) : Step w sv (W.putObj D o) v :=
  ⟨⟨h.grown.os, h.grown.tape, h.grown.output, by simpa using h.grown.size, fun k hk hne => (World.putObj_heap_other (by omega)).trans (h.grown.block k hk hne)⟩, h.loc⟩
/-- what the end of appendGaps wants: the four bytes of the count are laid; the box, the row and the mark lie. -/
theorem gaps_end {w W w5 : World} {sv : Value} {B Bb D g c N len : Nat} {l E : List UInt8} (hbv : Boxed W Bb 22 (.slice (some ⟨g, 0, none⟩) N c)) (hN : N = (l ++ [0, 0, 0, 0] ++ E).length)
    (ho : Own B W (.slice (some ⟨g, 0, none⟩) N c) (l ++ [0, 0, 0, 0] ++ E)) (hst : Step w sv W (.slice (some ⟨g, 0, none⟩) N c)) (hK : W.heap[D]? = some (.deferred (some []))) (hD : w.heap.size ≤ D)
    (ho5 : Own B w5 (.slice (some ⟨g, 0, none⟩) N c) (putAt (l ++ [0, 0, 0, 0] ++ E) l.length len)) (hg5 : W.drew.grownBy w5 (some g)) :
    w5.cell? ⟨Bb, 0, none⟩ = some (.slice (some ⟨g, 0, none⟩) N c) ∧ w5.heap[D]? = some (.deferred (some [])) ∧
      Own B (w5.putObj D (.deferred none)) (.slice (some ⟨g, 0, none⟩) N c) (l ++ (Lib.leBytes 4 len ++ E)) ∧ Step w sv (w5.putObj D (.deferred none)) (.slice (some ⟨g, 0, none⟩) N c) := by
  have hgW : ∃ cur, W.heap[g]? = some (.cells cur 5 (0, 0)) := by
    rcases ho.2 with ⟨h1, _⟩ | ⟨g', c', cur, h1, _, h2, _⟩
    · cases h1
    · cases h1; exact ⟨cur, h2⟩
  obtain ⟨cur, hgW⟩ := hgW
  have hDg : some D ≠ some g := by
    intro e
    cases e
    rw [hK] at hgW
    cases hgW
  have hK5 : w5.heap[D]? = some (.deferred (some [])) := (hg5.block D (Array.getElem?_eq_some_iff.1 hK).1 hDg).trans hK
  refine ⟨(Boxed.kept (W := W.drew) hbv hg5 (hbv.not_row (by decide) ho)).cell, hK5, ?_, ?_⟩
  · have h1 := ownsRow_putObj (show w5.ownsRow B 5 1 _ _ _ from ho5) (.deferred none) hK5 rfl
    rw [show putAt (l ++ [0, 0, 0, 0] ++ E) l.length len = l ++ (Lib.leBytes 4 len ++ E) by rw [List.append_assoc]; exact putAt_mid l [0, 0, 0, 0] E len rfl] at h1
    exact h1
  · exact (hst.trans ⟨⟨hg5.os, hg5.tape, hg5.output, hg5.size, fun k hk hne => hg5.block k hk hne⟩, .inl rfl⟩).putObj_new hD _

/-- the gap of the round lies in a box of its own. -/
def GBox (W : World) (b : Nat) (x : Gp) : Prop := W.heap[b]? = some (.cells #[.int .u64 x.1.1.1, .int .u64 x.1.1.2, .int .u64 x.1.2.1, .int .u64 x.1.2.2] 45 (0, 0))

set_option maxRecDepth 100000 in
set_option maxHeartbeats 4000000 in
theorem gaps_any (B : Nat) (sv : Value) (l : List UInt8) (Bs b len cap : Nat) (a : Option Addr) (gs : Nat → Gp) (w : World) (hown : Own B w sv l) (hBw : B ≤ w.heap.size) (hBs : Bs < w.heap.size) (hc : w.cell? ⟨Bs, 0, none⟩ = some (.slice a len cap))
    (hG : Gaps w a len b gs) (hlen : len ≤ 65536) (hlim : l.length ≤ 268435456) (hsB : some Bs ≠ sv.ownBlock) (hsb : some b ≠ sv.ownBlock) (hb0 : b < w.heap.size) :
    Calls Try.prog 19 #[sv, .func (.func 20) #[] #[.pointer (some ⟨Bs, 0, none⟩)]] w fun e w' => ∃ v', e = .returned v' ∧ Own B w' v' (l ++ encList (fun j => (gs j).1) len) ∧ Step w sv w' v' := by
  obtain ⟨i0, hi, hz0, hz1, hz2⟩ := info_parts Try.info5
  obtain ⟨sa, sc, rfl⟩ := hown.shape
  have hown' : w.ownsRow B 5 1 (.slice sa l.length sc) l.length (Lib.byteCells l) := hown
  refine (callsIn_wide (n := 10)).1 ?_
  refine callsIn_of_wp_marks Try.func19 rfl trivial ?_ rfl
  simp only [Try.ntmps19, List.size_toArray, List.length_cons, List.length_nil, Nat.reduceAdd, Nat.reduceSub, Array.replicate_succ, Array.replicate_zero, List.push_toArray, List.append_toArray, List.nil_append, List.cons_append]
  have HC := hide hc
  have HG := hide hG
  have HsB := hide hsB
  have Hsb := hide hsb
  have Hb0 := hide hb0
  clear hc hG hsB hsb hb0 hown
  gi_wp2_with (gi_at_builtin; refine wpListIn_append_own_at _ rfl _ _ 22 rfl B 5 i0 (.int .u8 0) 1 1 Try.underlying22 hi hz0 hz1 hz2 rfl (by decide) _ _ _ rfl ((hown'.alloc _).alloc _) _ 4 4 [.int .u8 0, .int .u8 0, .int .u8 0, .int .u8 0] rfl rfl ?c1 ?c2 ?c3 ?c4 ?c5 ?_)
  case c1 =>
    intro j u hj
    match j, hj with
    | 0, hj => simp at hj; subst hj; simp [Addr.add]
    | 1, hj => simp at hj; subst hj; simp [Addr.add]
    | 2, hj => simp at hj; subst hj; simp [Addr.add]
    | 3, hj => simp at hj; subst hj; simp [Addr.add]
  case c2 => intro u hu; simp at hu; subst hu; rfl
  case c3 => unfold maxLen; omega
  case c4 => omega
  case c5 => simp; omega
  intro v1 w1 hown1 hgrow1 _ hloc1
  have hbx1 : Boxed w1 w.heap.size 22 (.slice sa l.length sc) := ((Boxed.new w 22 _).alloc _).kept hgrow1 (Own.not_new (B := B) (l := l) hown')
  have hst1 : Step w (.slice sa l.length sc) w1 v1 := by
    refine (Step.alloc _ _ _).trans ((Step.alloc _ _ _).trans ⟨hgrow1, ?_⟩)
    rcases hloc1 with e | e
    · exact Or.inl e
    · exact Or.inr ⟨_, e, by simp⟩
  have hO1 : Own B w1 v1 (l ++ [0, 0, 0, 0]) := by
    show World.ownsRow _ _ _ _ _ _ _
    rw [byteCells_append, List.length_append]
    exact hown1
  have hex : ∃ g c, v1 = .slice (some ⟨g, 0, none⟩) (l.length + 4) c := by
    obtain ⟨g, c, e⟩ := hO1.shape_pos (by simp)
    exact ⟨g, c, by rw [e]; simp⟩
  obtain ⟨g1, c1, hv1⟩ := hex
  have hcb := hbx1.cell
  have hfb := hbx1.frozen
  have Hb1 := hide hbx1
  have HS1 := hide hst1
  have HO1 := hide hO1
  have HV1 := hide hv1
  rw [hv1]
  clear hbx1 hst1 hO1 hown1 hgrow1 hloc1 hown' hv1
  gi_wp2_with fail
  obtain ⟨W0, hW0⟩ : ∃ W0, (w1.setCell ⟨w.heap.size, 0, none⟩ (.slice (some ⟨g1, 0, none⟩) (l.length + 4) c1)).alloc (.cells #[.int .u32 0] 38) = W0 := ⟨_, rfl⟩
  have hInv0 : GInv w (.slice sa l.length sc) B w.heap.size w1.heap.size l [] W0 := by
    rw [← hW0]
    have ho := HO1.out
    have hs := HS1.out
    rw [HV1.out] at ho hs
    refine ⟨_, (Boxed.set _ Hb1.out).alloc _, ?_, by simpa [encL] using (ho.setCell_box Hb1.out (by decide) _).alloc _, (hs.setCell_new (Nat.le_refl _) _).trans (Step.alloc _ _ _)⟩
    have := Boxed.new (w1.setCell ⟨w.heap.size, 0, none⟩ (.slice (some ⟨g1, 0, none⟩) (l.length + 4) c1)) 38 (.int .u32 0)
    simpa [World.setCell] using this
  have hsz : W0.heap.size = w1.heap.size + 1 := by rw [← hW0]; simp [World.setCell]
  have hlt1 : w.heap.size < w1.heap.size := Hb1.out.lt
  rw [hW0]
  clear hW0 hcb hfb
  obtain ⟨v0, hv0b, hv0n, hv0o, hv0s⟩ := hInv0
  have hcB : W0.cell? ⟨Bs, 0, none⟩ = some (.slice a len cap) := hv0s.cell HC.out HsB.out
  have hGB : Gaps W0 a len b gs := HG.out.same hv0s.grown.size (fun hb => hv0s.grown.block b hb Hsb.out)
  refine wpIn_rangeFunc_ownH (F := Fence.wide) rfl (by decide) (gf := 20) (lb := #[.pointer (some ⟨Bs, 0, none⟩)]) rfl trivial (enters_of Try.func20 (by kernel_rfl) rfl)
    (values_stops 9 (by decide) Bs b len cap a gs hlen W0 (by omega) hcB hGB) Kp.trans ?hKb (Below.refl _ _) (fun _ => rfl)
    (GInv w (.slice sa l.length sc) B w.heap.size w1.heap.size l) (fun _ _ _ => False) (GInv.own _ (by omega)) (fun _ _ _ _ _ hs _ _ => hs) ⟨v0, hv0b, hv0n, hv0o, hv0s⟩
    (fun x a' W => ∃ Bx, w1.heap.size < Bx ∧ GBox W Bx x ∧ a' = { tmps := #[.slice sa l.length sc, .func (.func 20) #[] #[.pointer (some ⟨Bs, 0, none⟩)], .pointer (some ⟨w.heap.size, 0, none⟩), undef, .slice none 0 0, .int .i64 l.length, .pointer (some ⟨w1.heap.size, 0, none⟩), .pointer (some ⟨Bx, 0, none⟩), .slice sa l.length sc, .int .i64 l.length, .slice sa l.length sc, .slice (some ⟨w.heap.size + 1, 0, none⟩) 4 4, .slice (some ⟨g1, 0, none⟩) (l.length + 4) c1, .func (.func 20) #[] #[.pointer (some ⟨Bs, 0, none⟩)], gapVal x, undef, undef, undef, undef, undef, undef, undef, undef, undef, undef, undef, undef, undef, undef, undef, undef], defers := [] })
    ?hAx ?assign ?body ?done ?stop
  case hKb =>
    intro W l' o o' hl' hW ho _
    have := Hb0.out
    exact ⟨by simp, World.putObj_heap_other (by omega), World.putObj_heap_other (by omega)⟩
  case hAx =>
    rintro x a' _ W W' row ⟨Bx, h1, h2, h3⟩ hg hr
    refine ⟨Bx, h1, (hg.block Bx (Array.getElem?_eq_some_iff.1 h2).1 (fun e => ?_)).trans h2, h3⟩
    obtain ⟨_, o, ho, hc⟩ := hr Bx e.symm
    rw [show W.heap[Bx]? = _ from h2] at ho; cases ho; cases hc
  case assign =>
    rintro l' pre x W K hi hK
    obtain ⟨v, h1, h2, h3, h4⟩ := hi
    have hlt := h2.lt
    have hlw := h4.grown.size
    unfold gapVal
    gi_wp2
    have hb0' := Hb0.out
    refine hK _ _ ((KeepsOthers.alloc _ _).from _) (Kp.of_grown (by omega) (by omega) (World.grownBy_alloc _ _ _)) (GInv.alloc ⟨v, h1, h2, h3, h4⟩ _) ⟨W.heap.size, hlt, World.alloc_heap_new _ _, rfl⟩
  case body =>
    rintro l' pre x a' W hl' hr hinv ⟨Bx, hBx, hbx, rfl⟩ hpl
    obtain ⟨v, hbv, hbn, ho, hst⟩ := hinv
    have hcv := hbv.cell
    have hcn := hbn.cell
    have hx0 : W.cell? ⟨Bx, 0, none⟩ = some (.int .u64 x.1.1.1) := by simp [World.cell?, show W.heap[Bx]? = _ from hbx]
    have hx1 : W.cell? ⟨Bx, 1, none⟩ = some (.int .u64 x.1.1.2) := by simp [World.cell?, show W.heap[Bx]? = _ from hbx]
    have hx2 : W.cell? ⟨Bx, 2, none⟩ = some (.int .u64 x.1.2.1) := by simp [World.cell?, show W.heap[Bx]? = _ from hbx]
    have hx3 : W.cell? ⟨Bx, 3, none⟩ = some (.int .u64 x.1.2.2) := by simp [World.cell?, show W.heap[Bx]? = _ from hbx]
    have hLl : (l ++ [0, 0, 0, 0] ++ encL pre).length = l.length + 4 + 32 * pre.length := by rw [List.length_append, List.length_append, encL_length]; rfl
    have hws := hst.grown.size
    have hN : NumsAt (W.alloc (.cells #[.int .u64 x.1.1.1, .int .u64 x.1.1.2, .int .u64 x.1.2.1, .int .u64 x.1.2.2] 33)) W.heap.size 0 2 (fun j => if j = 0 then x.1.1 else x.1.2) := by
      intro j hj
      match j, hj with
      | 0, _ => exact ⟨by simp, by simp, x.2.1.1, x.2.1.2⟩
      | 1, _ => exact ⟨by simp, by simp, x.2.2.1, x.2.2.2⟩
    have H18 := hide (nums_any B v _ W.heap.size 0 2 2 _ _ (ho.alloc _) (by simp; omega) (by decide) (by omega) hN ho.not_new)
    have HL := hide hLl
    clear hLl hN
    gi_wp2_with fail
    refine ⟨trivial, (CallsIn.inRound l' (callsIn_wide.2 H18.out)).mono ?_⟩
    rintro e w3 ⟨v2, rfl, ho2, hst2⟩
    have hbv3 : Boxed w3 w.heap.size 22 v := (hbv.alloc _).kept hst2.grown (hbv.not_row (by decide) ho)
    have hbn3 : Boxed w3 w1.heap.size 38 (.int .u32 (pre.length : Nat)) := (hbn.alloc _).kept hst2.grown (hbn.not_row (by decide) ho)
    have hE : l ++ [0, 0, 0, 0] ++ encL pre ++ encNums (fun j => if j = 0 then x.1.1 else x.1.2) 2 = l ++ [0, 0, 0, 0] ++ encL (pre ++ [x]) := by
      rw [encL_snoc]; simp [encNums, encGap]
    rw [hE] at ho2
    obtain ⟨g2, c2, hv2⟩ := ho2.shape_pos (by simp; omega)
    obtain ⟨N2, hN2⟩ : ∃ N2, N2 = (l ++ [0, 0, 0, 0] ++ encL (pre ++ [x])).length := ⟨_, rfl⟩
    rw [← hN2] at hv2
    clear hN2
    have hcv3 := hbv3.cell
    have hfv3 := hbv3.frozen
    have hcn3 := hbn3.cell
    have hfn3 := hbn3.frozen
    have HO2 := hide ho2
    have HV2 := hide hv2
    rw [hv2]
    clear hcv hcn hx0 hx1 hx2 hx3 hE ho2 hv2 H18
    gi_wp2_with fail
    have hne : w.heap.size ≠ w1.heap.size := by omega
    have hb0' := Hb0.out
    have ho2 := HO2.out
    have hstep := hst.trans ((Step.alloc _ _ _).trans hst2)
    rw [HV2.out] at ho2 hstep
    refine ⟨KeepsOthers.from (((KeepsOthers.alloc W _).trans (KeepsOthers.of_grownBy hst2.grown ?_)).trans ((KeepsOthers.setCell _ _ _).trans (KeepsOthers.setCell _ _ _))) _, ?_, ?_⟩
    · intro j o ej hj
      rcases (ho.alloc _).2 with ⟨rfl, _⟩ | ⟨g, c, cur, rfl, _, hgb, _⟩
      · simp [Value.ownBlock] at ej
      · obtain rfl : g = j := by simpa [Value.ownBlock] using ej
        rw [hgb] at hj; cases hj; rfl
    · have hk : ∀ k, k < w.heap.size → some k ≠ (Value.slice sa l.length sc).ownBlock → ((w3.setCell ⟨w.heap.size, 0, none⟩ (.slice (some ⟨g2, 0, none⟩) N2 c2)).setCell ⟨w1.heap.size, 0, none⟩ (.int .u32 (pre.length + 1))).heap[k]? = W.heap[k]? := by
        intro k hk hs
        rw [Below.heap_setCell _ _ _ _ (by show k ≠ w1.heap.size; omega), Below.heap_setCell _ _ _ _ (by show k ≠ w.heap.size; omega), hst2.grown.block k (by simp; omega) (hst.sep hk hs), Below.heap_alloc _ _ _ (by omega)]
      refine ⟨?_, hk Bs hBs HsB.out, hk b hb0' Hsb.out⟩
      have := hst2.grown.size
      simp [World.setCell] at this ⊢
      omega
    · refine ⟨_, (Boxed.set _ hbv3).other hne _, ?_, (ho2.setCell_box hbv3 (by decide) _).setCell_box (hbn3.other (Ne.symm hne) _) (by decide) _, (hstep.setCell_new (Nat.le_refl _) _).setCell_new (by show w.heap.size ≤ w1.heap.size; omega) _⟩
      have := (hbn3.other (B' := w.heap.size) (Ne.symm hne) (.slice (some ⟨g2, 0, none⟩) N2 c2)).set (.int .u32 (pre.length + 1))
      simpa using this
  case done =>
    rintro D ys W hD rfl ⟨v, hbv, hbn, ho, hst⟩ hK
    rw [encL_upto] at ho
    rw [upto_length] at hbn
    obtain ⟨g3, c3, rfl⟩ := ho.shape_pos (by simp; omega)
    have hcap : (l ++ [0, 0, 0, 0] ++ encGaps (fun j => (gs j).1) len).length ≤ c3 := by
      rcases ho.2 with ⟨h1, _⟩ | ⟨g, c, cur, h1, _, _, h2, _⟩
      · cases h1
      · cases h1; exact h2
    have hLl : (l ++ [0, 0, 0, 0] ++ encGaps (fun j => (gs j).1) len).length = l.length + 4 + 32 * len := by rw [List.length_append, List.length_append, encGaps_length]; rfl
    have H22 := hide (put32 B g3 c3 l.length len (by omega) _ W.drew ho (by omega))
    have HL := hide hLl
    have HO := hide ho
    obtain ⟨N3, hN3⟩ : ∃ N3, N3 = (l ++ [0, 0, 0, 0] ++ encGaps (fun j => (gs j).1) len).length := ⟨_, rfl⟩
    have HN3 := hide hN3
    rw [← hN3] at hbv hcap hLl H22 hst
    have HBV := hide hbv
    have HOV : Hid (Own B W (.slice (some ⟨g3, 0, none⟩) N3 c3) (l ++ [0, 0, 0, 0] ++ encGaps (fun j => (gs j).1) len)) := by rw [hN3]; exact HO.out
    have hcv := hbv.cell
    have hcn := hbn.cell
    have hb1 : (l.length : Int) ≤ (N3 : Int) := by omega
    have hb2 : (N3 : Int) ≤ (c3 : Int) := by omega
    have hb3 : ¬ c3 = l.length := by omega
    clear hN3 hLl ho
    gi_wp2_with fail
    refine wpIn_calm ?_
    gi_region_with (refine ⟨trivial, ?_⟩; gi_at_call 22; refine (callsIn_wide.2 H22.out).mono ?_; rintro e w5 ⟨rfl, ho5, hg5⟩)
    all_goals
      obtain ⟨hc5, hK5, hoE, hsE⟩ := gaps_end HBV.out HN3.out HOV.out hst hK (by omega) ho5 hg5
      have HE := hide hoE
      have HSE := hide hsE
      clear hoE hsE
      refine calmQ_normal ?_
      gi_wp2_with fail
      refine ⟨by simp, .inl ⟨_, _, rfl, run_takeDeferred hK5, ?_⟩⟩
      refine ⟨.slice (some ⟨g3, 0, none⟩) N3 c3, ?_, _, rfl, HE.out, HSE.out⟩
      simp [results, Try.results19, go_sem]
  case stop =>
    rintro D c pre W _ _ h _
    exact h.elim

end Go.Proofs.Qxb6618992a.Ch
