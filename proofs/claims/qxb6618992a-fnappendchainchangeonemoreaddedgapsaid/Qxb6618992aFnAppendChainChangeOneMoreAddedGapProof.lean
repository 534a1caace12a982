/-
  THE PROOF OF 'Rows.FnAppendChainChangeOneMoreAddedGapSaid', after the guide's frame for a law over slices.
-/
import Derived.Test.Qxb6618992aRows
import Derived.Test.Qxb6618992aOpen
import Derived.Test.Qxb6618992aWalk4
import Derived.WalkKit
import Derived.ProofKit
import Derived.OpenShut
import Derived.ShutString
import Derived.ChangeOld
import Derived.Below
import Derived.SliceStrings
namespace Go.Proofs.Qxb6618992a.fnAppendChainChangeOneMoreAddedGap
open Go.ChangeShapes Go.WideShapes Go.ChangeAt Go.RowKit
open Go.ChangeMaps (open_string shut_string)
open Go.Proofs.Qxb6618992a.Ch
set_option linter.unusedVariables false

theorem own : ownKnob Try.prog.godebug = none := by kernel_rfl
theorem laidOut : laidOutB Try.prog = true := by kernel_rfl

theorem gaps_cap {H : Type} {enc : TypeId × Value → H} {w : World} {base : Nat} {spare : Nat → Bool} {held : Bool} {fuel : Nat} {a : Option Addr} {len cap : Nat} {x : DataW H × List MemPlace} (h : DataW.trod enc Try.prog w base spare held fuel 26 [.slice a len cap] = some x) : len ≤ cap := by
  rcases Go.Deep.open_slice Try.underlying26 h with ⟨hcs, _⟩ | ⟨x, l, c, m, n, D, Pl, hcs, _, hl, _⟩
  · simp at hcs
    omega
  · simp at hcs
    omega

/-! ### THE ROW's STEP -/
set_option maxRecDepth 100000 in
theorem lifted (os : Os) (started : os.Started) (H : Type) (enc : TypeId × Value → H) :
    ReturnsInHanded {} Try.checked os 4 .any (Rows.fnAppendChainChangeOneMoreAddedGapSpec.pre6 enc Try.prog Try.f4 Rows.fnAppendChainChangeOneMoreAddedGapRow.domain false) (Rows.fnAppendChainChangeOneMoreAddedGapSpec.post enc Try.prog Try.f4 false true false false) := by
  refine returnsInHanded_of_change (C := Try.checked) own started (by kernel_rfl) Try.func4
    (ChangeSpec.witness6 (enc := enc) (C := Try.checked) false ⟨#[], #[.slice none 0 0, .string ByteArray.empty, .agg #[.int .u64 0, .int .u64 0], .slice none 0 0, .slice none 0 0, .slice none 0 0, .int .i64 0, .agg #[.int .u64 0, .int .u64 0, .int .u64 0, .int .u64 0]], []⟩ 8 (by kernel_rfl) (by kernel_rfl) (by kernel_rfl) (by kernel_rfl)) ?_
  intro W base args ds gs before hval0 hW hcnd _
  have hval : ∀ (j : Nat) t v, Try.f4.params[j]? = some t → args[j]? = some v → Value.okWide Try.prog W .any base t v := hval0
  have hW' := hW
  obtain ⟨p, q, hA0, hV, rfl, hfz, hnd⟩ := hW
  have hA : DataW.TrodAll enc Try.prog W 0 (fun _ => true) true Try.f4.params.toList args.toList ds p := hA0
  rw [Try.params4] at hA hval
  obtain ⟨v0, vs0, d0, ds0, p0, q0, hargs, rfl, rfl, h0, r0⟩ := trodAll_cons hA
  obtain ⟨v1, vs1, d1, ds1, p1, q1, rfl, rfl, rfl, h1, r1⟩ := trodAll_cons r0
  obtain ⟨v2, vs2, d2, ds2, p2, q2, rfl, rfl, rfl, h2, r2⟩ := trodAll_cons r1
  obtain ⟨v3, vs3, d3, ds3, p3, q3, rfl, rfl, rfl, h3, r3⟩ := trodAll_cons r2
  obtain ⟨v4, vs4, d4, ds4, p4, q4, rfl, rfl, rfl, h4, r4⟩ := trodAll_cons r3
  obtain ⟨v5, vs5, d5, ds5, p5, q5, rfl, rfl, rfl, h5, r5⟩ := trodAll_cons r4
  obtain ⟨v6, vs6, d6, ds6, p6, q6, rfl, rfl, rfl, h6, r6⟩ := trodAll_cons r5
  obtain ⟨v7, vs7, d7, ds7, p7, q7, rfl, rfl, rfl, h7, r7⟩ := trodAll_cons r6
  obtain ⟨rfl, rfl, rfl⟩ := trodAll_nil r7
  obtain rfl : args = #[v0, v1, v2, v3, v4, v5, v6, v7] := by cases args; simp_all
  obtain ⟨rfl, rfl⟩ := trodVars_none hV
  obtain ⟨a0, len0, cap0, rfl⟩ := okWide_slice Try.underlying22 (hval 0 22 v0 rfl rfl)
  obtain ⟨x, rfl, rfl, rfl, w1⟩ := open_string Try.underlying9 (hval 1 9 v1 rfl rfl) h1
  obtain ⟨cs2, rfl, hsz2⟩ := okWide_struct Try.underlying25 (hval 2 25 v2 rfl rfl)
  obtain ⟨a3, len3, cap3, rfl⟩ := okWide_slice Try.underlying26 (hval 3 26 v3 rfl rfl)
  obtain ⟨a4, len4, cap4, rfl⟩ := okWide_slice Try.underlying26 (hval 4 26 v4 rfl rfl)
  obtain ⟨a5, len5, cap5, rfl⟩ := okWide_slice Try.underlying27 (hval 5 27 v5 rfl rfl)
  obtain ⟨n6, rfl, rfl, rfl, w6⟩ := open_int Try.underlying3 (hval 6 3 v6 rfl rfl) h6
  obtain ⟨cs7, rfl, hsz7⟩ := okWide_struct Try.underlying42 (hval 7 42 v7 rfl rfl)
  have k0 := h0
  have k2 := h2
  have k3 := h3
  have k4 := h4
  have k5 := h5
  have k7 := h7
  have lt0 : ∀ x ∈ p0, x.block < W.heap.size := by obtain ⟨m, hm⟩ := k0; exact DataW.trod_lt m _ _ _ hm
  have lt2 : ∀ x ∈ p2, x.block < W.heap.size := by obtain ⟨m, hm⟩ := k2; exact DataW.trod_lt m _ _ _ hm
  have lt3 : ∀ x ∈ p3, x.block < W.heap.size := by obtain ⟨m, hm⟩ := k3; exact DataW.trod_lt m _ _ _ hm
  have lt4 : ∀ x ∈ p4, x.block < W.heap.size := by obtain ⟨m, hm⟩ := k4; exact DataW.trod_lt m _ _ _ hm
  have lt5 : ∀ x ∈ p5, x.block < W.heap.size := by obtain ⟨m, hm⟩ := k5; exact DataW.trod_lt m _ _ _ hm
  have lt7 : ∀ x ∈ p7, x.block < W.heap.size := by obtain ⟨m, hm⟩ := k7; exact DataW.trod_lt m _ _ _ hm
  obtain ⟨l, rfl, b0, m0⟩ : ∃ l : List UInt8, l.length = len0 ∧ BytesIn W a0 cap0 l ∧ len0 ≤ maxLen := by obtain ⟨n, hn⟩ := h0; exact open_buf hn
  obtain ⟨t, rfl⟩ : ∃ t : Np, cs2 = #[.int .u64 t.1.1, .int .u64 t.1.2] := by
    obtain ⟨n, hn⟩ := h2
    obtain ⟨t, ht⟩ := open_num (by simpa [Value.cells] using hsz2.trans (by kernel_rfl)) hn
    exact ⟨t, by cases cs2; simpa [Value.cells] using ht⟩
  obtain ⟨rs, b3, m3⟩ : ∃ rs, GapsIn W a3 len3 cap3 rs ∧ len3 ≤ maxLen := by obtain ⟨n, hn⟩ := h3; exact open_gaps hn
  obtain ⟨ags, b4, m4⟩ : ∃ rs, GapsIn W a4 len4 cap4 rs ∧ len4 ≤ maxLen := by obtain ⟨n, hn⟩ := h4; exact open_gaps hn
  obtain ⟨ps, b5, m5⟩ : ∃ rs, NumsIn W a5 len5 cap5 rs ∧ len5 ≤ maxLen := by obtain ⟨n, hn⟩ := h5; exact open_nums hn
  have c4 : len4 ≤ cap4 := by obtain ⟨n, hn⟩ := k4; exact gaps_cap hn
  obtain ⟨g, rfl⟩ : ∃ g : Gp, cs7 = #[.int .u64 g.1.1.1, .int .u64 g.1.1.2, .int .u64 g.1.2.1, .int .u64 g.1.2.2] := by
    obtain ⟨n, hn⟩ := h7
    obtain ⟨g, hg⟩ := open_gap (by simpa [Value.cells] using hsz7.trans (by kernel_rfl)) hn
    exact ⟨g, by cases cs7; simpa [Value.cells] using hg⟩
  clear hA0 hval0
  refine (one_walk a0 cap0 l x t a3 len3 cap3 rs a4 len4 cap4 ags a5 len5 cap5 ps n6 g W ⟨b0, b3, b4, b5⟩ m0 w1 m3 m4 m5 c4).mono fun e W' ⟨he, hgr⟩ => ?_
  subst he
  have bel := below_of_grown hgr
  exact ⟨_, rfl, _, _, _, [], _, [], hW', trodAll_mk1 (shut_bool Try.underlying4 _), (trodAll_cons_mk (Below.trod laidOut (by kernel_rfl) (of_decide_eq_true (by kernel_rfl)) k0 bel lt0) (trodAll_cons_mk (shut_string Try.underlying9 w1) (trodAll_cons_mk (Below.trod laidOut (by kernel_rfl) (of_decide_eq_true (by kernel_rfl)) k2 bel lt2) (trodAll_cons_mk (Below.trod laidOut (by kernel_rfl) (of_decide_eq_true (by kernel_rfl)) k3 bel lt3) (trodAll_cons_mk (Below.trod laidOut (by kernel_rfl) (of_decide_eq_true (by kernel_rfl)) k4 bel lt4) (trodAll_cons_mk (Below.trod laidOut (by kernel_rfl) (of_decide_eq_true (by kernel_rfl)) k5 bel lt5) (trodAll_cons_mk (shut_int Try.underlying3 w6) (trodAll_cons_mk (Below.trod laidOut (by kernel_rfl) (of_decide_eq_true (by kernel_rfl)) k7 bel lt7) trodAll_mk0)))))))), rfl, bel.frame _, fun h => by cases h⟩

theorem over : Rows.fnAppendChainChangeOneMoreAddedGapRow.holds Try.pinned (OpenSpec.ofChange Rows.fnAppendChainChangeOneMoreAddedGapSpec) :=
  OpenClaim.holds_of_wide 4 Try.f4 rfl rfl rfl rfl rfl rfl rfl ⟨rfl, rfl, rfl, rfl, rfl⟩ rfl rfl rfl rfl rfl (by kernel_rfl) Try.func4 (by kernel_rfl)
    (of_decide_eq_true (by kernel_rfl)) (by unfold Func.isWrapper; first | (rw [if_pos (by decide +kernel)]; kernel_rfl) | (rw [if_neg (by decide +kernel)]; exact ⟨rfl, rfl⟩))
    (fun os started H enc _ => lifted os started H enc)

/-- THE STATEMENT -/
theorem proved : Rows.FnAppendChainChangeOneMoreAddedGapSaid := over
#print axioms proved
end Go.Proofs.Qxb6618992a.fnAppendChainChangeOneMoreAddedGap
