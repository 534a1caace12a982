/-
  The two outputs of FnAppendChainChangeOneMoreAddedGap, and what the law's reads of them give.
-/
import Derived.Test.Qxb6618992aLaw3
import Derived.Test.Qxb6618992aMore
namespace Go.Proofs.Qxb6618992a.Ch
open Go.RowKit

structure Outs (w W : World) (g1 g2 hb : Nat) (L1 L2 : List UInt8) (g : Gp) : Prop where
  c1 : CellsAt W g1 0 L1
  c2 : CellsAt W g2 0 L2
  gr : w.grownBy W none
  y0 : W.cell? ⟨hb, 0, none⟩ = some (.int .u64 g.1.1.1)
  y1 : W.cell? ⟨hb, 1, none⟩ = some (.int .u64 g.1.1.2)
  y2 : W.cell? ⟨hb, 2, none⟩ = some (.int .u64 g.1.2.1)
  y3 : W.cell? ⟨hb, 3, none⟩ = some (.int .u64 g.1.2.2)

theorem Outs.drewN {w W : World} {g1 g2 hb : Nat} {L1 L2 : List UInt8} {g : Gp} (h : Outs w W g1 g2 hb L1 L2 g) (n : Nat) : Outs w (W.drewN n) g1 g2 hb L1 L2 g :=
  ⟨h.c1.drewN n, h.c2.drewN n, h.gr.trans ⟨rfl, rfl, rfl, Nat.le_refl _, fun _ _ _ => rfl⟩, h.y0, h.y1, h.y2, h.y3⟩

/-- the same bytes M, at A1 in the one and at A2 in the other. -/
theorem Outs.eq {w W : World} {g1 g2 hb : Nat} {L1 L2 : List UInt8} {g : Gp} (h : Outs w W g1 g2 hb L1 L2 g) (A1 A2 M Z1 Z2 : List UInt8) (e1 : L1 = A1 ++ (M ++ Z1)) (e2 : L2 = A2 ++ (M ++ Z2)) (hM : M.length ≤ 1073741824)
    (o1 n1 d1 o2 n2 d2 q : Nat) (ho1 : o1 = A1.length) (hn1 : n1 = M.length) (ho2 : o2 = A2.length) (hn2 : n2 = M.length) :
    Calls Try.prog 11 #[.slice (some ⟨g1, o1, none⟩) n1 d1, .slice (some ⟨g2, o2, none⟩) n2 d2] (W.drewN q) fun e w' => e = .returned (.bool true) ∧ ∃ m, w' = (W.drewN q).drewN m := by
  subst ho1 ho2
  refine bytesEq_all _ _ n1 n2 d1 d2 M (W.drewN q) hM hn1 hn2 (Or.inr ⟨g1, _, rfl, ?_⟩) (Or.inr ⟨g2, _, rfl, ?_⟩)
  · have := (h.c1.drewN q).sub A1 M Z1 e1
    rwa [Nat.zero_add] at this
  · have := (h.c2.drewN q).sub A2 M Z2 e2
    rwa [Nat.zero_add] at this
theorem Outs.be {w W : World} {g1 g2 hb : Nat} {L1 L2 : List UInt8} {g : Gp} (h : Outs w W g1 g2 hb L1 L2 g) (A Z : List UInt8) (x : Nat) (e : L2 = A ++ (be8 x ++ Z)) (n c : Nat) (hn : n = L2.length) (hb : n ≤ 1073741824) (hx : x < 18446744073709551616) (i : Int) (q : Nat) (hi : i = (A.length : Int)) :
    Calls Try.prog 13 #[.slice (some ⟨g2, 0, none⟩) n c, .int .i64 i] (W.drewN q) fun e w' => e = .returned (.int .u64 x) ∧ w' = W.drewN q :=
  be64_row g2 n c L2 A Z x i _ hb hn (h.c2.drewN q) e hi hx

end Go.Proofs.Qxb6618992a.Ch
