/-
  'zzc := make([]T, len(xs)); copy(zzc, xs)': the copy over a whole row of the call's own.
-/
import Derived.Laws.CopyOwn
import Derived.Deep.OwnRows
import Derived.WalkKit
namespace Go.Proofs.Qxb6618992a.Ch
open Go.RowKit

/-- a source of n cells, each holding F j: nothing where n = 0. -/
def CSrc (w : World) (a : Option Addr) (n : Nat) (F : Nat → Value) : Prop := n = 0 ∨ ∃ b o, a = some ⟨b, o, none⟩ ∧ ∀ j, j < n → w.cell? ⟨b, o + j, none⟩ = some (F j)

theorem CSrc.kept {w w' : World} {a : Option Addr} {n : Nat} {F : Nat → Value} (h : CSrc w a n F) (hg : w.grownBy w' none) : CSrc w' a n F := by
  rcases h with h | ⟨b, o, e, h⟩
  · exact .inl h
  · exact .inr ⟨b, o, e, fun j hj => hg.cell (h j hj) (by simp)⟩

theorem wpList_copy_full {P : Program} {w : World} {ops : Array Oper} {rest : List Oper} {op : Oper} {a : Act} {Q : Exit → Act → World → Prop} (hgd : op.guard = none) (d s : Operand) (dT : TypeId)
    (ho : op.op = .call { callee := .builtin .copy, args := #[d, s], argTypes := #[dT, dT] }) (elem : TypeId) (hu : P.underlying dT = some (.slice elem)) (hsz : (P.info? elem).map (·.size) = some 1)
    (g n sc : Nat) (sp : Option Addr) (hd : a.eval d = .slice (some ⟨g, 0, none⟩) n n) (hs : a.eval s = .slice sp n sc) (t : TypeId) (f F : Nat → Value) (hrow : w.rowIs g t n f) (hsrc : CSrc w sp n F) (h1 : ∀ j, j < n → (F j).oneCell' = true)
    (h : ∀ w', w'.rowIs g t n F → w.grownBy w' (some g) → wpList P ops Q rest (a.put op.dst (goInt n)) w') : wpList P ops Q (op :: rest) a w := by
  obtain ⟨c, hb, hn, hc⟩ := hrow
  by_cases h0 : n = 0
  · subst h0
    refine wpList_copy_nothing hgd d s dT dT ho elem hu hsz _ _ _ _ _ _ hd hs (by simp) ?_
    exact h w ⟨c, hb, hn, fun i hi => absurd hi (by omega)⟩ ⟨rfl, rfl, rfl, Nat.le_refl _, fun _ _ _ => rfl⟩
  · obtain ⟨b, o, rfl, hcs⟩ := hsrc.resolve_left h0
    refine wpList_copy_own hgd d s dT dT ho elem hu hsz g 0 n n ⟨b, o, none⟩ n sc hd hs c t hb ((List.range n).map F) (by simp) ?_ (by simp; omega) ?_ ?_
    · intro j v hj
      have hjn : j < n := by have := (List.getElem?_eq_some_iff.1 hj).1; simpa using this
      rw [WideShapes.add_plain, hcs j hjn]
      simpa [hjn] using hj
    · intro v hv
      obtain ⟨j, hj, rfl⟩ := List.mem_map.1 hv
      exact h1 j (by simpa using hj)
    · have e : ((List.map F (List.range n)).length : Int) = n := by simp
      have e2 : (List.take 0 c.toList ++ (List.map F (List.range n) ++ List.drop (0 + (List.map F (List.range n)).length) c.toList)).toArray = (List.map F (List.range n)).toArray := by
        simp [hn]
      have hh := h (w.setRow g (List.map F (List.range n)).toArray) ⟨_, setRow_heap w g _ _ t _ hb, by simp, fun i hi => by simp [hi]⟩ ⟨rfl, rfl, rfl, by simp [World.setRow], fun k _ hk => setRow_other w g k _ (fun e => hk (by rw [e]))⟩
      rw [e2]
      simpa using hh

/-- a mark: it fits where a copy stands next, and changes nothing. -/
theorem at_copy {P : Program} {w : World} {ops : Array Oper} {rest : List Oper} {dst : Option Tmp} {ty : TypeId} {pos : String} {aft : Array Edge} {d s : Operand} {dT sT : TypeId} {a : Act} {Q : Exit → Act → World → Prop}
    (h : wpList P ops Q ({ dst := dst, op := .call { callee := .builtin .copy, args := #[d, s], argTypes := #[dT, sT] }, type := ty, pos := pos, after := aft, guard := none } :: rest) a w) :
    wpList P ops Q ({ dst := dst, op := .call { callee := .builtin .copy, args := #[d, s], argTypes := #[dT, sT] }, type := ty, pos := pos, after := aft, guard := none } :: rest) a w := h

end Go.Proofs.Qxb6618992a.Ch
