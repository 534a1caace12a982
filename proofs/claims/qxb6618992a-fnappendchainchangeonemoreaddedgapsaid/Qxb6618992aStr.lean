/-
  'append(buf, name...)' onto a row of the call's own, with where the new slice lies.
-/
import Derived.Test.Qxb6618992aGaps
import Derived.Lib.AppendStr
namespace Go.Proofs.Qxb6618992a.Ch
open Go.RowKit

theorem run_append_str {B : Nat} {w : World} {sv : Value} {l : List UInt8} (hown : Own B w sv l) (s : ByteArray) (hlim : l.length + s.size ≤ 1073741824) (hBw : B ≤ w.heap.size) (ty : TypeId) :
    ∃ v' w', (Builtin.append_ #[22, 9] ty #[sv, .string s]).run Try.prog w = .ok v' w' ∧ Own B w' v' (l ++ s.data.toList) ∧ Step w sv w' v' := by
  obtain ⟨i0, hi, hz0, hz1, hz2⟩ := info_parts Try.info5
  obtain ⟨v', w', hr, h2, h3, h4⟩ := Lib.run_append_own_string (P := Try.prog) w B 22 9 ty 5 i0 Try.underlying22 Try.underlying9 hi hz0 hz1 hz2 sv l.length (Lib.byteCells l) hown s (by unfold maxLen; omega) (by omega) hBw
  refine ⟨v', w', hr, ?_, h3, ?_⟩
  · show World.ownsRow _ _ _ _ _ _ _
    rw [byteCells_append, List.length_append]
    have e : s.data.toList.length = s.size := by rw [Array.length_toList]; rfl
    rw [e]
    exact h2
  · rcases hown.2 with ⟨rfl, h0⟩ | ⟨g, cap, cur, rfl, hbg, hg, hnc, hcm, hcs, htake⟩
    · by_cases hm : s.size = 0
      · rw [h4.2 ⟨rfl, hm⟩]; exact .inl rfl
      · have hr' := run_append_nil_string (P := Try.prog) w 22 9 ty 5 i0 (.int .u8 0) Try.underlying22 Try.underlying9 hi hz0 s (by omega) (by omega) (by rw [hz2]; omega)
        rw [hr] at hr'
        injection hr' with e1 e2
        rw [e1]; exact .inr ⟨_, rfl, Nat.le_refl _⟩
    · have hcs' : cur.size = cap := by simpa using hcs
      by_cases hroom : l.length + s.size ≤ cap
      · have hr' := Lib.run_append_room_string (P := Try.prog) w 22 9 ty 5 i0 Try.underlying22 Try.underlying9 hi hz1 g l.length cap cur hg s hroom (by omega)
        rw [hr] at hr'
        injection hr' with e1 e2
        rw [e1]; exact .inl rfl
      · have hr' := Lib.run_append_grow_string (P := Try.prog) w 22 9 ty 5 i0 (.int .u8 0) Try.underlying22 Try.underlying9 hi hz0 ⟨g, 0, none⟩ l.length cap (Lib.byteCells l) (by rw [hz1, length_byteCells]; omega) (World.ownsRow.cells hown (g := g) rfl) s (by omega) (by omega) (by rw [hz2]; exact growslice_fits (by omega) (by omega))
        rw [hr] at hr'
        injection hr' with e1 e2
        rw [e1]; exact .inr ⟨_, rfl, Nat.le_refl _⟩

theorem wpList_append_str {w : World} {ops : Array Oper} {rest : List Oper} {o : Oper} {a : Act} {Q : Exit → Act → World → Prop} (hgd : o.guard = none) (sl x : Operand)
    (ho : o.op = .call { callee := .builtin .append, args := #[sl, x], argTypes := #[22, 9] }) (B : Nat) (sv : Value) (l : List UInt8) (hs : a.eval sl = sv) (hown : Own B w sv l) (s : ByteArray) (hx : a.eval x = .string s)
    (hlim : l.length + s.size ≤ 1073741824) (hBw : B ≤ w.heap.size)
    (h : ∀ v' w', Own B w' v' (l ++ s.data.toList) → Step w sv w' v' → wpList Try.prog ops Q rest (a.put o.dst v') w') : wpList Try.prog ops Q (o :: rest) a w := by
  refine wpList_plain hgd fun K hK => ?_
  obtain ⟨v', w', hr, h2, h3⟩ := run_append_str hown s hlim hBw o.type
  unfold Oper.wp execOp
  simp only [ho, resolve, invoke, builtin, Sem.run_bind, Sem.run_pure, Result.andThen_ok, List.map_toArray, List.map_cons, List.map_nil, hs, hx, hr]
  exact hK _ _ (h v' w' h2 h3)

end Go.Proofs.Qxb6618992a.Ch
