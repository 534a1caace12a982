/-
  From the readings of the arguments to what the walks are told.
-/
import Derived.Test.Qxb6618992aLaw3
import Derived.ProofKit
import Derived.OpenShut
import Derived.ChangeSame
import Derived.Deep.Slices
import Derived.Deep.SlicePairs
import Derived.Lib.SmallJoins
namespace Go.Proofs.Qxb6618992a.Ch
open Go.ChangeShapes Go.WideShapes Go.ChangeAt Go.RowKit Go.Deep

theorem below_of_grown {w w' : World} (h : w.grownBy w' none) : Below w.heap.size w w' := ⟨h.os, h.tape, h.output, h.size, fun k hk => h.block k hk (by simp)⟩

theorem wf_u64 {n : Int} (h : (Lit.int .u64 n).wf = true) : ∃ m : Nat, n = (m : Int) ∧ m < 18446744073709551616 := by
  simp [Lit.wf] at h
  have e1 : IntKind.u64.min = 0 := by decide
  have e2 : IntKind.u64.max = 18446744073709551615 := by decide
  exact ⟨n.toNat, by omega, by omega⟩
theorem wf_u8 {n : Int} (h : (Lit.int .u8 n).wf = true) : n = ((n.toNat.toUInt8).toNat : Int) := by
  simp [Lit.wf] at h
  have e1 : IntKind.u8.min = 0 := by decide
  have e2 : IntKind.u8.max = 255 := by decide
  simp [Nat.toUInt8]
  omega

section
variable {H : Type} {enc : TypeId × Value → H} {w : World} {base : Nat} {spare : Nat → Bool} {held : Bool}

theorem open_buf {fuel : Nat} {a : Option Addr} {len cap : Nat} {x : DataW H × List MemPlace} (h : DataW.trod enc Try.prog w base spare held fuel 22 [.slice a len cap] = some x) :
    ∃ l : List UInt8, l.length = len ∧ BytesIn w a cap l ∧ len ≤ maxLen := by
  rcases open_ints Try.underlying22 Try.underlying5 (by kernel_rfl) h with ⟨hcs, _⟩ | ⟨x, l, c, zs, hcs, _, hl, hm, hz, _, hcell, hwz⟩
  · simp at hcs
    obtain ⟨rfl, rfl, rfl⟩ := hcs
    exact ⟨[], rfl, ⟨fun _ => ⟨rfl, rfl⟩, Or.inl rfl⟩, Nat.zero_le _⟩
  · simp at hcs
    obtain ⟨rfl, rfl, rfl⟩ := hcs
    have hlz : len ≤ zs.length := by rw [hz]; split <;> omega
    have hl1 : ((zs.take len).map fun z => z.toNat.toUInt8).length = len := by simp; omega
    refine ⟨(zs.take len).map fun z => z.toNat.toUInt8, hl1, ⟨fun e => (by cases e), ?_⟩, by omega⟩
    by_cases h0 : len = 0
    · exact Or.inl (hl1.trans h0)
    right
    obtain ⟨b, off, spot⟩ := x
    have hspot : spot = none := by simpa [Addr.add] using World.cell?_spot (hcell 0 (by omega))
    subst hspot
    refine ⟨b, off, rfl, fun j hj => ?_⟩
    rw [hl1] at hj
    have hc := hcell j (by omega)
    rw [add_plain] at hc
    rw [hc]
    have hg : zs.getD j 0 = zs[j]'(by omega) := by simp [List.getD_eq_getElem?_getD, List.getElem?_eq_getElem (show j < zs.length by omega)]
    have hw := wf_u8 (hwz _ (List.getElem_mem (show j < zs.length by omega)))
    have hx : ((zs.take len).map fun z => z.toNat.toUInt8).getD j 0 = (zs[j]'(by omega)).toNat.toUInt8 := by
      simp [List.getD_eq_getElem?_getD, hj, List.getElem?_eq_getElem (show j < zs.length by omega)]
    rw [hg, hx, ← hw]

theorem open_num {fuel : Nat} {cs : List Value} {x : DataW H × List MemPlace} (hl : cs.length = 2) (h : DataW.trod enc Try.prog w base spare held fuel 25 cs = some x) :
    ∃ t : Np, cs = [.int .u64 t.1.1, .int .u64 t.1.2] := by
  obtain ⟨y0, y1, n, _, _, h0, h1⟩ := trod_struct2 Try.underlying25 h
  have hc : Try.prog.cellsOf 23 = 1 := by kernel_rfl
  match cs, hl with
  | [c0, c1], _ =>
    simp [hc] at h0 h1
    obtain ⟨m0, e0, _, w0⟩ := DataW.trod_int Try.underlying23 h0
    obtain ⟨m1, e1, _, w1⟩ := DataW.trod_int Try.underlying23 h1
    obtain ⟨k0, rfl, l0⟩ := wf_u64 w0
    obtain ⟨k1, rfl, l1⟩ := wf_u64 w1
    simp at e0 e1
    exact ⟨⟨(k0, k1), l0, l1⟩, by simp [e0, e1]⟩

theorem open_gap {fuel : Nat} {cs : List Value} {x : DataW H × List MemPlace} (hl : cs.length = 4) (h : DataW.trod enc Try.prog w base spare held fuel 42 cs = some x) :
    ∃ g : Gp, cs = [.int .u64 g.1.1.1, .int .u64 g.1.1.2, .int .u64 g.1.2.1, .int .u64 g.1.2.2] := by
  obtain ⟨y0, y1, n, _, _, h0, h1⟩ := trod_struct2 Try.underlying42 h
  have hc : Try.prog.cellsOf 25 = 2 := by kernel_rfl
  match cs, hl with
  | [c0, c1, c2, c3], _ =>
    simp [hc] at h0 h1
    obtain ⟨t0, e0⟩ := open_num rfl h0
    obtain ⟨t1, e1⟩ := open_num rfl h1
    simp at e0 e1
    exact ⟨⟨(t0.1, t1.1), t0.2, t1.2⟩, by simp [e0, e1]⟩

instance : Inhabited Gp := ⟨⟨((0, 0), (0, 0)), by decide⟩⟩
instance : Inhabited Np := ⟨⟨(0, 0), by decide⟩⟩

theorem open_gaps {fuel : Nat} {a : Option Addr} {len cap : Nat} {x : DataW H × List MemPlace} (h : DataW.trod enc Try.prog w base spare held fuel 26 [.slice a len cap] = some x) :
    ∃ gs : Nat → Gp, GapsIn w a len cap gs ∧ len ≤ maxLen := by
  have hc : Try.prog.cellsOf 42 = 4 := by kernel_rfl
  rcases open_slice Try.underlying26 h with ⟨hcs, _⟩ | ⟨x, l, c, m, n, D, Pl, hcs, _, hl, hm, hmm, _, hx⟩
  · simp at hcs
    obtain ⟨rfl, rfl, rfl⟩ := hcs
    exact ⟨fun _ => default, ⟨fun _ => ⟨rfl, rfl⟩, Or.inl rfl⟩, Nat.zero_le _⟩
  · simp at hcs
    obtain ⟨rfl, rfl, rfl⟩ := hcs
    have hlm : len ≤ m := by rw [hmm]; split <;> omega
    have each : ∀ i, i < len → ∃ g : Gp, w.cell? (x.add (i * 4)) = some (.int .u64 g.1.1.1) ∧ w.cell? (x.add (i * 4 + 1)) = some (.int .u64 g.1.1.2) ∧
        w.cell? (x.add (i * 4 + 2)) = some (.int .u64 g.1.2.1) ∧ w.cell? (x.add (i * 4 + 3)) = some (.int .u64 g.1.2.2) := by
      intro i hi
      obtain ⟨cs', h1, h2⟩ := hx i (by omega)
      rw [hc] at h1
      obtain ⟨_, hlen, hcell⟩ := World.cells?_some h1
      obtain ⟨g, rfl⟩ := open_gap hlen h2
      have e0 := hcell 0 (by omega)
      have e1 := hcell 1 (by omega)
      have e2 := hcell 2 (by omega)
      have e3 := hcell 3 (by omega)
      rw [add_add] at e0 e1 e2 e3
      exact ⟨g, by simpa using e0, by simpa using e1, by simpa using e2, by simpa using e3⟩
    obtain ⟨gs, hgs⟩ := choose_lt each
    refine ⟨gs, ⟨fun e => (by cases e), ?_⟩, by omega⟩
    by_cases h0 : len = 0
    · exact Or.inl h0
    right
    obtain ⟨b, off, spot⟩ := x
    have hspot : spot = none := by simpa [Addr.add] using World.cell?_spot (hgs 0 (by omega)).1
    subst hspot
    refine ⟨b, off, rfl, fun j hj => ?_⟩
    have := hgs j hj
    simpa only [add_plain, ← Nat.add_assoc] using this

theorem open_nums {fuel : Nat} {a : Option Addr} {len cap : Nat} {x : DataW H × List MemPlace} (h : DataW.trod enc Try.prog w base spare held fuel 27 [.slice a len cap] = some x) :
    ∃ ps : Nat → Np, NumsIn w a len cap ps ∧ len ≤ maxLen := by
  have hc : Try.prog.cellsOf 25 = 2 := by kernel_rfl
  rcases open_slice Try.underlying27 h with ⟨hcs, _⟩ | ⟨x, l, c, m, n, D, Pl, hcs, _, hl, hm, hmm, _, hx⟩
  · simp at hcs
    obtain ⟨rfl, rfl, rfl⟩ := hcs
    exact ⟨fun _ => default, ⟨fun _ => ⟨rfl, rfl⟩, Or.inl rfl⟩, Nat.zero_le _⟩
  · simp at hcs
    obtain ⟨rfl, rfl, rfl⟩ := hcs
    have hlm : len ≤ m := by rw [hmm]; split <;> omega
    have each : ∀ i, i < len → ∃ g : Np, w.cell? (x.add (i * 2)) = some (.int .u64 g.1.1) ∧ w.cell? (x.add (i * 2 + 1)) = some (.int .u64 g.1.2) := by
      intro i hi
      obtain ⟨cs', h1, h2⟩ := hx i (by omega)
      rw [hc] at h1
      obtain ⟨_, hlen, hcell⟩ := World.cells?_some h1
      obtain ⟨g, rfl⟩ := open_num hlen h2
      have e0 := hcell 0 (by omega)
      have e1 := hcell 1 (by omega)
      rw [add_add] at e0 e1
      exact ⟨g, by simpa using e0, by simpa using e1⟩
    obtain ⟨ps, hps⟩ := choose_lt each
    refine ⟨ps, ⟨fun e => (by cases e), ?_⟩, by omega⟩
    by_cases h0 : len = 0
    · exact Or.inl h0
    right
    obtain ⟨b, off, spot⟩ := x
    have hspot : spot = none := by simpa [Addr.add] using World.cell?_spot (hps 0 (by omega)).1
    subst hspot
    refine ⟨b, off, rfl, fun j hj => ?_⟩
    have := hps j hj
    exact ⟨by simpa only [add_plain, ← Nat.add_assoc] using this.1, by simpa only [add_plain, ← Nat.add_assoc] using this.2, (ps j).2.1, (ps j).2.2⟩
end

end Go.Proofs.Qxb6618992a.Ch
