/-
  checkEntries.
-/
import Derived.Test.Qxb6616790aDoorReads
import Derived.Test.Qxb6616790aDoorShelf
import Derived.OwnWalk
import Derived.Laws.AppendOwn
import Derived.Below
namespace Go.Proofs.Qxb6616790aDoor.Ce
open Go.RowKit

theorem Tryd.info9 : (Tryd.prog.info? 9).map (fun i => (i.zero, i.size, i.bytes)) = some (some (.string ByteArray.empty), 1, 16) := by kernel_rfl

/-- the slice at a holds the strings ss, each in an interface. -/
def Anys (w : World) (a : Option Addr) (ss : List ByteArray) : Prop :=
  ss.length = 0 ∨ ∃ b o, a = some ⟨b, o, none⟩ ∧ ∀ j, j < ss.length → w.cell? ⟨b, o + j, none⟩ = some (.iface 9 (.string (ss.getD j ByteArray.empty)))
/-- errMissing as it is laid. -/
def Miss (w : World) (p : Addr) : Prop := w.cell? ⟨0, 0, none⟩ = some (.iface 38 (.pointer (some p))) ∧ w.cell? p = some (.string missing)
theorem Miss.kept {w w' : World} {p : Addr} (h : Miss w p) (hg : w.grownBy w' none) : Miss w' p := ⟨hg.cell h.1 (by simp), hg.cell h.2 (by simp)⟩
/-- what comes back. -/
def ErrIs (w : World) (v : Value) (fail : Bool) (text : ByteArray) : Prop :=
  (fail = false ∧ v = .nilIface ∧ text = ⟨#[]⟩) ∨ (fail = true ∧ ∃ p : Addr, v = .iface 38 (.pointer (some p)) ∧ w.cell? p = some (.string text))

theorem grown_of_below {w w' : World} (h : Below w.heap.size w w') : w.grownBy w' none := ⟨h.os, h.tape, h.output, h.size, fun i hi _ => h.block i hi⟩
theorem grown_own {w w3 w4 : World} {r : Option Nat} (h : w.grownBy w3 none) (h' : w3.grownBy w4 r) (hb : ∀ b, r = some b → w.heap.size ≤ b) : w.grownBy w4 none :=
  ⟨h'.os.trans h.os, h'.tape.trans h.tape, h'.output.trans h.output, Nat.le_trans h.size h'.size, fun k hk _ => (h'.block k (Nat.lt_of_lt_of_le hk h.size) (by intro e; have := hb k e.symm; omega)).trans (h.block k hk (by simp))⟩

theorem total_le : ∀ (ss : List ByteArray) (m : Nat), Szs ss m → total ss ≤ m * ss.length
  | [], m, _ => by simp [total]
  | s :: ss, m, h => by
    have h0 := h 0 (by simp)
    have h1 := total_le ss m (fun j hj => by have := h (j + 1) (by simp; omega); simpa using this)
    simp at h0
    rw [total_cons, List.length_cons, Nat.mul_add]
    omega

theorem own_from {w : World} {B : Nat} {e : TypeId} {sz n : Nat} {v : Value} {xs : List Value} (h : w.ownsRow B e sz v n xs) {b : Nat} (hb : v.ownBlock = some b) : B ≤ b := by
  rcases h.2 with ⟨rfl, _⟩ | ⟨g, cap, cur, rfl, hg, _⟩
  · simp [Value.ownBlock] at hb
  · simp [Value.ownBlock] at hb
    omega
def strCells (rs : List ByteArray) : List Value := rs.map .string
theorem strCells_append (xs : List ByteArray) (s : ByteArray) : strCells xs ++ [.string s] = strCells (xs ++ [s]) := by simp [strCells]
theorem strCells_length (xs : List ByteArray) : (strCells xs).length = xs.length := by simp [strCells]

/-- the reasons among the first k. -/
def Rs (B : Nat) (wr : World) (v : Value) (rs : List ByteArray) : Prop := wr.ownsRow B 9 1 v rs.length (strCells rs)

theorem reasons_take (ss : List ByteArray) (k : Nat) (hk : k < ss.length) : reasons (ss.take (k + 1)) = if 0 < (ss.getD k ByteArray.empty).size then reasons (ss.take k) ++ [ss.getD k ByteArray.empty] else reasons (ss.take k) := by
  rw [List.take_succ_eq_append_getElem hk, reasons_append]
  simp only [List.getD_eq_getElem?_getD, List.getElem?_eq_getElem hk, Option.getD_some]
  split
  · simp [reasons, *]
  · simp [reasons, *]

theorem assert28 (v : Value) (w : World) : (Instr.typeAssert (.iface 28 v) 20 28 true).run Tryd.prog w = .ok (.tuple #[v, .bool true]) w := by kernel_rfl

set_option maxRecDepth 100000 in
theorem check_none (a : Option Addr) (c : Nat) (p : Addr) (w : World) (hM : Miss w p) :
    Calls Tryd.prog 8 #[.iface 28 (.slice a 0 c), .func (.func 9) #[] #[]] w fun e w' => (∃ v, e = .returned v ∧ ErrIs w' v true missing) ∧ w' = w := by
  have hta := assert28
  have hm := hM.1
  go_enter Tryd.func8, Tryd.ntmps8
  go_wp2
  go_ret
  exact ⟨⟨_, rfl, Or.inr ⟨rfl, p, rfl, hM.2⟩⟩, rfl⟩

set_option maxRecDepth 100000 in
set_option maxHeartbeats 2000000 in
theorem check_some (b o c : Nat) (ss : List ByteArray) (w : World) (hpos : 0 < ss.length) (hl : ss.length ≤ 131072) (hS : Szs ss 1048576)
    (hA : ∀ j, j < ss.length → w.cell? ⟨b, o + j, none⟩ = some (.iface 9 (.string (ss.getD j ByteArray.empty)))) :
    Calls Tryd.prog 8 #[.iface 28 (.slice (some ⟨b, o, none⟩) ss.length c), .func (.func 9) #[] #[]] w fun e w' => (∃ v, e = .returned v ∧ ErrIs w' v (someText ss) (joined (reasons ss))) ∧ w.grownBy w' none := by
  have hta := assert28
  have HA := hide hA
  have HS := hide hS
  clear hA hS
  obtain ⟨n, hn⟩ : ∃ n, n = ss.length := ⟨_, rfl⟩
  have HN := hide hn
  rw [← hn]
  rw [← hn] at hl hpos
  clear hn
  obtain ⟨i0, hi, hz0, hz1, hz2⟩ := info_parts Tryd.info9
  have hn0 : ((n : Int) == 0) = false := by simp; omega
  go_enter Tryd.func8, Tryd.ntmps8
  go_wp2_with fail
  go_loopw [7, 26] (fun rv iv wr => ∃ k : Nat, k ≤ n ∧ iv = .int .i64 k ∧ Hid (Rs w.heap.size wr rv (reasons (ss.take k))) ∧ Hid (w.grownBy wr none)) (fun _ iv _ => n - (intOf iv).toNat)
  case atStart => exact ⟨0, Nat.zero_le _, rfl, World.ownsRow_nil _ _ _ _, grown_refl _⟩
  case round =>
    obtain ⟨k, hk', rfl, HR, HG⟩ := hrel
    by_cases hlt : k < n
    · obtain ⟨s, hs⟩ : ∃ s, s = ss.getD k ByteArray.empty := ⟨_, rfl⟩
      have hcs : wr.cell? ⟨b, o + k, none⟩ = some (.iface 9 (.string s)) := by rw [hs]; exact HG.out.cell (HA.out k (by have := HN.out; omega)) (by simp)
      have hT := reasons_take ss k (by have := HN.out; omega)
      rw [← hs] at hT
      have HT := hide hT
      clear hs hT
      go_wp2_with fail
      refine (reason_any _ s wr).mono ?_
      rintro e w1 ⟨rfl, rfl⟩
      cases he : s.toList.isEmpty
      · have hT2 := HT.out
        rw [if_pos (by simpa using pos_of he)] at hT2
        have HT2 := hide hT2
        have hlen := (total_reasons (ss.take k)).2
        have HLn : Hid ((reasons (ss.take k)).length ≤ 131072) := by have := HN.out; simp at hlen; show _ ≤ _; omega
        have HB : Hid (w.heap.size ≤ w1.heap.size) := HG.out.size
        clear hT2 HT hlen
        have h1 : ∀ j u, [Value.string s][j]? = some u → (w1.alloc (.cells #[.string s] 9)).cell? ((⟨w1.heap.size, 0, none⟩ : Addr).add j) = some u := by
          intro j u hu
          match j, hu with
          | 0, hu => simp at hu; subst hu; simp [Addr.add]
        have h2 : ∀ u ∈ [Value.string s], u.oneCell' = true := by intro u hu; simp at hu; subst hu; rfl
        have h3 : (reasons (ss.take k)).length + 1 ≤ maxLen := by have := HLn.out; unfold maxLen; omega
        have h4 : ((reasons (ss.take k)).length + 1) * 16 ≤ 140737488355328 := by have := HLn.out; omega
        have h5 : w.heap.size ≤ (w1.alloc (.cells #[.string s] 9)).heap.size := by have := HB.out; simp; omega
        have H1 := hide h1
        have H2 := hide h2
        have H3 := hide h3
        have H4 := hide h4
        have H5 := hide h5
        clear h1 h2 h3 h4 h5
        go_wp2_with (at_builtin; refine wpList_append_own _ rfl _ _ 22 rfl w.heap.size 9 i0 (.string ByteArray.empty) 1 16 Tryd.underlying22 hi hz0 hz1 hz2 rfl (by decide) u7 _ _ rfl (World.ownsRow.alloc HR.out _) _ 1 1 [.string s] rfl rfl H1.out H2.out H3.out H4.out H5.out ?_; intro v' w2 ho2 hg2 hv2)
        go_roundw
        case rel =>
          refine ⟨k + 1, by omega, by go_num, ?_, ?_⟩
          · show Rs _ _ _ _
            rw [HT2.out]
            unfold Rs
            rw [← strCells_append, List.length_append]
            exact ho2
          · refine grown_own (HG.out.trans (World.grownBy_alloc _ _ _)) hg2 (fun bb e => ?_)
            exact own_from HR.out e
        case measure => simp [intOf]; omega
      · have hT2 := HT.out
        rw [if_neg (by have := pos_of he; simpa using this)] at hT2
        have HT2 := hide hT2
        clear hT2 HT
        go_wp2_with fail
        go_roundw
        case rel => exact ⟨k + 1, by omega, by go_num, by show Rs _ _ _ _; rw [HT2.out]; exact HR.out, HG.out⟩
        case measure => simp [intOf]; omega
    · have hkn : k = n := by omega
      subst hkn
      have hR := HR.out
      rw [List.take_of_length_le (by have := HN.out; omega)] at hR
      have hst := someText_eq ss
      have hcl := fun g => World.ownsRow.cells hR (g := g)
      have hlen := total_reasons ss
      have htot := total_le ss _ HS.out
      have hjs := joined_size_le (reasons ss)
      rcases hR.2 with ⟨rfl, h0⟩ | ⟨g, cap, cur, rfl, hgb, hblk, hn, _⟩
      · have hre : reasons ss = [] := List.length_eq_zero_iff.1 h0
        rw [hre] at hst
        have HST := hide hst
        clear hst hcl hR hlen htot hjs
        go_wp2_with fail
        go_ret
        exact ⟨⟨_, rfl, Or.inl ⟨HST.out, rfl, by rw [hre]; rfl⟩⟩, HG.out⟩
      · by_cases hz : (reasons ss).length = 0
        · have hre : reasons ss = [] := List.length_eq_zero_iff.1 hz
          rw [hre] at hst
          have HST := hide hst
          have hlen0 : ((reasons ss).length : Int) = 0 := by omega
          clear hst hcl hR hlen htot hjs
          go_wp2_with fail
          go_ret
          exact ⟨⟨_, rfl, Or.inl ⟨HST.out, rfl, by rw [hre]; rfl⟩⟩, HG.out⟩
        · have hst2 : someText ss = true := by
            rw [hst]
            cases hr : reasons ss
            · rw [hr] at hz; simp at hz
            · rfl
          have HST := hide hst2
          have hb : g < wr.heap.size := (Array.getElem?_eq_some_iff.1 hblk).1
          have hjl : (Lib.join ((reasons ss).map (·.data.toList)) sepB.data.toList).length ≤ 140737488355328 := by
            have e : (joined (reasons ss)).size = (Lib.join ((reasons ss).map (·.data.toList)) sepB.data.toList).length := by
              show (Lib.join ((reasons ss).map (·.data.toList)) sepB.data.toList).toArray.size = _
              simp
            have := HN.out
            omega
          have HJ := hide (Tryd.strings_Join g 0 cap (reasons ss) sepB wr (fun j x hx => by
            have := hcl g rfl j (.string x) (by simp [strCells, hx])
            rw [WideShapes.add_plain] at this
            exact this) hb (by have := HN.out; omega) hn hjl)
          have hlr : (reasons ss).length ≤ 131072 := by have := HN.out; omega
          clear hst hst2 hcl hR hlen htot hjs hjl hb hblk
          obtain ⟨m, hm⟩ : ∃ m, m = (reasons ss).length := ⟨_, rfl⟩
          rw [← hm] at HJ hlr hz hn ⊢
          have hm0 : 0 < m := by omega
          clear hm HR
          go_wp2_with fail
          refine HJ.out.mono ?_
          rintro e w2 ⟨rfl, hb2⟩
          go_wp2_with fail
          refine (new_any _ _).mono ?_
          rintro e w3 ⟨rfl, rfl⟩
          go_wp2_with fail
          go_ret
          exact ⟨⟨_, rfl, Or.inr ⟨HST.out, _, rfl, by simp [joined]⟩⟩, (HG.out.trans (grown_of_below hb2)).trans (World.grownBy_alloc _ _ _)⟩

theorem check_any (a : Option Addr) (c : Nat) (p : Addr) (ss : List ByteArray) (w : World) (hl : ss.length ≤ 131072) (hS : Szs ss 1048576) (hA : Anys w a ss) (hM : Miss w p) :
    Calls Tryd.prog 8 #[.iface 28 (.slice a ss.length c), .func (.func 9) #[] #[]] w fun e w' => (∃ v, e = .returned v ∧ ErrIs w' v (failOf ss) (textOf ss)) ∧ w.grownBy w' none := by
  by_cases h0 : ss.length = 0
  · have : ss = [] := List.length_eq_zero_iff.1 h0
    subst this
    refine (check_none a c p w hM).mono ?_
    rintro e w' ⟨h1, rfl⟩
    exact ⟨h1, grown_refl _⟩
  · obtain ⟨b, o, rfl, h⟩ := hA.resolve_left h0
    have he : ss.isEmpty = false := by cases ss <;> simp_all
    unfold failOf textOf
    rw [he]
    exact check_some b o c ss w (by omega) hl hS h
end Go.Proofs.Qxb6616790aDoor.Ce
