/-
  The dict in memory, and the walks of Dict.Set, ZZSetInt, ZZEntry.
-/
import Derived.Test.Qxb6618885aProg
import Derived.Test.Qxb6618885aDictPlain
import Derived.WalkKit
import Derived.Maps.OwnSet
import Derived.WalkSpells
import Derived.Deep.OwnRows
namespace Go.Proofs.Qxb6618885a.Dc
open Go.RowKit Go.Maps
open Go.WideMaps (keyOf_string_mk)

theorem law : Keyed Try.prog 9 := string_keyed Try.underlying9
theorem zeroE (w : World) : (zeroValue 40).run Try.prog w = .ok (.agg #[.int .i64 0, .nilIface]) w := by kernel_rfl

/-- how an entry reads. -/
def ent (v : Value) : Option (DataW Unit × List MemPlace) :=
  match v with
  | .agg cs => match cs.toList with
    | [.int .i64 a, .iface 3 (.int .i64 x)] => some (.agg [.lit (.int .i64 a), .lit (.int .i64 x)], [])
    | [.int .i64 0, .nilIface] => some (.agg [], [])
    | _ => none
  | _ => none

theorem ent_mk (a x : Int) : ent (.agg #[.int .i64 a, .iface 3 (.int .i64 x)]) = some (.agg [.lit (.int .i64 a), .lit (.int .i64 x)], []) := by simp [ent]
theorem ent_zero : ent (.agg #[.int .i64 0, .nilIface]) = some (.agg [], []) := by simp [ent]
theorem ent_inv {v : Value} {a x : Int} {ps : List MemPlace} (h : ent v = some (.agg [.lit (.int .i64 a), .lit (.int .i64 x)], ps)) : v = .agg #[.int .i64 a, .iface 3 (.int .i64 x)] := by
  unfold ent at h
  split at h
  · rename_i cs
    split at h
    · rename_i a' x' he
      simp at h
      obtain ⟨⟨rfl, rfl⟩, _⟩ := h
      obtain ⟨l⟩ := cs
      simp at he
      rw [he]
    · simp at h
    · cases h
  · cases h
theorem ent_inv0 {v : Value} {ps : List MemPlace} (h : ent v = some (.agg [], ps)) : v = .agg #[.int .i64 0, .nilIface] := by
  unfold ent at h
  split at h
  · rename_i cs
    split at h
    · simp at h
    · rename_i he
      obtain ⟨l⟩ := cs
      simp at he
      rw [he]
    · cases h
  · cases h

/-- block b of w is a dict: its keys ks in their order, f the values. -/
def Rep (w : World) (b n : Nat) (ks : List (List UInt8)) (f : List UInt8 → Int) : Prop :=
  ∃ D : DataW Unit, w.ownsMap Try.prog 9 ent b n D ∧ Maps.size D = ks.length ∧
    ∀ k, Maps.has D (.string k) = decide (k ∈ ks) ∧ (k ∈ ks → D.atKey (.string k) (.agg []) = .agg [.lit (.int .i64 (place ks k)), .lit (.int .i64 (f k))])

variable {w : World} {b n : Nat} {ks : List (List UInt8)} {f : List UInt8 → Int}

theorem Rep.made (w : World) : Rep (w.alloc (.map #[] 0)) w.heap.size 0 [] (fun _ => 0) :=
  ⟨.map [], World.ownsMap_made _ _ _ _, rfl, fun k => ⟨by simp [Maps.has_eq], by simp⟩⟩
theorem Rep.kept {w' : World} {row : Option Nat} (h : Rep w b n ks f) (hg : w.grownBy w' row) (hne : some b ≠ row) : Rep w' b n ks f := by
  obtain ⟨D, h1, h2⟩ := h
  exact ⟨D, h1.kept hg hne, h2⟩
theorem Rep.alloc (h : Rep w b n ks f) (o : Obj) : Rep (w.alloc o) b n ks f := h.kept (World.grownBy_alloc w o none) (by simp)
theorem Rep.lt (h : Rep w b n ks f) : b < w.heap.size := by obtain ⟨D, h1, _⟩ := h; exact h1.lt
theorem Rep.len_le (h : Rep w b n ks f) : ks.length ≤ n := by obtain ⟨D, h1, h2, _⟩ := h; rw [← h2]; exact h1.size_le
theorem Rep.mono {n' : Nat} (h : Rep w b n ks f) (hn : n ≤ n') : Rep w b n' ks f := by
  obtain ⟨D, h1, h2⟩ := h
  exact ⟨D, h1.mono hn, h2⟩

theorem Rep.look_in (h : Rep w b n ks f) {s : ByteArray} (hs : s.size ≤ maxLen) (hk : s.data.toList ∈ ks) :
    (Instr.lookup 28 (.map (some b)) (.string s) true).run Try.prog w = .ok (.tuple #[.agg #[.int .i64 (place ks s.data.toList), .iface 3 (.int .i64 (f s.data.toList))], .bool true]) w := by
  obtain ⟨D, h1, h2, h3⟩ := h
  obtain ⟨v, ps, hrun, hv⟩ := h1.look_ok law Try.underlying28 (zeroE w) ent_zero (keyOf_string_mk Try.underlying9 hs)
  rw [(h3 _).2 hk] at hv
  rw [hrun, ent_inv hv, (h3 _).1]
  simp [hk]
theorem Rep.look_out (h : Rep w b n ks f) {s : ByteArray} (hs : s.size ≤ maxLen) (hk : s.data.toList ∉ ks) :
    (Instr.lookup 28 (.map (some b)) (.string s) true).run Try.prog w = .ok (.tuple #[.agg #[.int .i64 0, .nilIface], .bool false]) w := by
  obtain ⟨D, h1, h2, h3⟩ := h
  obtain ⟨v, ps, hrun, hv⟩ := h1.look_ok law Try.underlying28 (zeroE w) ent_zero (keyOf_string_mk Try.underlying9 hs)
  have hh : Maps.has D (.string s.data.toList) = false := by rw [(h3 _).1]; simp [hk]
  rw [Maps.atKey_of_not_has hh] at hv
  rw [hrun, ent_inv0 hv, hh]
theorem Rep.store (h : Rep w b n ks f) (hn : n < maxLen) {s : ByteArray} (hs : s.size ≤ maxLen) (v : Int) :
    ∃ w', (Instr.mapUpdate 28 (.map (some b)) (.string s) (.agg #[.int .i64 (place ks s.data.toList), .iface 3 (.int .i64 v)])).run Try.prog w = .ok () w' ∧ Rep w' b (n + 1) (add ks s.data.toList) (upd f s.data.toList v) ∧ w.grownBy w' (some b) := by
  obtain ⟨D, h1, h2, h3⟩ := h
  obtain ⟨w', hrun, ho, hg⟩ := h1.update law Try.underlying28 hn (keyOf_string_mk Try.underlying9 hs) (ent_mk (place ks s.data.toList) v)
  refine ⟨w', hrun, ⟨_, ho, ?_, ?_⟩, hg⟩
  · rw [Maps.size_put (h1.tidy law), (h3 _).1, h2, length_add]
    simp
  · intro k
    by_cases e : k = s.data.toList
    · subst e
      refine ⟨?_, ?_⟩
      · rw [Maps.has_put_same h1.isMap (show WideAt.IsKeyLit (.string _) from trivial)]; simp [mem_add]
      · intro _
        rw [Maps.atKey_put_same h1.isMap (show WideAt.IsKeyLit (.string _) from trivial), place_add_same, upd_same]
    · have hne : Lit.string k ≠ .string s.data.toList := fun h => e (by injection h)
      refine ⟨?_, ?_⟩
      · rw [Maps.has_put_other hne, (h3 k).1]; simp [mem_add, e]
      · intro hk
        have hk' : k ∈ ks := (mem_add.1 hk).resolve_right e
        rw [Maps.atKey_put_other hne, (h3 k).2 hk', place_add_other hk', upd_other e]
theorem Rep.len (h : Rep w b n ks f) (ty : TypeId) : (Builtin.len_ #[28] ty #[.map (some b)]).run Try.prog w = .ok (.int .i64 ks.length) w := by
  obtain ⟨D, h1, h2, h3⟩ := h
  rw [h1.len Try.underlying28 ty, h2]

/-! ### at the operation -/
section
variable {P : Program} {ops : Array Oper} {rest : List Oper} {o : Oper} {a : Act} {Q : Exit → Act → World → Prop}
theorem wpList_lookup_run (hg : o.guard = none) (m x : Operand) (t : TypeId) (hop : o.op = Op.lookup t m x true) (mv key r : Value) (hm : a.eval m = mv) (hx : a.eval x = key)
    (hrun : (Instr.lookup t mv key true).run P w = .ok r w) (hK : wpList P ops Q rest (a.put o.dst r) w) : wpList P ops Q (o :: rest) a w := by
  refine wpList_plain hg fun K' hK' => ?_
  unfold Oper.wp
  simp [execOp, hop, hm, hx, hrun, Result.andThen]
  exact hK' _ _ hK
theorem wpList_mapUpdate_rep (hg : o.guard = none) (m x v : Operand) (hop : o.op = Op.mapUpdate 28 m x v) (h : Rep w b n ks f) (hn : n < maxLen) {s : ByteArray} (hs : s.size ≤ maxLen) (y : Int)
    (hm : a.eval m = .map (some b)) (hx : a.eval x = .string s) (hv : a.eval v = .agg #[.int .i64 (place ks s.data.toList), .iface 3 (.int .i64 y)])
    (hK : ∀ w', Rep w' b (n + 1) (add ks s.data.toList) (upd f s.data.toList y) → w.grownBy w' (some b) → wpList Try.prog ops Q rest (a.put o.dst undef) w') : wpList Try.prog ops Q (o :: rest) a w := by
  refine wpList_plain hg fun K' hK' => ?_
  obtain ⟨w', hrun, r1, r2⟩ := h.store hn hs y
  unfold Oper.wp
  simp [execOp, hop, hm, hx, hv, hrun, Result.andThen]
  exact hK' _ _ (hK w' r1 r2)
theorem wpList_len_rep (hg : o.guard = none) (m : Operand) (hop : o.op = Op.call { callee := Callee.builtin Builtin.len, args := #[m], argTypes := #[28] }) (h : Rep w b n ks f) (hm : a.eval m = .map (some b))
    (hK : wpList Try.prog ops Q rest (a.put o.dst (.int .i64 ks.length)) w) : wpList Try.prog ops Q (o :: rest) a w := by
  refine wpList_plain hg fun K' hK' => ?_
  unfold Oper.wp
  simp [execOp, hop, resolve, invoke, builtin, hm, h.len o.type, Result.andThen]
  exact hK' _ _ hK
end

/-! ### Dict.Set -/
set_option maxRecDepth 100000 in
theorem set_any (h : Rep w b n ks f) (hn : n < maxLen) {s : ByteArray} (hs : s.size ≤ maxLen) (y : Int) :
    Calls Try.prog 17 #[.map (some b), .string s, .iface 3 (.int .i64 y)] w fun e w' => e = .returned (.tuple #[]) ∧ Rep w' b (n + 1) (add ks s.data.toList) (upd f s.data.toList y) ∧ w.grownBy w' (some b) := by
  by_cases hk : s.data.toList ∈ ks
  · have hl := h.look_in hs hk
    go_enter Try.func17, Try.ntmps17
    go_wp2_with (first
      | (at_len; refine wpList_len_rep rfl _ rfl h rfl ?_)
      | (at_lookup; refine wpList_lookup_run rfl _ _ 28 rfl _ _ _ rfl rfl hl ?_)
      | (at_mapUpdate; refine wpList_mapUpdate_rep rfl _ _ _ rfl (h.alloc _) hn hs y rfl rfl rfl ?_; intro w1 hr1 hg1))
    go_end0
    exact ⟨rfl, hr1, (World.grownBy_alloc _ _ _).trans hg1⟩
  · have hl := h.look_out hs hk
    have hp : place ks s.data.toList = ks.length := place_new hk
    go_enter Try.func17, Try.ntmps17
    go_wp2_with (first
      | (at_len; refine wpList_len_rep rfl _ rfl h rfl ?_)
      | (at_lookup; refine wpList_lookup_run rfl _ _ 28 rfl _ _ _ rfl rfl hl ?_)
      | (at_mapUpdate; refine wpList_mapUpdate_rep rfl _ _ _ rfl (h.alloc _) hn hs y rfl rfl (by rw [hp]; rfl) ?_; intro w1 hr1 hg1))
    go_end0
    exact ⟨rfl, hr1, (World.grownBy_alloc _ _ _).trans hg1⟩

/-! ### ZZSetInt -/
set_option maxRecDepth 100000 in
theorem setInt_any (h : Rep w b n ks f) (hn : n < maxLen) {s : ByteArray} (hs : s.size ≤ maxLen) (y : Int) :
    Calls Try.prog 9 #[.map (some b), .string s, .int .i64 y] w fun e w' => e = .returned (.tuple #[]) ∧ Rep w' b (n + 1) (add ks s.data.toList) (upd f s.data.toList y) ∧ w.grownBy w' (some b) := by
  go_enter Try.func9, Try.ntmps9
  go_wp2_with (go_at_call 17; refine (set_any h hn hs y).mono ?_; rintro e w' ⟨rfl, hr, hg⟩)
  go_end0
  exact ⟨rfl, hr, hg⟩

/-! ### ZZEntry -/
theorem assert3 (v : Value) (w : World) : (Instr.typeAssert (.iface 3 v) 20 3 true).run Try.prog w = .ok (.tuple #[v, .bool true]) w := by kernel_rfl

set_option maxRecDepth 100000 in
theorem entry_in (h : Rep w b n ks f) {s : ByteArray} (hs : s.size ≤ maxLen) (hk : s.data.toList ∈ ks) :
    Calls Try.prog 11 #[.map (some b), .string s] w fun e w' => e = .returned (.tuple #[.int .i64 (place ks s.data.toList), .int .i64 (f s.data.toList), .bool true]) ∧ w.grownBy w' none := by
  have hl := h.look_in hs hk
  have hta := assert3
  go_enter Try.func11, Try.ntmps11
  go_wp2_with (first
    | (at_lookup; refine wpList_lookup_run rfl _ _ 28 rfl _ _ _ rfl rfl hl ?_))
  go_ret3
  exact ⟨rfl, World.grownBy_alloc _ _ _⟩

/-! ### NewDict -/
/-- what was there before stays while a block of the call's own is written. -/
theorem grown_new {w wr w1 : World} {B : Nat} (h : w.grownBy wr none) (hg : wr.grownBy w1 (some B)) (hB : w.heap.size ≤ B) : w.grownBy w1 none :=
  ⟨hg.os.trans h.os, hg.tape.trans h.tape, hg.output.trans h.output, Nat.le_trans h.size hg.size,
    fun i hi _ => (hg.block i (Nat.lt_of_lt_of_le hi h.size) (by simp; omega)).trans (h.block i hi (by simp))⟩

theorem makeHint (v : Int) (w : World) : (Instr.makeMap 28 (some (.int .i64 v))).run Try.prog w = .ok (.map (some w.heap.size)) (w.alloc (.map #[] 0)) := by kernel_rfl

set_option maxRecDepth 100000 in
theorem newDict_none (ka va : Option Addr) (kc vlen vc : Nat) (w : World) :
    Calls Try.prog 16 #[.slice ka 0 kc, .slice va vlen vc] w fun e w' => e = .returned (.map (some w.heap.size)) ∧ Rep w' w.heap.size 0 [] (fun _ => 0) ∧ w.grownBy w' none := by
  have hmm := makeHint
  go_enter Try.func16, Try.ntmps16
  go_wp2
  refine wp_loop_rounds 1 ?_
  rw [rounds_succ]
  go_wp2
  go_ret
  exact ⟨rfl, Rep.made _, World.grownBy_alloc _ _ _⟩

/-- the bytes of the j-th string. -/
def bys (ss : List ByteArray) (j : Nat) : List UInt8 := (ss.getD j ByteArray.empty).data.toList

set_option maxRecDepth 100000 in
theorem newDict_any (kb ko kc vb vo len vlen vc : Nat) (ss : List ByteArray) (V : Nat → Int) (w : World) (hl : len ≤ 4096) (hv : len ≤ vlen)
    (hk : ∀ j, j < len → w.cell? ⟨kb, ko + j, none⟩ = some (.string (ss.getD j ByteArray.empty)) ∧ (ss.getD j ByteArray.empty).size ≤ maxLen)
    (hc : ∀ j, j < len → w.cell? ⟨vb, vo + j, none⟩ = some (.iface 3 (.int .i64 (V j)))) :
    Calls Try.prog 16 #[.slice (some ⟨kb, ko, none⟩) len kc, .slice (some ⟨vb, vo, none⟩) vlen vc] w fun e w' => e = .returned (.map (some w.heap.size)) ∧
      Rep w' w.heap.size len (dist (bys ss) len) (lastv (bys ss) V len) ∧ w.grownBy w' none := by
  have hmm := makeHint
  go_enter Try.func16, Try.ntmps16
  go_wp2
  go_loopw [13] (fun i wr => ∃ k : Nat, k ≤ len ∧ i = .int .i64 k ∧ Rep wr w.heap.size k (dist (bys ss) k) (lastv (bys ss) V k) ∧ w.grownBy wr none)
    (fun i _ => len - (intOf i).toNat)
  case atStart => exact ⟨0, Nat.zero_le _, rfl, Rep.made _, World.grownBy_alloc _ _ _⟩
  case round =>
    obtain ⟨k, hk', rfl, hrep, hgr⟩ := hrel
    by_cases hlt : k < len
    · obtain ⟨s, hs⟩ : ∃ s, s = ss.getD k ByteArray.empty := ⟨_, rfl⟩
      have hck : wr.cell? ⟨kb, ko + k, none⟩ = some (.string s) := by rw [hs]; exact hgr.cell (hk k hlt).1 (by simp)
      have hcv : wr.cell? ⟨vb, vo + k, none⟩ = some (.iface 3 (.int .i64 (V k))) := hgr.cell (hc k hlt) (by simp)
      have hsz : s.size ≤ maxLen := by rw [hs]; exact (hk k hlt).2
      have HS : Hid (s.data.toList = bys ss k) := by rw [hs]; rfl
      clear hs
      go_wp2_with (go_at_call 17; refine (set_any hrep (by unfold maxLen; omega) hsz _).mono ?_; rintro e w1 ⟨rfl, hr1, hg1⟩)
      go_roundw
      case rel =>
        rw [HS.out] at hr1
        exact ⟨k + 1, by omega, by go_num, hr1, grown_new hgr hg1 (Nat.le_refl _)⟩
      case measure => simp [intOf]; omega
    · have : k = len := by omega
      subst this
      go_wp2
      go_ret
      exact ⟨rfl, hrep, hgr⟩

/-- WHAT THE WALKS ARE TOLD OF A SLICE OF STRINGS: it is empty, or its cells lie at a known place. -/
def IsK (w : World) (a : Option Addr) (len : Nat) (ss : List ByteArray) : Prop :=
  len = 0 ∨ ∃ b o, a = some ⟨b, o, none⟩ ∧ ∀ j, j < len → w.cell? ⟨b, o + j, none⟩ = some (.string (ss.getD j ByteArray.empty)) ∧ (ss.getD j ByteArray.empty).size ≤ maxLen
def IsV (w : World) (a : Option Addr) (len : Nat) (V : Nat → Int) : Prop :=
  len = 0 ∨ ∃ b o, a = some ⟨b, o, none⟩ ∧ ∀ j, j < len → w.cell? ⟨b, o + j, none⟩ = some (.int .i64 (V j))
theorem IsK.kept {w w' : World} {a : Option Addr} {len : Nat} {ss : List ByteArray} (h : IsK w a len ss) (hg : w.grownBy w' none) : IsK w' a len ss := by
  rcases h with h | ⟨b, o, e, h⟩
  · exact .inl h
  · exact .inr ⟨b, o, e, fun j hj => ⟨hg.cell (h j hj).1 (by simp), (h j hj).2⟩⟩
theorem IsV.kept {w w' : World} {a : Option Addr} {len : Nat} {V : Nat → Int} (h : IsV w a len V) (hg : w.grownBy w' none) : IsV w' a len V := by
  rcases h with h | ⟨b, o, e, h⟩
  · exact .inl h
  · exact .inr ⟨b, o, e, fun j hj => hg.cell (h j hj) (by simp)⟩

theorem newDict_all (ka : Option Addr) (kc vb vo len vlen vc : Nat) (ss : List ByteArray) (V : Nat → Int) (w : World) (hl : len ≤ 4096) (hv : len ≤ vlen) (hk : IsK w ka len ss)
    (hc : ∀ j, j < len → w.cell? ⟨vb, vo + j, none⟩ = some (.iface 3 (.int .i64 (V j)))) :
    Calls Try.prog 16 #[.slice ka len kc, .slice (some ⟨vb, vo, none⟩) vlen vc] w fun e w' => e = .returned (.map (some w.heap.size)) ∧
      Rep w' w.heap.size len (dist (bys ss) len) (lastv (bys ss) V len) ∧ w.grownBy w' none := by
  rcases hk with rfl | ⟨b, o, rfl, h⟩
  · exact newDict_none _ _ _ _ _ _
  · exact newDict_any b o kc vb vo len vlen vc ss V w hl hv h hc

set_option maxRecDepth 100000 in
theorem newEmpty_any (w : World) :
    Calls Try.prog 8 #[] w fun e w' => e = .returned (.map (some w.heap.size)) ∧ Rep w' w.heap.size 0 [] (fun _ => 0) ∧ w.grownBy w' none := by
  go_enter Try.func8, Try.ntmps8
  go_wp2_with (go_at_call 16; refine (newDict_none none none 0 0 0 _).mono ?_; rintro e w1 ⟨rfl, hr1, hg1⟩)
  go_ret
  exact ⟨rfl, hr1, hg1⟩

/-! ### ZZNewDictInts -/
theorem Try.info20 : (Try.prog.info? 20).map (fun i => (i.zero, i.size, i.bytes)) = some (some .nilIface, 1, 16) := by kernel_rfl

theorem grown_setCell {w wr : World} {g i : Nat} (h : w.grownBy wr none) (hB : w.heap.size ≤ g) (v : Value) : w.grownBy (wr.setCell ⟨g, i, none⟩ v) none :=
  ⟨h.os, h.tape, h.output, by simpa [World.setCell] using h.size, fun j hj _ => (Below.heap_setCell _ _ _ _ (by show j ≠ g; omega)).trans (h.block j hj (by simp))⟩

/-- the row of values while it is filled. -/
def vrow (V : Nat → Int) (k j : Nat) : Value := if j < k then .iface 3 (.int .i64 (V j)) else .nilIface
theorem vrow_step (V : Nat → Int) (k j : Nat) : (if j = k then .iface 3 (.int .i64 (V k)) else vrow V k j) = vrow V (k + 1) j := by
  unfold vrow
  by_cases e : j = k
  · subst e; simp
  · by_cases h : j < k
    · rw [if_neg e, if_pos h, if_pos (by omega)]
    · rw [if_neg e, if_neg h, if_neg (by omega)]
theorem vrow_in {V : Nat → Int} {k j : Nat} (h : j < k) : vrow V k j = .iface 3 (.int .i64 (V j)) := by simp [vrow, h]
theorem hide {p : Prop} (h : p) : Hid p := h

set_option maxRecDepth 100000 in
theorem newInts_any (ka : Option Addr) (kc vb vo len vlen vc : Nat) (ss : List ByteArray) (V : Nat → Int) (w : World) (hl : vlen ≤ 4096) (hv : len ≤ vlen) (hk : IsK w ka len ss)
    (hc : ∀ j, j < vlen → w.cell? ⟨vb, vo + j, none⟩ = some (.int .i64 (V j))) :
    Calls Try.prog 14 #[.slice ka len kc, .slice (some ⟨vb, vo, none⟩) vlen vc] w fun e w' => e = .returned (.map (some (w.heap.size + 1))) ∧
      Rep w' (w.heap.size + 1) len (dist (bys ss) len) (lastv (bys ss) V len) ∧ w.grownBy w' none := by
  have hmk := run_make_row' 43 20 .nilIface 16 Try.underlying43 Try.info20 rfl .i64 .i64 vlen (by omega) (by omega)
  have HK := hide hk
  clear hk
  go_enter Try.func14, Try.ntmps14
  go_wp2
  go_loopw [6] (fun i wr => ∃ k : Nat, k ≤ vlen ∧ i = .int .i64 k ∧ wr.rowIs w.heap.size 20 vlen (vrow V k) ∧ wr.heap.size = w.heap.size + 1 ∧ w.grownBy wr none)
    (fun i _ => vlen - (intOf i).toNat)
  case atStart => exact ⟨0, Nat.zero_le _, rfl, (World.rowIs_made _ _ _ _).congr (fun i _ => by simp [vrow]), by simp, World.grownBy_alloc _ _ _⟩
  case round =>
    obtain ⟨k, hk', rfl, hrow, hsz, hgr⟩ := hrel
    by_cases hlt : k < vlen
    · have hcv : wr.cell? ⟨vb, vo + k, none⟩ = some (.int .i64 (V k)) := hgr.cell (hc k hlt) (by simp)
      have hcn := hrow.cell hlt
      have hfn := hrow.frozen k
      go_wp2
      go_roundw
      case rel =>
        exact ⟨k + 1, by omega, by go_num, (hrow.set k _).congr (fun j _ => vrow_step V k j), by simpa [World.setCell] using hsz, grown_setCell hgr (Nat.le_refl _) _⟩
      case measure => simp [intOf]; omega
    · have : k = vlen := by omega
      subst this
      have hcv : ∀ j, j < len → wr.cell? ⟨w.heap.size, 0 + j, none⟩ = some (.iface 3 (.int .i64 (V j))) := fun j hj => by
        have := hrow.cell (i := j) (by omega)
        rw [Nat.zero_add, this, vrow_in (by omega)]
      have H := hide (newDict_all ka kc w.heap.size 0 len k k ss V wr (by omega) hv (HK.out.kept hgr) hcv)
      clear hcv hc hrow
      go_wp2_with (go_at_call 16; refine H.out.mono ?_; rintro e w1 ⟨rfl, hr1, hg1⟩)
      go_ret
      rw [hsz] at hr1
      exact ⟨rfl, hr1, hgr.trans hg1⟩

set_option maxRecDepth 100000 in
theorem newInts_zero (ka va : Option Addr) (kc vc : Nat) (w : World) :
    Calls Try.prog 14 #[.slice ka 0 kc, .slice va 0 vc] w fun e w' => e = .returned (.map (some (w.heap.size + 1))) ∧ Rep w' (w.heap.size + 1) 0 [] (fun _ => 0) ∧ w.grownBy w' none := by
  have hmk : ∀ w, (Instr.makeSlice 43 (.int .i64 0) (.int .i64 0)).run Try.prog w = .ok (.slice (some ⟨w.heap.size, 0, none⟩) 0 0) (w.alloc (.cells (madeCells #[.nilIface] 0) 20)) :=
    run_make_row' 43 20 .nilIface 16 Try.underlying43 Try.info20 rfl .i64 .i64 0 (by omega) (by omega)
  go_enter Try.func14, Try.ntmps14
  go_wp2
  refine wp_loop_rounds 1 ?_
  rw [rounds_succ]
  go_wp2_with (go_at_call 16; refine (newDict_none _ _ _ _ _ _).mono ?_; rintro e w1 ⟨rfl, hr1, hg1⟩)
  go_ret
  rw [World.size_alloc] at hr1
  exact ⟨rfl, hr1, (World.grownBy_alloc _ _ _).trans hg1⟩

theorem newInts_all (ka va : Option Addr) (kc len vlen vc : Nat) (ss : List ByteArray) (V : Nat → Int) (w : World) (hl : vlen ≤ 4096) (hv : len ≤ vlen) (hk : IsK w ka len ss) (hc : IsV w va vlen V) :
    Calls Try.prog 14 #[.slice ka len kc, .slice va vlen vc] w fun e w' => e = .returned (.map (some (w.heap.size + 1))) ∧
      Rep w' (w.heap.size + 1) len (dist (bys ss) len) (lastv (bys ss) V len) ∧ w.grownBy w' none := by
  rcases hc with rfl | ⟨b, o, rfl, h⟩
  · obtain rfl : len = 0 := by omega
    exact newInts_zero _ _ _ _ _
  · exact newInts_any ka kc b o len vlen vc ss V w hl hv hk h

end Go.Proofs.Qxb6618885a.Dc
