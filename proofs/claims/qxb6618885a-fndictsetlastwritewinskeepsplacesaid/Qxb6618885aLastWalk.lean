/-
  The walk of FnDictSetLastWriteWinsKeepsPlace.
-/
import Derived.Test.Qxb6618885aDictReads
import Derived.Test.Qxb6618885aCopy
import Derived.Deep.Cut
import Derived.Deep.CutRange
import Derived.Deep.DeepCutAuto
namespace Go.Proofs.Qxb6618885a.Dc
open Go.RowKit Go.Maps

theorem Try.info9 : (Try.prog.info? 9).map (fun i => (i.zero, i.size, i.bytes)) = some (some (.string ByteArray.empty), 1, 16) := by kernel_rfl
theorem Try.info3 : (Try.prog.info? 3).map (fun i => (i.zero, i.size, i.bytes)) = some (some (.int .i64 0), 1, 8) := by kernel_rfl
theorem Try.one9 : (Try.prog.info? 9).map (·.size) = some 1 := by kernel_rfl
theorem Try.one3 : (Try.prog.info? 3).map (·.size) = some 1 := by kernel_rfl
theorem neq24 (w : World) (a : Option Addr) (n c n' c' : Nat) : (binOp .neq 24 (.slice a n c) (.slice none n' c')).run Try.prog w = .ok (.bool (!a.isNone)) w := run_neq_slice_nil_any w _ _ a n c n' c' Try.underlying24
theorem neq25 (w : World) (a : Option Addr) (n c n' c' : Nat) : (binOp .neq 25 (.slice a n c) (.slice none n' c')).run Try.prog w = .ok (.bool (!a.isNone)) w := run_neq_slice_nil_any w _ _ a n c n' c' Try.underlying25
theorem Src.kept {w w' : World} {a : Option Addr} {n : Nat} {F : Nat → Value} (h : Src w a n F) (hg : w.grownBy w' none) : Src w' a n F := by
  rcases h with h | ⟨b, o, e, h⟩
  · exact .inl h
  · exact .inr ⟨b, o, e, fun j hj => hg.cell (h j hj) (by simp)⟩

theorem IsV.src {w : World} {a : Option Addr} {n : Nat} {V : Nat → Int} (h : IsV w a n V) : Src w a n (fun j => .int .i64 (V j)) := h
theorem IsK.src {w : World} {a : Option Addr} {n : Nat} {ss : List ByteArray} (h : IsK w a n ss) : Src w a n (fun j => .string (ss.getD j ByteArray.empty)) := by
  rcases h with h | ⟨b, o, e, h⟩
  · exact .inl h
  · exact .inr ⟨b, o, e, fun j hj => (h j hj).1⟩

theorem isV_row {w : World} {g n : Nat} {V : Nat → Int} (h : w.rowIs g 3 n (fun j => .int .i64 (V j))) : IsV w (some ⟨g, 0, none⟩) n V :=
  .inr ⟨g, 0, rfl, fun j hj => by rw [Nat.zero_add]; exact h.cell hj⟩
theorem isK_row {w : World} {g n : Nat} {ss : List ByteArray} (h : w.rowIs g 9 n (fun j => .string (ss.getD j ByteArray.empty))) (hs : ∀ j, j < n → (ss.getD j ByteArray.empty).size ≤ maxLen) : IsK w (some ⟨g, 0, none⟩) n ss :=
  .inr ⟨g, 0, rfl, fun j hj => ⟨by rw [Nat.zero_add]; exact h.cell hj, hs j hj⟩⟩

/-- what the walk is told of the keys that came in, not nil. -/
def Keys (w : World) (ad : Addr) (len : Nat) (ss : List ByteArray) : Prop := Src w (some ad) len (fun j => .string (ss.getD j ByteArray.empty)) ∧ ∀ j, j < len → (ss.getD j ByteArray.empty).size ≤ maxLen
theorem Keys.src {w : World} {ad : Addr} {len : Nat} {ss : List ByteArray} (h : Keys w ad len ss) : Src w (some ad) len (fun j => .string (ss.getD j ByteArray.empty)) := And.left h
theorem Keys.sz {w : World} {ad : Addr} {len : Nat} {ss : List ByteArray} (h : Keys w ad len ss) : ∀ j, j < len → (ss.getD j ByteArray.empty).size ≤ maxLen := And.right h
theorem Keys.isK {w : World} {ad : Addr} {len : Nat} {ss : List ByteArray} (h : Keys w ad len ss) : IsK w (some ad) len ss := by
  rcases h with ⟨h | ⟨b, o, e, h⟩, hs⟩
  · exact Or.inl h
  · exact Or.inr ⟨b, o, e, fun j hj => ⟨h j hj, hs j hj⟩⟩

/-- the three dicts, and that nothing else has turned since wc. -/
def St (wc : World) (b0 b1 b2 len : Nat) (D D' : List (List UInt8)) (L L' : List UInt8 → Int) (wr : World) : Prop :=
  Rep wr b0 len D L ∧ Rep wr b1 (len + 2) D' L' ∧ Rep wr b2 (len + 1) D' L' ∧ wc.grownBy wr none
section
variable {wc wr wr' : World} {b0 b1 b2 len : Nat} {D D' : List (List UInt8)} {L L' : List UInt8 → Int}
theorem St.kept (h : St wc b0 b1 b2 len D D' L L' wr) (hg : wr.grownBy wr' none) : St wc b0 b1 b2 len D D' L L' wr' := by
  obtain ⟨h0, h1, h2, h3⟩ := h
  exact ⟨h0.kept hg (by simp), h1.kept hg (by simp), h2.kept hg (by simp), h3.trans hg⟩
theorem St.r0 (h : St wc b0 b1 b2 len D D' L L' wr) : Rep wr b0 len D L := And.left h
theorem St.r1 (h : St wc b0 b1 b2 len D D' L L' wr) : Rep wr b1 (len + 2) D' L' := And.left (And.right h)
theorem St.r2 (h : St wc b0 b1 b2 len D D' L L' wr) : Rep wr b2 (len + 1) D' L' := And.left (And.right (And.right h))
theorem St.g (h : St wc b0 b1 b2 len D D' L L' wr) : wc.grownBy wr none := And.right (And.right (And.right h))
end
/-- an entry, its answer said otherwise. -/
theorem entry_at {w : World} {b n : Nat} {ks : List (List UInt8)} {f : List UInt8 → Int} (h : Rep w b n ks f) {s : ByteArray} (hs : s.size ≤ maxLen) (hk : s.data.toList ∈ ks) (P : Nat) (Y : Int) (hP : place ks s.data.toList = P) (hY : f s.data.toList = Y) :
    Calls Try.prog 11 #[.map (some b), .string s] w fun e w' => e = .returned (.tuple #[.int .i64 P, .int .i64 Y, .bool true]) ∧ w.grownBy w' none := by
  subst hP hY
  exact entry_in h hs hk

set_option maxRecDepth 100000 in
set_option maxHeartbeats 4000000 in
/-- keys that are not nil. -/
theorem last_some (ad : Addr) (va : Option Addr) (len kc vlen vc : Nat) (ss : List ByteArray) (V : Nat → Int) (x : ByteArray) (v y : Int) (w : World) (hl0 : len ≤ maxLen) (hv0 : vlen ≤ maxLen) (hx0 : x.size ≤ maxLen) (hK : Keys w ad len ss) (hV : IsV w va vlen V) :
    Calls Try.prog 5 #[.slice (some ad) len kc, .slice va vlen vc, .string x, .int .i64 v, .int .i64 y] w fun e w' => e = .returned (.bool true) ∧ w.grownBy w' none := by
  have H13 := hide (bytes13_any (some ad) va len kc vlen vc ss x v y w hx0 hl0 hv0 hK.isK)
  have HV := hide hV.src
  have HK := hide hK
  have hq1 := neq24
  have hq2 := neq25
  have HX0 := hide hx0
  unfold maxLen at hv0 hl0
  clear hV hK hx0
  go_enter Try.func5, Try.ntmps5
  go_wp2_with fail
  refine H13.out.mono ?_
  rintro e w1 ⟨⟨r, rfl, hr⟩, rfl⟩
  clear H13
  cases r
  · go_wp2_with fail
    go_ret
    exact ⟨rfl, grown_refl _⟩
  have HS := hide (hr rfl)
  clear hr
  by_cases hl : 4096 < len
  · have hB1 : decide ((4096 : Int) < (len : Int)) = true := by simpa using by omega
    go_wp2_with fail
    go_ret
    exact ⟨rfl, grown_refl _⟩
  have hB0 : decide ((4096 : Int) < (len : Int)) = false := by simpa using by omega
  by_cases hv : 4096 < vlen
  · have hB1 : decide ((4096 : Int) < (vlen : Int)) = true := by simpa using by omega
    go_wp2_with fail
    go_ret
    exact ⟨rfl, grown_refl _⟩
  have hB1 : decide ((4096 : Int) < (vlen : Int)) = false := by simpa using by omega
  by_cases hx : 1048576 < x.size
  · have hB2 : decide ((1048576 : Int) < (x.size : Int)) = true := by simpa using by omega
    go_wp2_with fail
    go_ret
    exact ⟨rfl, grown_refl _⟩
  have hB2 : decide ((1048576 : Int) < (x.size : Int)) = false := by simpa using by omega
  have hmk := run_make_row' 24 9 (.string ByteArray.empty) 16 Try.underlying24 Try.info9 rfl .i64 .i64 len (by omega) (by omega)
  have hmv := run_make_row' 25 3 (.int .i64 0) 8 Try.underlying25 Try.info3 rfl .i64 .i64 vlen (by omega) (by omega)
  go_upto_region 9 with (with_reducible refine at_copy ?_; refine wpList_copy_full rfl _ _ 24 rfl 9 Try.underlying24 Try.one9 _ len _ _ rfl rfl 9 _ (fun j => .string (ss.getD j ByteArray.empty)) (World.rowIs_made _ _ _ _) (Src.kept HK.out.src (World.grownBy_alloc _ _ _)) (fun _ _ => rfl) ?_; intro w2 hrow2 hg2)
  have hG2 : w1.grownBy w2 none := grown_new (World.grownBy_alloc _ _ _) hg2 (Nat.le_refl _)
  have HB : Hid (w1.heap.size < w2.heap.size) := hrow2.lt
  have HG2 := hide hG2
  have HR2 := hide hrow2
  clear hg2 hG2 hrow2
  obtain ⟨G, hGd⟩ : ∃ G, G = w1.heap.size := ⟨_, rfl⟩
  have HGd := hide hGd
  rw [← hGd]
  clear hGd
  go_upto_if 70 with fail
  go_cut [1] (fun v1 wc => ∃ va' vc', v1 = .slice va' vlen vc' ∧ Hid (IsV wc va' vlen V ∧ w1.grownBy wc none ∧ wc.rowIs G 9 len (fun j => .string (ss.getD j ByteArray.empty))))
  case first =>
    cases va
    · go_wp2_with fail
      go_meet
      exact ⟨none, vc, rfl, Src.kept HV.out HG2.out, HG2.out, by rw [HGd.out]; exact HR2.out⟩
    · have HV2 : Hid (Src w2 _ vlen _) := Src.kept HV.out HG2.out
      go_wp2_with (with_reducible refine at_copy ?_; refine wpList_copy_full rfl _ _ 25 rfl 3 Try.underlying25 Try.one3 _ vlen _ _ rfl rfl 3 _ (fun j => .int .i64 (V j)) (World.rowIs_made _ _ _ _) (Src.kept HV2.out (World.grownBy_alloc _ _ _)) (fun _ _ => rfl) ?_; intro w4 hrow4 hg4)
      have hg24 : w2.grownBy w4 none := grown_new (World.grownBy_alloc _ _ _) hg4 (Nat.le_refl _)
      go_meet
      exact ⟨some ⟨w2.heap.size, 0, none⟩, vlen, rfl, isV_row hrow4, HG2.out.trans hg24, by rw [HGd.out]; exact HR2.out.of_block (hg24.block _ HB.out (by simp))⟩
  case rest =>
  obtain ⟨va', vc', rfl, HG⟩ := hcut
  clear HV HG2 HR2 HB HGd hmk hmv hq1 hq2
  have HSZ : Hid (∀ j, j < len → (ss.getD j ByteArray.empty).size ≤ maxLen) := HK.out.sz
  clear HK
  by_cases htot : 1048576 < x.size + 16 * len + 8 * vlen
  · go_wp2_with fail
    go_ret
    exact ⟨rfl, HG.out.2.1⟩
  go_wp2_with fail
  go_loop [13, 14] (fun tv iv => ∃ k m : Nat, k ≤ len ∧ m ≤ 1048576 ∧ tv = .int .i64 m ∧ iv = .int .i64 k) (fun _ iv => len - (intOf iv).toNat)
  case atStart => exact ⟨0, x.size + 16 * len + 8 * vlen, Nat.zero_le _, by omega, by go_num, rfl⟩
  case round =>
    obtain ⟨k, m, hk', hm, rfl, rfl⟩ := hrel
    by_cases hlt : k < len
    · obtain ⟨s, hs⟩ : ∃ s, s = ss.getD k ByteArray.empty := ⟨_, rfl⟩
      have hcs : wc.cell? ⟨G, k, none⟩ = some (.string s) := by rw [hs]; exact HG.out.2.2.cell hlt
      have hsz : s.size ≤ 1048576 := by rw [hs]; exact HS.out k hlt
      clear hs
      by_cases hs2 : 1048576 < m + s.size
      · go_wp2_with fail
        go_ret
        exact ⟨rfl, HG.out.2.1⟩
      · go_wp2_with fail
        go_round
        case rel => exact ⟨k + 1, m + s.size, by omega, by omega, by go_num, by go_num⟩
        case measure => simp [intOf]; omega
    · have hkn : len = k := by omega
      subst hkn
      by_cases hvl : vlen < len
      · go_wp2_with fail
        go_ret
        exact ⟨rfl, HG.out.2.1⟩
      have HKey := hide (isK_row HG.out.2.2 HSZ.out)
      go_wp2_with fail
      refine (newInts_all _ _ _ len vlen _ ss V _ (by omega) (by omega) HKey.out HG.out.1).mono ?_
      rintro e u1 ⟨rfl, hr0, hg0⟩
      obtain ⟨b0, hb0⟩ : ∃ b, b = wc.heap.size + 1 := ⟨_, rfl⟩
      rw [← hb0] at hr0 ⊢
      have hbc : wc.heap.size ≤ b0 := by omega
      clear hb0
      go_wp2_with fail
      refine (newInts_all _ _ _ len vlen _ ss V _ (by omega) (by omega) (HKey.out.kept hg0) (HG.out.1.kept hg0)).mono ?_
      rintro e u2 ⟨rfl, hr1, hg1⟩
      have hb01 : b0 < u1.heap.size + 1 := by have := hr0.lt; omega
      obtain ⟨b1, hb1⟩ : ∃ b, b = u1.heap.size + 1 := ⟨_, rfl⟩
      rw [← hb1] at hr1 hb01 ⊢
      clear hb1
      have hr0' := hr0.kept hg1 (by simp)
      have hgc := hg0.trans hg1
      clear hr0 hg0 hg1
      have H1 := hide (setInt_any hr1 (by unfold maxLen; omega) HX0.out v)
      clear hr1
      go_wp2_with fail
      refine H1.out.mono ?_
      rintro e u3 ⟨rfl, hr1, hg1⟩
      have hr0 := hr0'.kept hg1 (by simp; omega)
      have hgc3 := grown_new hgc hg1 (by omega)
      have H2 := hide (setInt_any hr1 (by unfold maxLen; omega) HX0.out y)
      clear hr1 hg1 hgc hr0' H1
      go_wp2_with fail
      refine H2.out.mono ?_
      rintro e u4 ⟨rfl, hr1, hg1⟩
      rw [add_add, upd_upd] at hr1
      have hr0' := hr0.kept hg1 (by simp; omega)
      have hgc := grown_new hgc3 hg1 (by omega)
      have hb1l := hr1.lt
      clear hr0 hgc3 hg1 H2
      go_wp2_with fail
      refine (newInts_all _ _ _ len vlen _ ss V _ (by omega) (by omega) (HKey.out.kept hgc) (HG.out.1.kept hgc)).mono ?_
      rintro e u5 ⟨rfl, hr2, hg2⟩
      have hb12 : b1 < u4.heap.size + 1 := by omega
      obtain ⟨b2, hb2⟩ : ∃ b, b = u4.heap.size + 1 := ⟨_, rfl⟩
      rw [← hb2] at hr2 hb12 ⊢
      clear hb2 hb1l
      have hr0 := hr0'.kept hg2 (by simp)
      have hr1' := hr1.kept hg2 (by simp)
      have hgc5 := hgc.trans hg2
      clear hr0' hr1 hgc hg2
      have H3 := hide (setInt_any hr2 (by unfold maxLen; omega) HX0.out y)
      clear hr2
      go_wp2_with fail
      refine H3.out.mono ?_
      rintro e u6 ⟨rfl, hr2, hg2⟩
      have hSt : St wc b0 b1 b2 len (dist (bys ss) len) (add (dist (bys ss) len) x.data.toList) (lastv (bys ss) V len) (upd (lastv (bys ss) V len) x.data.toList y) u6 :=
        ⟨hr0.kept hg2 (by simp; omega), hr1'.kept hg2 (by simp; omega), hr2, grown_new hgc5 hg2 (by omega)⟩
      clear hr0 hr1' hr2 hg2 hgc5 H3 hb01 hb12 hbc
      have HC : Hid (∀ j, j < len → wc.cell? ⟨G, 0 + j, none⟩ = some (.string (ss.getD j ByteArray.empty))) := fun j hj => by rw [Nat.zero_add]; exact HG.out.2.2.cell hj
      have HBase : Hid (w1.grownBy wc none) := HG.out.2.1
      clear HG HKey HS
      go_wp2_with fail
      have HLK : Hid (x.data.toList ∈ dist (bys ss) len → ∃ i, i < len ∧ bys ss i = x.data.toList) := fun h => mem_dist.1 h
      go_loopw [18, 19, 20] (fun pv fv iv wr => ∃ i : Nat, i ≤ len ∧ pv = .int .i64 (dist (bys ss) i).length ∧ fv = .bool false ∧ iv = .int .i64 i ∧ Hid (∀ j, j < i → bys ss j ≠ x.data.toList) ∧ St wc b0 b1 b2 len (dist (bys ss) len) (add (dist (bys ss) len) x.data.toList) (lastv (bys ss) V len) (upd (lastv (bys ss) V len) x.data.toList y) wr) (fun _ _ iv _ => len - (intOf iv).toNat)
      case atStart => exact ⟨0, Nat.zero_le _, rfl, rfl, rfl, fun j hj => absurd hj (by omega), hSt⟩
      case round =>
        clear hSt
        obtain ⟨i, hi', rfl, rfl, rfl, HNE, hSt⟩ := hrel
        have hdl := dist_len_le (bys ss) i
        by_cases hit : i < len
        · obtain ⟨s, hs⟩ : ∃ s, s = ss.getD i ByteArray.empty := ⟨_, rfl⟩
          have HSb : Hid (s.data.toList = bys ss i) := by rw [hs]; rfl
          have HSc : Hid (wc.cell? ⟨G, i, none⟩ = some (.string s)) := by rw [hs]; have := HC.out i hit; rwa [Nat.zero_add] at this
          have hck : wr.cell? ⟨G, i, none⟩ = some (.string s) := hSt.g.cell HSc.out (by simp)
          clear hs
          cases he : (s.toList == x.toList)
          · have HNi := hide (toList_ne he HSb.out rfl)
            have h10 := isFirst_any G 0 len len i ss wr (by omega) hit (fun t ht => ⟨hSt.g.cell (HC.out t ht) (by simp), HSZ.out t ht⟩)
            cases hf : firstB (bys ss) i
            · rw [hf] at h10
              have H10 := hide h10
              have HF := hide hf
              clear h10 hf
              go_wp2_with fail
              refine H10.out.mono ?_
              rintro e w3 ⟨rfl, hg3⟩
              go_wp2_with fail
              go_roundw
              case rel =>
                have hin : bys ss i ∈ dist (bys ss) i := by simpa [firstB] using HF.out
                exact ⟨i + 1, by omega, by rw [not_first hin], rfl, by go_num, fun j hj => by
                  by_cases e : j = i
                  · subst e; exact HNi.out
                  · exact HNE.out j (by omega), hSt.kept hg3⟩
              case measure => simp [intOf]; omega
            · rw [hf] at h10
              have H10 := hide h10
              have HF := hide hf
              clear h10 hf
              go_wp2_with fail
              refine H10.out.mono ?_
              rintro e w3 ⟨rfl, hg3⟩
              go_wp2_with fail
              go_roundw
              case rel =>
                have hfn : bys ss i ∉ dist (bys ss) i := by simpa [firstB] using HF.out
                exact ⟨i + 1, by omega, by rw [first_len hfn]; go_num, rfl, by go_num, fun j hj => by
                  by_cases e : j = i
                  · subst e; exact HNi.out
                  · exact HNE.out j (by omega), hSt.kept hg3⟩
              case measure => simp [intOf]; omega
          · have HEq := hide (toList_same he HSb.out rfl)
            have hmem : x.data.toList ∈ dist (bys ss) len := mem_dist.2 ⟨i, hit, HEq.out⟩
            have HPP : Hid (place (add (dist (bys ss) len) x.data.toList) x.data.toList = (dist (bys ss) i).length) := by
              have hno : bys ss i ∉ dist (bys ss) i := fun h => by
                obtain ⟨j, hj, e⟩ := mem_dist.1 h
                exact HNE.out j hj (e.trans HEq.out)
              show _ = _
              rw [place_add_same, ← HEq.out, place_first hno hit]
            have HLEN : Hid (((add (dist (bys ss) len) x.data.toList).length : Int) = ((dist (bys ss) len).length : Int)) := by show _ = _; rw [add_mem hmem]
            clear hmem HLK HEq HNE
            go_wp2_with fail
            go_loopw [21, 22] (fun dv iv wr => ∃ i : Nat, i ≤ len ∧ dv = .int .i64 (dist (bys ss) i).length ∧ iv = .int .i64 i ∧ St wc b0 b1 b2 len (dist (bys ss) len) (add (dist (bys ss) len) x.data.toList) (lastv (bys ss) V len) (upd (lastv (bys ss) V len) x.data.toList y) wr) (fun _ iv _ => len - (intOf iv).toNat)
            case atStart => exact ⟨0, Nat.zero_le _, rfl, rfl, hSt⟩
            case round =>
              clear hSt
              obtain ⟨i, hi', rfl, rfl, hSt⟩ := hrel
              have hdl := dist_len_le (bys ss) i
              by_cases hit : i < len
              · have h10 := isFirst_any G 0 len len i ss wr (by omega) hit (fun t ht => ⟨hSt.g.cell (HC.out t ht) (by simp), HSZ.out t ht⟩)
                cases hf : firstB (bys ss) i
                · rw [hf] at h10
                  have H10 := hide h10
                  have HF := hide hf
                  clear h10 hf
                  go_wp2_with fail
                  refine H10.out.mono ?_
                  rintro e w3 ⟨rfl, hg3⟩
                  go_wp2_with fail
                  go_roundw
                  case rel =>
                    have hin : bys ss i ∈ dist (bys ss) i := by simpa [firstB] using HF.out
                    exact ⟨i + 1, by omega, by rw [not_first hin], by go_num, hSt.kept hg3⟩
                  case measure => simp [intOf]; omega
                · rw [hf] at h10
                  have H10 := hide h10
                  have HF := hide hf
                  clear h10 hf
                  go_wp2_with fail
                  refine H10.out.mono ?_
                  rintro e w3 ⟨rfl, hg3⟩
                  go_wp2_with fail
                  go_roundw
                  case rel =>
                    have hfn : bys ss i ∉ dist (bys ss) i := by simpa [firstB] using HF.out
                    exact ⟨i + 1, by omega, by rw [first_len hfn]; go_num, by go_num, hSt.kept hg3⟩
                  case measure => simp [intOf]; omega
              · have hin : len = i := by omega
                subst hin
                have HE1 := hide (fun (W : World) (h : Rep W b1 (len + 2) (add (dist (bys ss) len) x.data.toList) (upd (lastv (bys ss) V len) x.data.toList y)) => entry_at h HX0.out (mem_add.2 (.inr rfl)) _ y HPP.out (upd_same _ _ _))
                have HE2 := hide (fun (W : World) (h : Rep W b2 (len + 1) (add (dist (bys ss) len) x.data.toList) (upd (lastv (bys ss) V len) x.data.toList y)) => entry_at h HX0.out (mem_add.2 (.inr rfl)) _ y HPP.out (upd_same _ _ _))
                have hL1 := hSt.r1.len 3
                rw [HLEN.out] at hL1
                have hL2 := hSt.r2.len 3
                rw [HLEN.out] at hL2
                go_wp2_with fail
                clear hL1 hL2
                refine (HE1.out _ hSt.r1).mono ?_
                rintro e w3 ⟨rfl, hg3⟩
                have hSt3 := hSt.kept hg3
                clear hSt hg3 HE1
                go_wp2_with fail
                refine (HE2.out _ hSt3.r2).mono ?_
                rintro e w4 ⟨rfl, hg4⟩
                have hSt := hSt3.kept hg4
                clear hSt3 hg4 HE2
                go_wp2_with fail
                go_loopw [30] (fun iv wr => ∃ i : Nat, i ≤ len ∧ iv = .int .i64 i ∧ St wc b0 b1 b2 len (dist (bys ss) len) (add (dist (bys ss) len) x.data.toList) (lastv (bys ss) V len) (upd (lastv (bys ss) V len) x.data.toList y) wr) (fun iv _ => len - (intOf iv).toNat)
                case atStart => exact ⟨0, Nat.zero_le _, rfl, hSt⟩
                case round =>
                  clear hSt
                  obtain ⟨i, hi', rfl, hSt⟩ := hrel
                  by_cases hit : i < len
                  · obtain ⟨s, hs⟩ : ∃ s, s = ss.getD i ByteArray.empty := ⟨_, rfl⟩
                    have HSs : Hid (s.size ≤ maxLen) := by rw [hs]; exact HSZ.out i hit
                    have HSb : Hid (s.data.toList = bys ss i) := by rw [hs]; rfl
                    have HSc : Hid (wc.cell? ⟨G, i, none⟩ = some (.string s)) := by rw [hs]; have := HC.out i hit; rwa [Nat.zero_add] at this
                    have hck : wr.cell? ⟨G, i, none⟩ = some (.string s) := hSt.g.cell HSc.out (by simp)
                    clear hs
                    cases he : (s.toList == x.toList)
                    · have hne := toList_ne he rfl rfl
                      have hmem : s.data.toList ∈ dist (bys ss) len := by rw [HSb.out]; exact mem_dist.2 ⟨i, hit, rfl⟩
                      obtain ⟨PS, hPS⟩ : ∃ p, p = place (dist (bys ss) len) s.data.toList := ⟨_, rfl⟩
                      obtain ⟨YS, hYS⟩ : ∃ p, p = lastv (bys ss) V len s.data.toList := ⟨_, rfl⟩
                      have HE0 := hide (fun (W : World) (h : Rep W b0 len (dist (bys ss) len) (lastv (bys ss) V len)) => entry_at h HSs.out hmem PS YS hPS.symm hYS.symm)
                      have HE1 := hide (fun (W : World) (h : Rep W b1 (len + 2) (add (dist (bys ss) len) x.data.toList) (upd (lastv (bys ss) V len) x.data.toList y)) => entry_at h HSs.out (mem_add.2 (.inl hmem)) PS YS (by rw [place_add_other hmem, hPS]) (by rw [upd_other hne, hYS]))
                      have HE2 := hide (fun (W : World) (h : Rep W b2 (len + 1) (add (dist (bys ss) len) x.data.toList) (upd (lastv (bys ss) V len) x.data.toList y)) => entry_at h HSs.out (mem_add.2 (.inl hmem)) PS YS (by rw [place_add_other hmem, hPS]) (by rw [upd_other hne, hYS]))
                      clear hmem hne hPS hYS
                      go_wp2_with fail
                      refine (HE0.out _ hSt.r0).mono ?_
                      rintro e w3 ⟨rfl, hg3⟩
                      have hSt3 := hSt.kept hg3
                      have hck3 : w3.cell? ⟨G, i, none⟩ = some (.string s) := hSt3.g.cell HSc.out (by simp)
                      clear hSt hg3 hck HE0
                      go_wp2_with fail
                      refine (HE1.out _ hSt3.r1).mono ?_
                      rintro e w4 ⟨rfl, hg4⟩
                      have hSt4 := hSt3.kept hg4
                      have hck4 : w4.cell? ⟨G, i, none⟩ = some (.string s) := hSt4.g.cell HSc.out (by simp)
                      clear hSt3 hg4 hck3 HE1
                      go_wp2_with fail
                      refine (HE2.out _ hSt4.r2).mono ?_
                      rintro e w5 ⟨rfl, hg5⟩
                      have hSt5 := hSt4.kept hg5
                      clear hSt4 hg5 hck4 HE2
                      go_wp2_with fail
                      go_roundw
                      case rel => exact ⟨i + 1, by omega, by go_num, hSt5⟩
                      case measure => simp [intOf]; omega
                    · go_wp2_with fail
                      go_roundw
                      case rel => exact ⟨i + 1, by omega, by go_num, hSt⟩
                      case measure => simp [intOf]; omega
                  · go_wp2_with fail
                    go_ret
                    exact ⟨rfl, HBase.out.trans hSt.g⟩
        · have hin : len = i := by omega
          subst hin
          have hnm : x.data.toList ∉ dist (bys ss) len := fun h => by
            obtain ⟨j, hj, e⟩ := HLK.out h
            exact HNE.out j hj e
          have HPP : Hid (place (add (dist (bys ss) len) x.data.toList) x.data.toList = (dist (bys ss) len).length) := by show _ = _; rw [place_add_same, place_new hnm]
          have HLEN : Hid (((add (dist (bys ss) len) x.data.toList).length : Int) = ((dist (bys ss) len).length : Int) + 1) := by show _ = _; rw [add_new hnm]; simp
          clear hnm HLK HNE
          go_wp2_with fail
          go_loopw [21, 22] (fun dv iv wr => ∃ i : Nat, i ≤ len ∧ dv = .int .i64 (dist (bys ss) i).length ∧ iv = .int .i64 i ∧ St wc b0 b1 b2 len (dist (bys ss) len) (add (dist (bys ss) len) x.data.toList) (lastv (bys ss) V len) (upd (lastv (bys ss) V len) x.data.toList y) wr) (fun _ iv _ => len - (intOf iv).toNat)
          case atStart => exact ⟨0, Nat.zero_le _, rfl, rfl, hSt⟩
          case round =>
            clear hSt
            obtain ⟨i, hi', rfl, rfl, hSt⟩ := hrel
            have hdl := dist_len_le (bys ss) i
            by_cases hit : i < len
            · have h10 := isFirst_any G 0 len len i ss wr (by omega) hit (fun t ht => ⟨hSt.g.cell (HC.out t ht) (by simp), HSZ.out t ht⟩)
              cases hf : firstB (bys ss) i
              · rw [hf] at h10
                have H10 := hide h10
                have HF := hide hf
                clear h10 hf
                go_wp2_with fail
                refine H10.out.mono ?_
                rintro e w3 ⟨rfl, hg3⟩
                go_wp2_with fail
                go_roundw
                case rel =>
                  have hin : bys ss i ∈ dist (bys ss) i := by simpa [firstB] using HF.out
                  exact ⟨i + 1, by omega, by rw [not_first hin], by go_num, hSt.kept hg3⟩
                case measure => simp [intOf]; omega
              · rw [hf] at h10
                have H10 := hide h10
                have HF := hide hf
                clear h10 hf
                go_wp2_with fail
                refine H10.out.mono ?_
                rintro e w3 ⟨rfl, hg3⟩
                go_wp2_with fail
                go_roundw
                case rel =>
                  have hfn : bys ss i ∉ dist (bys ss) i := by simpa [firstB] using HF.out
                  exact ⟨i + 1, by omega, by rw [first_len hfn]; go_num, by go_num, hSt.kept hg3⟩
                case measure => simp [intOf]; omega
            · have hin : len = i := by omega
              subst hin
              have HE1 := hide (fun (W : World) (h : Rep W b1 (len + 2) (add (dist (bys ss) len) x.data.toList) (upd (lastv (bys ss) V len) x.data.toList y)) => entry_at h HX0.out (mem_add.2 (.inr rfl)) _ y HPP.out (upd_same _ _ _))
              have HE2 := hide (fun (W : World) (h : Rep W b2 (len + 1) (add (dist (bys ss) len) x.data.toList) (upd (lastv (bys ss) V len) x.data.toList y)) => entry_at h HX0.out (mem_add.2 (.inr rfl)) _ y HPP.out (upd_same _ _ _))
              have hL1 := hSt.r1.len 3
              rw [HLEN.out] at hL1
              have hL2 := hSt.r2.len 3
              rw [HLEN.out] at hL2
              go_wp2_with fail
              clear hL1 hL2
              refine (HE1.out _ hSt.r1).mono ?_
              rintro e w3 ⟨rfl, hg3⟩
              have hSt3 := hSt.kept hg3
              clear hSt hg3 HE1
              go_wp2_with fail
              refine (HE2.out _ hSt3.r2).mono ?_
              rintro e w4 ⟨rfl, hg4⟩
              have hSt := hSt3.kept hg4
              clear hSt3 hg4 HE2
              go_wp2_with fail
              go_loopw [30] (fun iv wr => ∃ i : Nat, i ≤ len ∧ iv = .int .i64 i ∧ St wc b0 b1 b2 len (dist (bys ss) len) (add (dist (bys ss) len) x.data.toList) (lastv (bys ss) V len) (upd (lastv (bys ss) V len) x.data.toList y) wr) (fun iv _ => len - (intOf iv).toNat)
              case atStart => exact ⟨0, Nat.zero_le _, rfl, hSt⟩
              case round =>
                clear hSt
                obtain ⟨i, hi', rfl, hSt⟩ := hrel
                by_cases hit : i < len
                · obtain ⟨s, hs⟩ : ∃ s, s = ss.getD i ByteArray.empty := ⟨_, rfl⟩
                  have HSs : Hid (s.size ≤ maxLen) := by rw [hs]; exact HSZ.out i hit
                  have HSb : Hid (s.data.toList = bys ss i) := by rw [hs]; rfl
                  have HSc : Hid (wc.cell? ⟨G, i, none⟩ = some (.string s)) := by rw [hs]; have := HC.out i hit; rwa [Nat.zero_add] at this
                  have hck : wr.cell? ⟨G, i, none⟩ = some (.string s) := hSt.g.cell HSc.out (by simp)
                  clear hs
                  cases he : (s.toList == x.toList)
                  · have hne := toList_ne he rfl rfl
                    have hmem : s.data.toList ∈ dist (bys ss) len := by rw [HSb.out]; exact mem_dist.2 ⟨i, hit, rfl⟩
                    obtain ⟨PS, hPS⟩ : ∃ p, p = place (dist (bys ss) len) s.data.toList := ⟨_, rfl⟩
                    obtain ⟨YS, hYS⟩ : ∃ p, p = lastv (bys ss) V len s.data.toList := ⟨_, rfl⟩
                    have HE0 := hide (fun (W : World) (h : Rep W b0 len (dist (bys ss) len) (lastv (bys ss) V len)) => entry_at h HSs.out hmem PS YS hPS.symm hYS.symm)
                    have HE1 := hide (fun (W : World) (h : Rep W b1 (len + 2) (add (dist (bys ss) len) x.data.toList) (upd (lastv (bys ss) V len) x.data.toList y)) => entry_at h HSs.out (mem_add.2 (.inl hmem)) PS YS (by rw [place_add_other hmem, hPS]) (by rw [upd_other hne, hYS]))
                    have HE2 := hide (fun (W : World) (h : Rep W b2 (len + 1) (add (dist (bys ss) len) x.data.toList) (upd (lastv (bys ss) V len) x.data.toList y)) => entry_at h HSs.out (mem_add.2 (.inl hmem)) PS YS (by rw [place_add_other hmem, hPS]) (by rw [upd_other hne, hYS]))
                    clear hmem hne hPS hYS
                    go_wp2_with fail
                    refine (HE0.out _ hSt.r0).mono ?_
                    rintro e w3 ⟨rfl, hg3⟩
                    have hSt3 := hSt.kept hg3
                    have hck3 : w3.cell? ⟨G, i, none⟩ = some (.string s) := hSt3.g.cell HSc.out (by simp)
                    clear hSt hg3 hck HE0
                    go_wp2_with fail
                    refine (HE1.out _ hSt3.r1).mono ?_
                    rintro e w4 ⟨rfl, hg4⟩
                    have hSt4 := hSt3.kept hg4
                    have hck4 : w4.cell? ⟨G, i, none⟩ = some (.string s) := hSt4.g.cell HSc.out (by simp)
                    clear hSt3 hg4 hck3 HE1
                    go_wp2_with fail
                    refine (HE2.out _ hSt4.r2).mono ?_
                    rintro e w5 ⟨rfl, hg5⟩
                    have hSt5 := hSt4.kept hg5
                    clear hSt4 hg5 hck4 HE2
                    go_wp2_with fail
                    go_roundw
                    case rel => exact ⟨i + 1, by omega, by go_num, hSt5⟩
                    case measure => simp [intOf]; omega
                  · go_wp2_with fail
                    go_roundw
                    case rel => exact ⟨i + 1, by omega, by go_num, hSt⟩
                    case measure => simp [intOf]; omega
                · go_wp2_with fail
                  go_ret
                  exact ⟨rfl, HBase.out.trans hSt.g⟩

end Go.Proofs.Qxb6618885a.Dc
