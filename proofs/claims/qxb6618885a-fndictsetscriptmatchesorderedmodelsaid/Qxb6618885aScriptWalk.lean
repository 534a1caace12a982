/-
  The walk of FnDictSetScriptMatchesOrderedModel.
-/
import Derived.Test.Qxb6618885aDictReads
import Derived.Deep.RegionWith
namespace Go.Proofs.Qxb6618885a.Dc
open Go.RowKit Go.Maps

theorem Rep.drew {w : World} {b n : Nat} {ks : List (List UInt8)} {f : List UInt8 → Int} (h : Rep w b n ks f) : Rep w.drew b n ks f := h
theorem grown_drew {w wr : World} (h : w.grownBy wr none) : w.grownBy wr.drew none := ⟨h.os, h.tape, h.output, h.size, h.block⟩

set_option maxRecDepth 100000 in
theorem script_none (ka va : Option Addr) (kc vlen vc : Nat) (w : World) (hv : vlen ≤ maxLen) :
    Calls Try.prog 4 #[.slice ka 0 kc, .slice va vlen vc] w fun e w' => e = .returned (.bool true) ∧ w.grownBy w' none := by
  have H7 := hide (bytes7_any ka va 0 kc vlen vc [] w (by unfold maxLen; omega) hv (.inl rfl))
  unfold maxLen at hv
  by_cases hv1 : 4096 < vlen
  · go_enter Try.func4, Try.ntmps4
    go_wp2_with fail
    refine H7.out.mono ?_
    rintro e w1 ⟨⟨r, rfl, hr⟩, rfl⟩
    cases r
    · go_wp2_with fail
      go_ret
      exact ⟨rfl, grown_refl _⟩
    · go_wp2_with fail
      go_ret
      exact ⟨rfl, grown_refl _⟩
  · go_enter Try.func4, Try.ntmps4
    go_wp2_with fail
    refine H7.out.mono ?_
    rintro e w1 ⟨⟨r, rfl, hr⟩, rfl⟩
    cases r
    · go_wp2_with fail
      go_ret
      exact ⟨rfl, grown_refl _⟩
    · go_wp2_with fail
      refine wp_loop_rounds 1 ?_
      rw [rounds_succ]
      go_wp2_with fail
      refine (newEmpty_any _).mono ?_
      rintro e w1 ⟨rfl, hr1, hg1⟩
      go_wp2_with fail
      refine wp_loop_rounds 1 ?_
      rw [rounds_succ]
      go_wp2_with fail
      refine wp_loop_rounds 1 ?_
      rw [rounds_succ]
      go_wp2_with (first | (at_len; refine wpList_len_rep rfl _ rfl hr1 rfl ?_))
      go_ret
      exact ⟨rfl, hg1⟩

set_option maxRecDepth 100000 in
set_option maxHeartbeats 1000000 in
theorem script_any (b o : Nat) (va : Option Addr) (len kc vlen vc : Nat) (ss : List ByteArray) (V : Nat → Int) (w : World) (hl0 : len ≤ maxLen) (hv0 : vlen ≤ maxLen) (hpos : 0 < len)
    (hk : ∀ j, j < len → w.cell? ⟨b, o + j, none⟩ = some (.string (ss.getD j ByteArray.empty)) ∧ (ss.getD j ByteArray.empty).size ≤ maxLen) (hV : IsV w va vlen V) :
    Calls Try.prog 4 #[.slice (some ⟨b, o, none⟩) len kc, .slice va vlen vc] w fun e w' => e = .returned (.bool true) ∧ w.grownBy w' none := by
  have H7 := hide (bytes7_any (some ⟨b, o, none⟩) va len kc vlen vc ss w hl0 hv0 (.inr ⟨b, o, rfl, hk⟩))
  have HK := hide hk
  have HV := hide hV
  unfold maxLen at hl0 hv0
  clear hk hV
  by_cases hl : 4096 < len
  · go_enter Try.func4, Try.ntmps4
    go_wp2_with fail
    refine H7.out.mono ?_
    rintro e w1 ⟨⟨r, rfl, hr⟩, rfl⟩
    cases r
    all_goals
      go_wp2_with fail
      go_ret
      exact ⟨rfl, grown_refl _⟩
  by_cases hv : 4096 < vlen
  · go_enter Try.func4, Try.ntmps4
    go_wp2_with fail
    refine H7.out.mono ?_
    rintro e w1 ⟨⟨r, rfl, hr⟩, rfl⟩
    cases r
    all_goals
      go_wp2_with fail
      go_ret
      exact ⟨rfl, grown_refl _⟩
  go_enter Try.func4, Try.ntmps4
  go_wp2_with fail
  refine H7.out.mono ?_
  rintro e w1 ⟨⟨r, rfl, hr⟩, rfl⟩
  clear H7
  cases r
  · go_wp2_with fail
    go_ret
    exact ⟨rfl, grown_refl _⟩
  have HS := hide (hr rfl)
  clear hr
  go_wp2_with fail
  go_loop [5, 6] (fun tv iv => ∃ k m : Nat, k ≤ len ∧ m ≤ 1048576 ∧ tv = .int .i64 m ∧ iv = .int .i64 k) (fun _ iv => len - (intOf iv).toNat)
  case atStart => exact ⟨0, 16 * len + 8 * vlen, Nat.zero_le _, by omega, by go_num, rfl⟩
  case round =>
    obtain ⟨k, m, hk', hm, rfl, rfl⟩ := hrel
    by_cases hlt : k < len
    · obtain ⟨s, hs⟩ : ∃ s, s = ss.getD k ByteArray.empty := ⟨_, rfl⟩
      have hcs : w1.cell? ⟨b, o + k, none⟩ = some (.string s) := by rw [hs]; exact (HK.out k hlt).1
      have hsz : s.size ≤ 1048576 := by rw [hs]; exact HS.out k hlt
      clear hs
      by_cases hs2 : 1048576 < m + s.size
      · go_wp2_with fail
        go_ret
        exact ⟨rfl, grown_refl _⟩
      · go_wp2_with fail
        go_round
        case rel => exact ⟨k + 1, m + s.size, by omega, by omega, by go_num, by go_num⟩
        case measure => simp [intOf]; omega
    · have hkn : k = len := by omega
      subst hkn
      by_cases hvl : vlen < k
      · go_wp2_with fail
        go_ret
        exact ⟨rfl, grown_refl _⟩
      obtain ⟨vb, vo, rfl, hcv⟩ := HV.out.resolve_left (by omega)
      have HV' := hide hcv
      clear HV hcv
      go_wp2_with fail
      refine (newEmpty_any _).mono ?_
      rintro e w2 ⟨rfl, hr2, hg2⟩
      go_wp2_with fail
      go_loopw [8] (fun iv wr => ∃ j : Nat, j ≤ k ∧ iv = .int .i64 j ∧ Rep wr w1.heap.size j (dist (bys ss) j) (lastv (bys ss) V j) ∧ w1.grownBy wr none) (fun iv _ => k - (intOf iv).toNat)
      case atStart => exact ⟨0, Nat.zero_le _, rfl, hr2, hg2⟩
      case round =>
        clear hr2 hg2
        obtain ⟨j, hj', rfl, hrep, hgr⟩ := hrel
        by_cases hjt : j < k
        · obtain ⟨s, hs⟩ : ∃ s, s = ss.getD j ByteArray.empty := ⟨_, rfl⟩
          have hck : wr.cell? ⟨b, o + j, none⟩ = some (.string s) := by rw [hs]; exact hgr.cell (HK.out j hjt).1 (by simp)
          have hcv : wr.cell? ⟨vb, vo + j, none⟩ = some (.int .i64 (V j)) := hgr.cell (HV'.out j (by omega)) (by simp)
          have hsz : s.size ≤ maxLen := by rw [hs]; exact (HK.out j hjt).2
          have HS' : Hid (s.data.toList = bys ss j) := by rw [hs]; rfl
          have H9 := hide (setInt_any (w := wr.drew) hrep.drew (by unfold maxLen; omega) hsz (V j))
          clear hs hsz
          go_wp2_with fail
          go_region_with (go_at_call 9; refine H9.out.mono ?_; rintro e w3 ⟨rfl, hr3, hg3⟩)
          all_goals
            go_wp2_with fail
            go_roundw
            case rel =>
              rw [HS'.out] at hr3
              exact ⟨j + 1, by omega, by go_num, hr3, grown_new (grown_drew hgr) hg3 (Nat.le_refl _)⟩
            case measure => simp [intOf]; omega
        · have hjn : j = k := by omega
          subst hjn
          go_wp2_with fail
          go_loopw [9, 10] (fun dv iv wr3 => ∃ i : Nat, i ≤ j ∧ dv = .int .i64 (dist (bys ss) i).length ∧ iv = .int .i64 i ∧ Rep wr3 w1.heap.size j (dist (bys ss) j) (lastv (bys ss) V j) ∧ w1.grownBy wr3 none) (fun _ iv _ => j - (intOf iv).toNat)
          case atStart => exact ⟨0, Nat.zero_le _, rfl, rfl, hrep, hgr⟩
          case round =>
            clear hrep hgr
            obtain ⟨i, hi', rfl, rfl, hrep, hgr⟩ := hrel
            have hdl := dist_len_le (bys ss) i
            by_cases hit : i < j
            · obtain ⟨s, hs⟩ : ∃ s, s = ss.getD i ByteArray.empty := ⟨_, rfl⟩
              have HSZ : Hid (s.size ≤ maxLen) := by rw [hs]; exact (HK.out i hit).2
              have HS' : Hid (s.data.toList = bys ss i) := by rw [hs]; rfl
              have HCK : Hid (w1.cell? ⟨b, o + i, none⟩ = some (.string s)) := by rw [hs]; exact (HK.out i hit).1
              have h10 := isFirst_any b o j kc i ss wr (by omega) hit (fun t ht => ⟨hgr.cell (HK.out t ht).1 (by simp), (HK.out t ht).2⟩)
              clear hs
              cases hf : firstB (bys ss) i
              · rw [hf] at h10
                have H10 := hide h10
                have HF := hide hf
                clear h10 hf
                go_wp2_with fail
                refine H10.out.mono ?_
                rintro e w3 ⟨rfl, hg3⟩
                go_wp2_with fail
                go_roundw
                case rel =>
                  have hin : bys ss i ∈ dist (bys ss) i := by simpa [firstB] using HF.out
                  exact ⟨i + 1, by omega, by rw [not_first hin], by go_num, hrep.kept hg3 (by simp), hgr.trans hg3⟩
                case measure => simp [intOf]; omega
              · rw [hf] at h10
                have H10 := hide h10
                have hfn : bys ss i ∉ dist (bys ss) i := by simpa [firstB] using hf
                have HF := hide hfn
                clear h10 hf hfn
                go_wp2_with fail
                refine H10.out.mono ?_
                rintro e w3 ⟨rfl, hg3⟩
                have hrep3 := hrep.kept hg3 (by simp)
                have hgr3 := hgr.trans hg3
                have hck3 : w3.cell? ⟨b, o + i, none⟩ = some (.string s) := hgr3.cell HCK.out (by simp)
                have h11 := entry_in hrep3 HSZ.out (by rw [HS'.out]; exact mem_dist.2 ⟨i, hit, rfl⟩)
                rw [HS'.out, place_first HF.out hit] at h11
                have H11 := hide h11
                clear hrep hgr hg3 H10 h11
                go_wp2_with fail
                refine H11.out.mono ?_
                rintro e w4 ⟨rfl, hg4⟩
                have hrep4 := hrep3.kept hg4 (by simp)
                have hgr4 := hgr3.trans hg4
                have hck4 : w4.cell? ⟨b, o + i, none⟩ = some (.string s) := hgr4.cell HCK.out (by simp)
                have h12 := lastValue_any b o j kc vb vo vlen vc ss V s w4 (by omega) (by omega) (fun t ht => ⟨hgr4.cell (HK.out t ht).1 (by simp), (HK.out t ht).2⟩) (fun t ht => hgr4.cell (HV'.out t (by omega)) (by simp)) ⟨i, hit, HS'.out.symm⟩
                rw [HS'.out] at h12
                have H12 := hide h12
                clear hrep3 hgr3 hck3 hg4 H11 h12
                go_wp2_with fail
                refine H12.out.mono ?_
                rintro e w5 ⟨rfl, rfl⟩
                go_wp2_with fail
                go_roundw
                case rel =>
                  exact ⟨i + 1, by omega, by rw [first_len HF.out]; go_num, by go_num, hrep4, hgr4⟩
                case measure => simp [intOf]; omega
            · have hij : i = j := by omega
              subst hij
              go_wp2_with (first | (at_len; refine wpList_len_rep rfl _ rfl hrep rfl ?_))
              go_ret
              exact ⟨ret_bool (by simp), hgr⟩

end Go.Proofs.Qxb6618885a.Dc
