/-
  FnAppendChainChangeOneMoreAddedGap from its first call on.
-/
import Derived.Test.Qxb6618992aMids
namespace Go.Proofs.Qxb6618992a.Ch
open Go.RowKit

set_option maxRecDepth 100000 in
set_option maxHeartbeats 8000000 in
theorem left24 (w W : World) (a0 : Option Addr) (c0 : Nat) (l : List UInt8) (name : ByteArray) (t : Np) (n3 : Nat) (rs : Nat → Gp) (a4 : Option Addr) (n4 c4 : Nat) (ags : Nat → Gp) (n5 : Nat) (ps : Nat → Np) (k : Nat) (g : Gp) (ra : Option Addr) (rb : Nat) (pa : Option Addr) (pb q b17 : Nat) (a3 : Option Addr) (c3 : Nat) (a5 : Option Addr) (c5 rc pc : Nat) (h : Mid w W a0 c0 l name t n3 rs a4 n4 c4 ags n5 ps k g ra rb pa pb q b17) (u2 u7 u8 u9 u10 u11 u12 u13 u14 u16 u21 u22 u23 u24 u25 u26 u27 u28 u29 u30 u31 u32 u33 u34 u35 u36 u37 u38 u39 u40 u41 u42 u43 u44 u45 u46 u47 u48 u49 u50 u51 u52 u53 u54 u55 u56 u57 u58 u59 u60 u61 u62 u63 u64 u65 u66 u67 u68 u69 u70 u71 u72 u73 u74 u75 u76 u77 u78 u79 u80 u81 u82 u83 u84 u85 u86 u87 u88 u89 u90 u91 u92 u93 u94 u95 u96 u97 u98 u99 u100 u101 u102 u103 u104 u105 u106 u107 u108 u109 u110 u111 u112 u113 u114 u115 u116 u117 u118 u119 u120 u121 u122 u123 u124 u125 u126 u127 u128 u129 u130 u131 u132 u133 u134 u135 u136 u137 u138 u139 u140 u141 u142 u143 u144 u145 u146 u147 u148 u149 u150 u151 u152 u153 u154 u155 u156 u157 u158 u159 u160 u161 u162 u163 u164 u165 u166 u167 u168 u169 u170 u171 u172 u173 u174 u175 u176 u177 u178 u179 u180 u181 u182 u183 u184 u185 u186 u187 u188 u189 u190 u191 u192 u193 u194 u195 u196 u197 u198 u199 u200 u201 u202 u203 u204 u205 u206 u207 u208 u209 u210 u211 u212 u213 u214 u215 u216 u217 u218 u219 u220 u221 u222 u223 u224 u225 u226 u227 u228 u229 u230 u231 u232 u233 u234 u235 u236 u237 u238 u239 : Value) :
    Code.wp Try.prog (left4 24) (bodyPost Try.prog Try.f4 fun e w' => e = .returned (.bool true) ∧ w.grownBy w' none) ⟨List.toArray (.slice a0 l.length c0 :: .string name :: u2 :: .slice a3 n3 c3 :: .slice a4 n4 c4 :: .slice a5 n5 c5 :: .int .i64 (k : Nat) :: u7 :: u8 :: u9 :: u10 :: u11 :: u12 :: u13 :: u14 :: .pointer (some ⟨w.heap.size + 1, 0, none⟩) :: u16 :: .slice (some ⟨b17, 0, none⟩) (n4 + 1) (n4 + 1) :: .slice ra n3 rc :: .slice pa n5 pc :: .pointer (some ⟨q, 0, none⟩) :: u21 :: u22 :: u23 :: u24 :: u25 :: u26 :: u27 :: u28 :: u29 :: u30 :: u31 :: u32 :: u33 :: u34 :: u35 :: u36 :: u37 :: u38 :: u39 :: u40 :: u41 :: u42 :: u43 :: u44 :: u45 :: u46 :: u47 :: u48 :: u49 :: u50 :: u51 :: u52 :: u53 :: u54 :: u55 :: u56 :: u57 :: u58 :: u59 :: u60 :: u61 :: u62 :: u63 :: u64 :: u65 :: u66 :: u67 :: u68 :: u69 :: u70 :: u71 :: u72 :: u73 :: u74 :: u75 :: u76 :: u77 :: u78 :: u79 :: u80 :: u81 :: u82 :: u83 :: u84 :: u85 :: u86 :: u87 :: u88 :: u89 :: u90 :: u91 :: u92 :: u93 :: u94 :: u95 :: u96 :: u97 :: u98 :: u99 :: u100 :: u101 :: u102 :: u103 :: u104 :: u105 :: u106 :: u107 :: u108 :: u109 :: u110 :: u111 :: u112 :: u113 :: u114 :: u115 :: u116 :: u117 :: u118 :: u119 :: u120 :: u121 :: u122 :: u123 :: u124 :: u125 :: u126 :: u127 :: u128 :: u129 :: u130 :: u131 :: u132 :: u133 :: u134 :: u135 :: u136 :: u137 :: u138 :: u139 :: u140 :: u141 :: u142 :: u143 :: u144 :: u145 :: u146 :: u147 :: u148 :: u149 :: u150 :: u151 :: u152 :: u153 :: u154 :: u155 :: u156 :: u157 :: u158 :: u159 :: u160 :: u161 :: u162 :: u163 :: u164 :: u165 :: u166 :: u167 :: u168 :: u169 :: u170 :: u171 :: u172 :: u173 :: u174 :: u175 :: u176 :: u177 :: u178 :: u179 :: u180 :: u181 :: u182 :: u183 :: u184 :: u185 :: u186 :: u187 :: u188 :: u189 :: u190 :: u191 :: u192 :: u193 :: u194 :: u195 :: u196 :: u197 :: u198 :: u199 :: u200 :: u201 :: u202 :: u203 :: u204 :: u205 :: u206 :: u207 :: u208 :: u209 :: u210 :: u211 :: u212 :: u213 :: u214 :: u215 :: u216 :: u217 :: u218 :: u219 :: u220 :: u221 :: u222 :: u223 :: u224 :: u225 :: u226 :: u227 :: u228 :: u229 :: u230 :: u231 :: u232 :: u233 :: u234 :: u235 :: u236 :: u237 :: u238 :: u239 :: []), []⟩ W := by
  conv => arg 2; whnf
  have HF := hide h
  have hq0 := h.q0
  have hq1 := h.q1
  have H10 := hide h.clone
  have HM := hide h.add
  have HZ := hide (h.call rc pc)
  have b1 := h.bl
  have b4 := h.b4
  have hlt := h.lt
  obtain ⟨N, hN⟩ : ∃ N, N = l.length + (4 + name.size + 16 + 4 + 32 * n3 + 4 + 32 * n4 + 4 + 16 * n5) := ⟨_, rfl⟩
  have hN0 : 0 < N := by omega
  have hn4 : n4 ≤ 65536 := by omega
  have HNe := hide hN
  have HL : Hid ((l ++ encChange name.data.toList t.1 (fun j => (rs j).1) n3 (fun j => (ags j).1) n4 (fun j => (ps j).1) n5).length = N) := by
    show _ = _
    rw [out_length, hN]
  clear h hN
  refine wp_seq_k (fun K hK => ?_)
  have HK := hide hK
  clear hK
  go_upto_region 24 with fail
  go_cut [21] (fun v we => ∃ g1 c1, v = .slice (some ⟨g1, 0, none⟩) N c1 ∧ Hid (Own W.heap.size we (.slice (some ⟨g1, 0, none⟩) N c1) (l ++ encChange name.data.toList t.1 (fun j => (rs j).1) n3 (fun j => (ags j).1) n4 (fun j => (ps j).1) n5) ∧ W.grownBy we none))
  case first =>
    go_region_with (first | (go_at_call 10; refine H10.out.mono ?_; rintro e w7 ⟨sv, rfl, ho7, hg7⟩; have hz0 := hg7.cell (show W.drew.cell? _ = _ from hq0) (by simp); have hz1 := hg7.cell (show W.drew.cell? _ = _ from hq1) (by simp); have hg7' := grown_undrew hg7) | (go_at_call 6; refine (toGaps_all a4 n4 c4 ags w.heap.size w7 hn4 (HM.out.grown hg7') (by have := hg7'.size; omega)).mono ?_; rintro e w8 ⟨aa, ac, ab, rfl, hA, hAl, hAs, hg8⟩; have hv0 := hg8.cell hz0 (by simp); have hv1 := hg8.cell hz1 (by simp)) | (go_at_call 9; refine (HZ.out w7 w8 sv aa _ ac ab ags hg7' ho7 hg8 hA hAl hAs hn4).mono ?_; rintro e w9 ⟨v9, rfl, ho9, hg9⟩))
    all_goals
      obtain ⟨g1, c1, hv⟩ := shape_len ho9 HL.out (hN0)
      go_wp2_with fail
      go_meet
      exact ⟨g1, c1, hv, by rw [← hv]; exact ho9, hg9⟩
  case rest =>
  obtain ⟨g1, c1, rfl, HO1⟩ := hcut
  refine HK.out _ _ ?_
  exact left25 w wc a0 c0 l name t n3 rs a4 n4 c4 ags n5 ps k g ra rb pa pb q b17 a3 c3 a5 c5 rc pc _ g1 N c1 (HF.out.grown HO1.out.2) HNe.out HO1.out.1 _ _ _ _ _ _ _ _ _ _ _ _ _ _ _ _ _ _ _ _ _ _ _ _ _ _ _ _ _ _ _ _ _ _ _ _ _ _ _ _ _ _ _ _ _ _ _ _ _ _ _ _ _ _ _ _ _ _ _ _ _ _ _ _ _ _ _ _ _ _ _ _ _ _ _ _ _ _ _ _ _ _ _ _ _ _ _ _ _ _ _ _ _ _ _ _ _ _ _ _ _ _ _ _ _ _ _ _ _ _ _ _ _ _ _ _ _ _ _ _ _ _ _ _ _ _ _ _ _ _ _ _ _ _ _ _ _ _ _ _ _ _ _ _ _ _ _ _ _ _ _ _ _ _ _ _ _ _ _ _ _ _ _ _ _ _ _ _ _ _ _ _ _ _ _ _ _ _ _ _ _ _ _ _ _ _ _ _ _ _ _ _ _ _ _ _ _ _ _ _ _ _ _ _ _ _ _ _ _ _ _ _ _ _ _ _ _ _ _ _ _ _ _ _ _ _ _ _

end Go.Proofs.Qxb6618992a.Ch
