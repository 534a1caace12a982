/-
  The two calls of FnAppendChainChangeOneMoreAddedGap: what is known where they begin, and the statements from there on.
-/
import Derived.Test.Qxb6618992aTails
namespace Go.Proofs.Qxb6618992a.Ch
open Go.RowKit

/-- both outputs, cut at the places that the law looks at. -/
theorem change_split (l : List UInt8) (name : ByteArray) (t : Np) (rs : Nat → Gp) (n3 : Nat) (ags : Nat → Gp) (n4 : Nat) (ps : Nat → Np) (n5 k : Nat) (g : Gp) (hk : k ≤ n4) :
    ∃ A G D : List UInt8, A.length = l.length + 4 + name.size + 16 + 4 + 32 * n3 ∧ G.length = 32 * k ∧ D.length = 32 * (n4 - k) + 4 + 16 * n5 ∧
      l ++ encChange name.data.toList t.1 (fun j => (rs j).1) n3 (fun j => (ags j).1) n4 (fun j => (ps j).1) n5 = A ++ (le4 n4 ++ (G ++ D)) ∧
      l ++ encChange name.data.toList t.1 (fun j => (rs j).1) n3 (fun j => (ins ags k g j).1) (n4 + 1) (fun j => (ps j).1) n5 = A ++ (le4 (n4 + 1) ++ (G ++ (be8 g.1.1.1 ++ (be8 g.1.1.2 ++ (be8 g.1.2.1 ++ (be8 g.1.2.2 ++ D)))))) := by
  have hnl : name.data.toList.length = name.size := by rw [Array.length_toList]; rfl
  refine ⟨l ++ (le4 name.data.toList.length ++ (name.data.toList ++ (encNum t.1 ++ encList (fun j => (rs j).1) n3))), encGaps (fun j => (ags j).1) k, encGaps (fun j => (ags (k + j)).1) (n4 - k) ++ (le4 n5 ++ encNums (fun j => (ps j).1) n5), ?_, encGaps_length _ _, ?_, ?_, ?_⟩
  · simp only [List.length_append, le4_length, encNum_length, encList_length, hnl]; omega
  · simp only [List.length_append, le4_length, encGaps_length, encNums_length]; omega
  · have e : encGaps (fun j => (ags j).1) n4 = encGaps (fun j => (ags j).1) k ++ encGaps (fun j => (ags (k + j)).1) (n4 - k) := by
      rw [← encGaps_add, show k + (n4 - k) = n4 by omega]
    simp only [encChange, encList, e, List.append_assoc]
  · have e := encGaps_ins ags k (n4 - k) g
    rw [show k + 1 + (n4 - k) = n4 + 1 by omega] at e
    simp only [encChange, encList, e, encGap, encNum, List.append_assoc]

theorem sep_of {B d ab : Nat} {w7 w8 : World} {sv : Value} {l : List UInt8} (ho : Own B w7 sv l) (hd : d < B) (h : ab = d ∨ w7.heap.size ≤ ab) (hlt : ab < w8.heap.size) : Sep w8 sv ab :=
  ⟨hlt, fun e => by have := ho.from e.symm; omega⟩
theorem Own.grown {B : Nat} {w w' : World} {v : Value} {l : List UInt8} (h : Own B w v l) (hg : w.grownBy w' none) : Own B w' v l :=
  World.ownsRow.kept h hg (by cases v.ownBlock <;> simp)

/-- what is known ahead of the calls. -/
structure Mid (w W : World) (a0 : Option Addr) (c0 : Nat) (l : List UInt8) (name : ByteArray) (t : Np) (n3 : Nat) (rs : Nat → Gp) (a4 : Option Addr) (n4 c4 : Nat) (ags : Nat → Gp) (n5 : Nat) (ps : Nat → Np) (k : Nat) (g : Gp) (ra : Option Addr) (rb : Nat) (pa : Option Addr) (pb q b17 : Nat) : Prop where
  gw : w.grownBy W none
  buf : BytesIn W a0 c0 l
  add : GapsIn W a4 n4 c4 ags
  one : GapsIn W (some ⟨b17, 0, none⟩) (n4 + 1) (n4 + 1) (ins ags k g)
  y0 : W.cell? ⟨w.heap.size + 1, 0, none⟩ = some (.int .u64 g.1.1.1)
  y1 : W.cell? ⟨w.heap.size + 1, 1, none⟩ = some (.int .u64 g.1.1.2)
  y2 : W.cell? ⟨w.heap.size + 1, 2, none⟩ = some (.int .u64 g.1.2.1)
  y3 : W.cell? ⟨w.heap.size + 1, 3, none⟩ = some (.int .u64 g.1.2.2)
  lt : w.heap.size + 1 < W.heap.size
  rem : Gaps W ra n3 rb rs
  rlt : rb < W.heap.size
  pas : Nums W pa n5 pb (fun j => (ps j).1)
  plt : pb < W.heap.size
  q0 : W.cell? ⟨q, 0, none⟩ = some (.int .u64 t.1.1)
  q1 : W.cell? ⟨q, 1, none⟩ = some (.int .u64 t.1.2)
  bl : l.length ≤ 65536
  bn : name.size ≤ 65536
  b3 : n3 ≤ 4096
  b4 : n4 ≤ 4096
  b5 : n5 ≤ 4096
  hk : k ≤ n4

section
variable {w W : World} {a0 : Option Addr} {c0 : Nat} {l : List UInt8} {name : ByteArray} {t : Np} {n3 : Nat} {rs : Nat → Gp} {a4 : Option Addr} {n4 c4 : Nat} {ags : Nat → Gp} {n5 : Nat} {ps : Nat → Np} {k : Nat} {g : Gp} {ra : Option Addr} {rb : Nat} {pa : Option Addr} {pb q b17 : Nat}
theorem Mid.grown (h : Mid w W a0 c0 l name t n3 rs a4 n4 c4 ags n5 ps k g ra rb pa pb q b17) {W' : World} (hg : W.grownBy W' none) : Mid w W' a0 c0 l name t n3 rs a4 n4 c4 ags n5 ps k g ra rb pa pb q b17 :=
  ⟨h.gw.trans hg, h.buf.grown hg, h.add.grown hg, h.one.grown hg, hg.cell h.y0 (by simp), hg.cell h.y1 (by simp), hg.cell h.y2 (by simp), hg.cell h.y3 (by simp), Nat.lt_of_lt_of_le h.lt hg.size,
    h.rem.grown hg, Nat.lt_of_lt_of_le h.rlt hg.size, h.pas.grown hg, Nat.lt_of_lt_of_le h.plt hg.size, hg.cell h.q0 (by simp), hg.cell h.q1 (by simp), h.bl, h.bn, h.b3, h.b4, h.b5, h.hk⟩

/-- the clone. -/
theorem Mid.clone (h : Mid w W a0 c0 l name t n3 rs a4 n4 c4 ags n5 ps k g ra rb pa pb q b17) : Calls Try.prog 10 #[.slice a0 l.length c0] W.drew fun e w' => ∃ v', e = .returned v' ∧ Own W.heap.size w' v' l ∧ W.drew.grownBy w' none :=
  clone_all a0 c0 l W.drew (by have := h.bl; omega) (h.buf.grown (grown_drew (World.grownBy.refl _ _)))

/-- the call itself. -/
theorem Mid.call (h : Mid w W a0 c0 l name t n3 rs a4 n4 c4 ags n5 ps k g ra rb pa pb q b17) (rc pc : Nat) (w7 w8 : World) (sv : Value) (aa : Option Addr) (m ac ab : Nat) (gs : Nat → Gp) (hb7 : W.grownBy w7 none) (ho7 : Own W.heap.size w7 sv l) (hg8 : w7.grownBy w8 none)
    (hA : Gaps w8 aa m ab gs) (hAl : ab = w.heap.size ∨ w7.heap.size ≤ ab) (hAs : ab < w8.heap.size) (hm : m ≤ 65536) :
    Calls Try.prog 9 #[sv, .string name, .agg #[.int .u64 t.1.1, .int .u64 t.1.2], .slice ra n3 rc, .slice aa m ac, .slice pa n5 pc] w8 fun e w' => ∃ v', e = .returned v' ∧ Own W.heap.size w' v' (l ++ encChange name.data.toList t.1 (fun j => (rs j).1) n3 (fun j => (gs j).1) m (fun j => (ps j).1) n5) ∧ W.grownBy w' none := by
  have hz7 := hb7.size
  have hz8 := hg8.size
  have hb8 := hb7.trans hg8
  have ho8 := ho7.grown hg8
  have hlt := h.lt
  have hsep : ∀ b, b < W.heap.size → Sep w8 sv b := fun b hb => ⟨by omega, fun e => by have := (ho8.from e.symm).1; omega⟩
  have e1 := h.bl
  have e2 := h.bn
  have e3 := h.b3
  have e4 := h.b5
  refine (zz_any W.heap.size sv l name t.1 ra n3 rc rb rs aa m ac ab gs pa n5 pc pb (fun j => (ps j).1) w8 ho8 (by omega) (by omega) (by omega) (by omega) (by omega) (by omega) t.2.1 t.2.2
    (h.rem.grown hb8) (hsep rb h.rlt) hA (sep_of ho7 (by omega) hAl hAs) (h.pas.grown hb8) (hsep pb h.plt)).mono ?_
  rintro e w' ⟨v', he, ho', hst⟩
  refine ⟨v', he, ho', ⟨hst.grown.os.trans hb8.os, hst.grown.tape.trans hb8.tape, hst.grown.output.trans hb8.output, Nat.le_trans hb8.size hst.grown.size, fun b hb _ => ?_⟩⟩
  exact (hst.block (hsep b hb).lt (hsep b hb).ne).trans (hb8.block b hb (by simp))
end

theorem out_length (l : List UInt8) (name : ByteArray) (t : Nat × Nat) (rs ags : Nat → (Nat × Nat) × (Nat × Nat)) (n3 n4 : Nat) (ps : Nat → Nat × Nat) (n5 : Nat) :
    (l ++ encChange name.data.toList t rs n3 ags n4 ps n5).length = l.length + (4 + name.size + 16 + 4 + 32 * n3 + 4 + 32 * n4 + 4 + 16 * n5) := by
  have hnl : name.data.toList.length = name.size := by rw [Array.length_toList]; rfl
  rw [List.length_append, encChange_length, hnl]

set_option maxRecDepth 100000 in
set_option maxHeartbeats 8000000 in
theorem left25 (w W : World) (a0 : Option Addr) (c0 : Nat) (l : List UInt8) (name : ByteArray) (t : Np) (n3 : Nat) (rs : Nat → Gp) (a4 : Option Addr) (n4 c4 : Nat) (ags : Nat → Gp) (n5 : Nat) (ps : Nat → Np) (k : Nat) (g : Gp) (ra : Option Addr) (rb : Nat) (pa : Option Addr) (pb q b17 : Nat) (a3 : Option Addr) (c3 : Nat) (a5 : Option Addr) (c5 rc pc : Nat) (B g1 N c1 : Nat) (h : Mid w W a0 c0 l name t n3 rs a4 n4 c4 ags n5 ps k g ra rb pa pb q b17) (hN : N = l.length + (4 + name.size + 16 + 4 + 32 * n3 + 4 + 32 * n4 + 4 + 16 * n5))
    (ho1 : Own B W (.slice (some ⟨g1, 0, none⟩) N c1) (l ++ encChange name.data.toList t.1 (fun j => (rs j).1) n3 (fun j => (ags j).1) n4 (fun j => (ps j).1) n5)) (u2 u7 u8 u9 u10 u11 u12 u13 u14 u16 u22 u23 u24 u25 u26 u27 u28 u29 u30 u31 u32 u33 u34 u35 u36 u37 u38 u39 u40 u41 u42 u43 u44 u45 u46 u47 u48 u49 u50 u51 u52 u53 u54 u55 u56 u57 u58 u59 u60 u61 u62 u63 u64 u65 u66 u67 u68 u69 u70 u71 u72 u73 u74 u75 u76 u77 u78 u79 u80 u81 u82 u83 u84 u85 u86 u87 u88 u89 u90 u91 u92 u93 u94 u95 u96 u97 u98 u99 u100 u101 u102 u103 u104 u105 u106 u107 u108 u109 u110 u111 u112 u113 u114 u115 u116 u117 u118 u119 u120 u121 u122 u123 u124 u125 u126 u127 u128 u129 u130 u131 u132 u133 u134 u135 u136 u137 u138 u139 u140 u141 u142 u143 u144 u145 u146 u147 u148 u149 u150 u151 u152 u153 u154 u155 u156 u157 u158 u159 u160 u161 u162 u163 u164 u165 u166 u167 u168 u169 u170 u171 u172 u173 u174 u175 u176 u177 u178 u179 u180 u181 u182 u183 u184 u185 u186 u187 u188 u189 u190 u191 u192 u193 u194 u195 u196 u197 u198 u199 u200 u201 u202 u203 u204 u205 u206 u207 u208 u209 u210 u211 u212 u213 u214 u215 u216 u217 u218 u219 u220 u221 u222 u223 u224 u225 u226 u227 u228 u229 u230 u231 u232 u233 u234 u235 u236 u237 u238 u239 : Value) :
    Code.wp Try.prog (left4 25) (bodyPost Try.prog Try.f4 fun e w' => e = .returned (.bool true) ∧ w.grownBy w' none) ⟨List.toArray (.slice a0 l.length c0 :: .string name :: u2 :: .slice a3 n3 c3 :: .slice a4 n4 c4 :: .slice a5 n5 c5 :: .int .i64 (k : Nat) :: u7 :: u8 :: u9 :: u10 :: u11 :: u12 :: u13 :: u14 :: .pointer (some ⟨w.heap.size + 1, 0, none⟩) :: u16 :: .slice (some ⟨b17, 0, none⟩) (n4 + 1) (n4 + 1) :: .slice ra n3 rc :: .slice pa n5 pc :: .pointer (some ⟨q, 0, none⟩) :: .slice (some ⟨g1, 0, none⟩) N c1 :: u22 :: u23 :: u24 :: u25 :: u26 :: u27 :: u28 :: u29 :: u30 :: u31 :: u32 :: u33 :: u34 :: u35 :: u36 :: u37 :: u38 :: u39 :: u40 :: u41 :: u42 :: u43 :: u44 :: u45 :: u46 :: u47 :: u48 :: u49 :: u50 :: u51 :: u52 :: u53 :: u54 :: u55 :: u56 :: u57 :: u58 :: u59 :: u60 :: u61 :: u62 :: u63 :: u64 :: u65 :: u66 :: u67 :: u68 :: u69 :: u70 :: u71 :: u72 :: u73 :: u74 :: u75 :: u76 :: u77 :: u78 :: u79 :: u80 :: u81 :: u82 :: u83 :: u84 :: u85 :: u86 :: u87 :: u88 :: u89 :: u90 :: u91 :: u92 :: u93 :: u94 :: u95 :: u96 :: u97 :: u98 :: u99 :: u100 :: u101 :: u102 :: u103 :: u104 :: u105 :: u106 :: u107 :: u108 :: u109 :: u110 :: u111 :: u112 :: u113 :: u114 :: u115 :: u116 :: u117 :: u118 :: u119 :: u120 :: u121 :: u122 :: u123 :: u124 :: u125 :: u126 :: u127 :: u128 :: u129 :: u130 :: u131 :: u132 :: u133 :: u134 :: u135 :: u136 :: u137 :: u138 :: u139 :: u140 :: u141 :: u142 :: u143 :: u144 :: u145 :: u146 :: u147 :: u148 :: u149 :: u150 :: u151 :: u152 :: u153 :: u154 :: u155 :: u156 :: u157 :: u158 :: u159 :: u160 :: u161 :: u162 :: u163 :: u164 :: u165 :: u166 :: u167 :: u168 :: u169 :: u170 :: u171 :: u172 :: u173 :: u174 :: u175 :: u176 :: u177 :: u178 :: u179 :: u180 :: u181 :: u182 :: u183 :: u184 :: u185 :: u186 :: u187 :: u188 :: u189 :: u190 :: u191 :: u192 :: u193 :: u194 :: u195 :: u196 :: u197 :: u198 :: u199 :: u200 :: u201 :: u202 :: u203 :: u204 :: u205 :: u206 :: u207 :: u208 :: u209 :: u210 :: u211 :: u212 :: u213 :: u214 :: u215 :: u216 :: u217 :: u218 :: u219 :: u220 :: u221 :: u222 :: u223 :: u224 :: u225 :: u226 :: u227 :: u228 :: u229 :: u230 :: u231 :: u232 :: u233 :: u234 :: u235 :: u236 :: u237 :: u238 :: u239 :: []), []⟩ W := by
  conv => arg 2; whnf
  have HF := hide h
  have HO1 := hide ho1
  have HNe := hide hN
  have hq0 := h.q0
  have hq1 := h.q1
  have H10 := hide h.clone
  have HM := hide h.one
  have HZ := hide (h.call rc pc)
  have b1 := h.bl
  have b4 := h.b4
  have hlt := h.lt
  have hn41 : n4 + 1 ≤ 65536 := by omega
  have HL : Hid ((l ++ encChange name.data.toList t.1 (fun j => (rs j).1) n3 (fun j => (ins ags k g j).1) (n4 + 1) (fun j => (ps j).1) n5).length = N + 32) := by
    show _ = _
    rw [out_length, hN]
    omega
  clear h ho1 hN
  refine wp_seq_k (fun K hK => ?_)
  have HK := hide hK
  clear hK
  go_upto_region 25 with fail
  go_cut [22] (fun v we => ∃ g2 c2, v = .slice (some ⟨g2, 0, none⟩) (N + 32) c2 ∧ Hid (Own W.heap.size we (.slice (some ⟨g2, 0, none⟩) (N + 32) c2) (l ++ encChange name.data.toList t.1 (fun j => (rs j).1) n3 (fun j => (ins ags k g j).1) (n4 + 1) (fun j => (ps j).1) n5) ∧ W.grownBy we none))
  case first =>
    go_region_with (first | (go_at_call 10; refine H10.out.mono ?_; rintro e w7 ⟨sv, rfl, ho7, hg7⟩; have hz0 := hg7.cell (show W.drew.cell? _ = _ from hq0) (by simp); have hz1 := hg7.cell (show W.drew.cell? _ = _ from hq1) (by simp); have hg7' := grown_undrew hg7) | (go_at_call 6; refine (toGaps_all (some ⟨b17, 0, none⟩) (n4 + 1) (n4 + 1) (ins ags k g) w.heap.size w7 hn41 (HM.out.grown hg7') (by have := hg7'.size; omega)).mono ?_; rintro e w8 ⟨aa, ac, ab, rfl, hA, hAl, hAs, hg8⟩; have hv0 := hg8.cell hz0 (by simp); have hv1 := hg8.cell hz1 (by simp)) | (go_at_call 9; refine (HZ.out w7 w8 sv aa _ ac ab (ins ags k g) hg7' ho7 hg8 hA hAl hAs hn41).mono ?_; rintro e w9 ⟨v9, rfl, ho9, hg9⟩))
    all_goals
      obtain ⟨g2, c2, hv⟩ := shape_len ho9 HL.out (by omega)
      go_wp2_with fail
      go_meet
      exact ⟨g2, c2, hv, by rw [← hv]; exact ho9, hg9⟩
  case rest =>
  obtain ⟨g2, c2, rfl, HO2⟩ := hcut
  refine HK.out _ _ ?_
  obtain ⟨A, G, D, hA, hG, hD, hE1, hE2⟩ := change_split l name t rs n3 ags n4 ps n5 k g HF.out.hk
  have ho1 := HO1.out.grown HO2.out.2
  have ho2 := HO2.out.1
  have hk1 := ho1.cap_le
  have hk2 := ho2.cap_le
  have hl1 := out_length l name t.1 (fun j => (rs j).1) (fun j => (ags j).1) n3 n4 (fun j => (ps j).1) n5
  rw [← HNe.out] at hl1
  rw [hl1] at hk1
  rw [HL.out] at hk2
  rw [hE1] at ho1
  rw [hE2] at ho2
  have hNe := HNe.out
  have x1 := HF.out.bn
  have x3 := HF.out.b3
  have x5 := HF.out.b5
  have xk := HF.out.hk
  have hM := HF.out.grown HO2.out.2
  have hFin : Fin w wc g1 g2 (w.heap.size + 1) N c1 c2 (l.length + 4 + name.size + 16 + 4 + 32 * n3) (l.length + 4 + name.size + 16 + 4 + 32 * n3 + 4 + 32 * k) n4 k g A G D :=
    ⟨⟨ho1.cellsAt, ho2.cellsAt, hM.gw, hM.y0, hM.y1, hM.y2, hM.y3⟩, hA, hG, rfl, by omega, by omega, by omega, by omega, hk1, hk2⟩
  exact left26 w wc g1 g2 (w.heap.size + 1) N c1 c2 _ _ n4 k g A G D a0 a3 a4 a5 l.length c0 n3 c3 c4 n5 c5 name hFin rfl hNe xk x3 x5 _ _ _ _ _ _ _ _ _ _ _ _ _ _ _ _ _ _ _ _ _ _ _ _ _ _ _ _ _ _ _ _ _ _ _ _ _ _ _ _ _ _ _ _ _ _ _ _ _ _ _ _ _ _ _ _ _ _ _ _ _ _ _ _ _ _ _ _ _ _ _ _ _ _ _ _ _ _ _ _ _ _ _ _ _ _ _ _ _ _ _ _ _ _ _ _ _ _ _ _ _ _ _ _ _ _ _ _ _ _ _ _ _ _ _ _ _ _ _ _ _ _ _ _ _ _ _ _ _ _ _ _ _ _ _ _ _ _ _ _ _ _ _ _ _ _ _ _ _ _ _ _ _ _ _ _ _ _ _ _ _ _ _ _ _ _ _ _ _ _ _ _ _ _ _ _ _ _ _ _ _ _ _ _ _ _ _ _ _ _ _ _ _ _ _ _ _ _ _ _ _ _ _ _ _ _ _ _ _ _ _ _ _ _ _ _ _ _ _ _ _ _ _ _ _ _ _ _ _ _ _

end Go.Proofs.Qxb6618992a.Ch
