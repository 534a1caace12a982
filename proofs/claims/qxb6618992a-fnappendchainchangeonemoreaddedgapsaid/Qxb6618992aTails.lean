/-
  The end of FnAppendChainChangeOneMoreAddedGap, a statement of Go at a time: what the law reads of the two outputs.
-/
import Derived.Test.Qxb6618992aLaw3
import Derived.Test.Qxb6618992aMore
import Derived.Test.Qxb6618992aOuts
import Derived.OwnWalk
namespace Go.Proofs.Qxb6618992a.Ch
open Go.RowKit

/-- does the code begin with region n? -/
def begins (n : Nat) : Code → Bool
  | .region m _ _ => m == n
  | .seq a _ => begins n a
  | _ => false
/-- what is left of the code from region n on. -/
def leftAt (n : Nat) : Code → Option Code
  | .seq a b => if begins n a then some (.seq a b) else match leftAt n b with
    | some c => some c
    | none => leftAt n a
  | .block _ c => leftAt n c
  | _ => none
noncomputable def left4 (n : Nat) : Code := (Try.f4.body.bind (leftAt n)).getD .skip

/-- what the two outputs hold, and where. -/
structure Fin (w W : World) (g1 g2 hb N c1 c2 P Q n4 k : Nat) (g : Gp) (A G D : List UInt8) : Prop where
  outs : Outs w W g1 g2 hb (A ++ (le4 n4 ++ (G ++ D))) (A ++ (le4 (n4 + 1) ++ (G ++ (be8 g.1.1.1 ++ (be8 g.1.1.2 ++ (be8 g.1.2.1 ++ (be8 g.1.2.2 ++ D))))))) g
  hA : A.length = P
  hG : G.length = 32 * k
  hQ : Q = P + 4 + 32 * k
  hN : N = Q + D.length
  hb1 : N ≤ 1048576
  hD : 4 ≤ D.length
  h4 : n4 ≤ 4096
  hc1 : N ≤ c1
  hc2 : N + 32 ≤ c2
theorem Fin.drewN {w W : World} {g1 g2 hb N c1 c2 P Q n4 k : Nat} {g : Gp} {A G D : List UInt8} (h : Fin w W g1 g2 hb N c1 c2 P Q n4 k g A G D) (n : Nat) : Fin w (W.drewN n) g1 g2 hb N c1 c2 P Q n4 k g A G D :=
  ⟨h.outs.drewN n, h.hA, h.hG, h.hQ, h.hN, h.hb1, h.hD, h.h4, h.hc1, h.hc2⟩

set_option maxRecDepth 100000 in
set_option maxHeartbeats 8000000 in
theorem left39 (w W : World) (g1 g2 hb N c1 c2 P Q n4 k : Nat) (g : Gp) (A G D : List UInt8) (a0 a3 a4 a5 : Option Addr) (n0 c0 n3 c3 c4 n5 c5 : Nat) (name : ByteArray) (h : Fin w W g1 g2 hb N c1 c2 P Q n4 k g A G D) (u2 u7 u8 u9 u10 u11 u12 u13 u14 u16 u17 u18 u19 u20 u23 u26 u27 u28 u29 u30 u31 u32 u33 u34 u35 u36 u37 u38 u39 u40 u41 u42 u43 u44 u45 u46 u47 u48 u49 u50 u51 u52 u53 u54 u55 u56 u57 u58 u59 u60 u61 u62 u63 u64 u65 u66 u67 u68 u69 u70 u71 u72 u73 u74 u75 u76 u77 u78 u79 u80 u81 u82 u83 u84 u85 u86 u87 u88 u89 u90 u91 u92 u93 u94 u95 u96 u97 u98 u99 u100 u101 u102 u103 u104 u105 u106 u107 u108 u109 u110 u111 u112 u113 u114 u115 u116 u117 u118 u119 u120 u121 u122 u123 u124 u125 u126 u127 u128 u129 u130 u131 u132 u133 u134 u135 u136 u137 u138 u139 u140 u141 u142 u143 u144 u145 u146 u147 u148 u149 u150 u151 u152 u153 u154 u155 u156 u157 u158 u159 u160 u161 u162 u163 u164 u165 u166 u167 u168 u169 u170 u171 u172 u173 u174 u175 u176 u177 u178 u179 u180 u181 u182 u183 u184 u185 u186 u187 u188 u189 u190 u191 u192 u193 u194 u195 u196 u197 u198 u199 u200 u201 u202 u203 u204 u205 u206 u207 u208 u209 u210 u211 u212 u213 u214 u215 u216 u217 u218 u219 u220 u221 u222 u223 u224 u225 u226 u227 u228 u229 u230 u231 u232 u233 u234 u235 u236 u237 u238 u239 : Value) :
    Code.wp Try.prog (left4 39) (bodyPost Try.prog Try.f4 fun e w' => e = .returned (.bool true) ∧ w.grownBy w' none) ⟨List.toArray (.slice a0 n0 c0 :: .string name :: u2 :: .slice a3 n3 c3 :: .slice a4 n4 c4 :: .slice a5 n5 c5 :: .int .i64 (k : Nat) :: u7 :: u8 :: u9 :: u10 :: u11 :: u12 :: u13 :: u14 :: .pointer (some ⟨hb, 0, none⟩) :: u16 :: u17 :: u18 :: u19 :: u20 :: .slice (some ⟨g1, 0, none⟩) N c1 :: .slice (some ⟨g2, 0, none⟩) (N + 32) c2 :: u23 :: .int .i64 (P : Nat) :: .int .i64 (Q : Nat) :: u26 :: u27 :: u28 :: u29 :: u30 :: u31 :: u32 :: u33 :: u34 :: u35 :: u36 :: u37 :: u38 :: u39 :: u40 :: u41 :: u42 :: u43 :: u44 :: u45 :: u46 :: u47 :: u48 :: u49 :: u50 :: u51 :: u52 :: u53 :: u54 :: u55 :: u56 :: u57 :: u58 :: u59 :: u60 :: u61 :: u62 :: u63 :: u64 :: u65 :: u66 :: u67 :: u68 :: u69 :: u70 :: u71 :: u72 :: u73 :: u74 :: u75 :: u76 :: u77 :: u78 :: u79 :: u80 :: u81 :: u82 :: u83 :: u84 :: u85 :: u86 :: u87 :: u88 :: u89 :: u90 :: u91 :: u92 :: u93 :: u94 :: u95 :: u96 :: u97 :: u98 :: u99 :: u100 :: u101 :: u102 :: u103 :: u104 :: u105 :: u106 :: u107 :: u108 :: u109 :: u110 :: u111 :: u112 :: u113 :: u114 :: u115 :: u116 :: u117 :: u118 :: u119 :: u120 :: u121 :: u122 :: u123 :: u124 :: u125 :: u126 :: u127 :: u128 :: u129 :: u130 :: u131 :: u132 :: u133 :: u134 :: u135 :: u136 :: u137 :: u138 :: u139 :: u140 :: u141 :: u142 :: u143 :: u144 :: u145 :: u146 :: u147 :: u148 :: u149 :: u150 :: u151 :: u152 :: u153 :: u154 :: u155 :: u156 :: u157 :: u158 :: u159 :: u160 :: u161 :: u162 :: u163 :: u164 :: u165 :: u166 :: u167 :: u168 :: u169 :: u170 :: u171 :: u172 :: u173 :: u174 :: u175 :: u176 :: u177 :: u178 :: u179 :: u180 :: u181 :: u182 :: u183 :: u184 :: u185 :: u186 :: u187 :: u188 :: u189 :: u190 :: u191 :: u192 :: u193 :: u194 :: u195 :: u196 :: u197 :: u198 :: u199 :: u200 :: u201 :: u202 :: u203 :: u204 :: u205 :: u206 :: u207 :: u208 :: u209 :: u210 :: u211 :: u212 :: u213 :: u214 :: u215 :: u216 :: u217 :: u218 :: u219 :: u220 :: u221 :: u222 :: u223 :: u224 :: u225 :: u226 :: u227 :: u228 :: u229 :: u230 :: u231 :: u232 :: u233 :: u234 :: u235 :: u236 :: u237 :: u238 :: u239 :: []), []⟩ W := by
  conv => arg 2; whnf
  have HF := hide h
  have f1 := h.hN
  have f2 := h.hc1
  have f3 := h.hc2
  have f4 := h.hD
  have f5 := h.hb1
  have k1 : ¬ c1 = Q := by omega
  have k2 : ¬ c2 = Q + 32 := by omega
  have k3 : (Q : Int) ≤ (N : Int) := by omega
  have k4 : (Q : Int) + 32 ≤ ((N + 32 : Nat) : Int) := by omega
  have HQ := hide (fun (d1 d2 q : Nat) => h.outs.eq (A ++ (le4 n4 ++ G)) (A ++ (le4 (n4 + 1) ++ (G ++ (be8 g.1.1.1 ++ (be8 g.1.1.2 ++ (be8 g.1.2.1 ++ be8 g.1.2.2)))))) D [] [] (by simp) (by simp) (by omega) Q (N - Q) d1 (Q + 32) (N - Q) d2 q
    (by have := h.hA; have := h.hG; have := h.hQ; simp only [List.length_append, le4_length]; omega) (by omega) (by have := h.hA; have := h.hG; have := h.hQ; simp only [List.length_append, le4_length, be8_length]; omega) (by omega))
  have F1 := hide f1
  clear h f1
  go_upto_region 39 with fail
  go_quiet (first | (go_at_call 11; refine Calls.quiet_of (HQ.out _ _ _)))
  go_wp2_with fail
  go_ret
  exact ⟨rfl, (HF.out.drewN nq).outs.gr⟩

set_option maxRecDepth 100000 in
set_option maxHeartbeats 8000000 in
theorem left37 (w W : World) (g1 g2 hb N c1 c2 P Q n4 k : Nat) (g : Gp) (A G D : List UInt8) (a0 a3 a4 a5 : Option Addr) (n0 c0 n3 c3 c4 n5 c5 : Nat) (name : ByteArray) (h : Fin w W g1 g2 hb N c1 c2 P Q n4 k g A G D) (u2 u7 u8 u9 u10 u11 u12 u13 u14 u16 u17 u18 u19 u20 u23 u26 u27 u28 u29 u30 u31 u32 u33 u34 u35 u36 u37 u38 u39 u40 u41 u42 u43 u44 u45 u46 u47 u48 u49 u50 u51 u52 u53 u54 u55 u56 u57 u58 u59 u60 u61 u62 u63 u64 u65 u66 u67 u68 u69 u70 u71 u72 u73 u74 u75 u76 u77 u78 u79 u80 u81 u82 u83 u84 u85 u86 u87 u88 u89 u90 u91 u92 u93 u94 u95 u96 u97 u98 u99 u100 u101 u102 u103 u104 u105 u106 u107 u108 u109 u110 u111 u112 u113 u114 u115 u116 u117 u118 u119 u120 u121 u122 u123 u124 u125 u126 u127 u128 u129 u130 u131 u132 u133 u134 u135 u136 u137 u138 u139 u140 u141 u142 u143 u144 u145 u146 u147 u148 u149 u150 u151 u152 u153 u154 u155 u156 u157 u158 u159 u160 u161 u162 u163 u164 u165 u166 u167 u168 u169 u170 u171 u172 u173 u174 u175 u176 u177 u178 u179 u180 u181 u182 u183 u184 u185 u186 u187 u188 u189 u190 u191 u192 u193 u194 u195 u196 u197 u198 u199 u200 u201 u202 u203 u204 u205 u206 u207 u208 u209 u210 u211 u212 u213 u214 u215 u216 u217 u218 u219 u220 u221 u222 u223 u224 u225 u226 u227 u228 u229 u230 u231 u232 u233 u234 u235 u236 u237 u238 u239 : Value) :
    Code.wp Try.prog (left4 37) (bodyPost Try.prog Try.f4 fun e w' => e = .returned (.bool true) ∧ w.grownBy w' none) ⟨List.toArray (.slice a0 n0 c0 :: .string name :: u2 :: .slice a3 n3 c3 :: .slice a4 n4 c4 :: .slice a5 n5 c5 :: .int .i64 (k : Nat) :: u7 :: u8 :: u9 :: u10 :: u11 :: u12 :: u13 :: u14 :: .pointer (some ⟨hb, 0, none⟩) :: u16 :: u17 :: u18 :: u19 :: u20 :: .slice (some ⟨g1, 0, none⟩) N c1 :: .slice (some ⟨g2, 0, none⟩) (N + 32) c2 :: u23 :: .int .i64 (P : Nat) :: .int .i64 (Q : Nat) :: u26 :: u27 :: u28 :: u29 :: u30 :: u31 :: u32 :: u33 :: u34 :: u35 :: u36 :: u37 :: u38 :: u39 :: u40 :: u41 :: u42 :: u43 :: u44 :: u45 :: u46 :: u47 :: u48 :: u49 :: u50 :: u51 :: u52 :: u53 :: u54 :: u55 :: u56 :: u57 :: u58 :: u59 :: u60 :: u61 :: u62 :: u63 :: u64 :: u65 :: u66 :: u67 :: u68 :: u69 :: u70 :: u71 :: u72 :: u73 :: u74 :: u75 :: u76 :: u77 :: u78 :: u79 :: u80 :: u81 :: u82 :: u83 :: u84 :: u85 :: u86 :: u87 :: u88 :: u89 :: u90 :: u91 :: u92 :: u93 :: u94 :: u95 :: u96 :: u97 :: u98 :: u99 :: u100 :: u101 :: u102 :: u103 :: u104 :: u105 :: u106 :: u107 :: u108 :: u109 :: u110 :: u111 :: u112 :: u113 :: u114 :: u115 :: u116 :: u117 :: u118 :: u119 :: u120 :: u121 :: u122 :: u123 :: u124 :: u125 :: u126 :: u127 :: u128 :: u129 :: u130 :: u131 :: u132 :: u133 :: u134 :: u135 :: u136 :: u137 :: u138 :: u139 :: u140 :: u141 :: u142 :: u143 :: u144 :: u145 :: u146 :: u147 :: u148 :: u149 :: u150 :: u151 :: u152 :: u153 :: u154 :: u155 :: u156 :: u157 :: u158 :: u159 :: u160 :: u161 :: u162 :: u163 :: u164 :: u165 :: u166 :: u167 :: u168 :: u169 :: u170 :: u171 :: u172 :: u173 :: u174 :: u175 :: u176 :: u177 :: u178 :: u179 :: u180 :: u181 :: u182 :: u183 :: u184 :: u185 :: u186 :: u187 :: u188 :: u189 :: u190 :: u191 :: u192 :: u193 :: u194 :: u195 :: u196 :: u197 :: u198 :: u199 :: u200 :: u201 :: u202 :: u203 :: u204 :: u205 :: u206 :: u207 :: u208 :: u209 :: u210 :: u211 :: u212 :: u213 :: u214 :: u215 :: u216 :: u217 :: u218 :: u219 :: u220 :: u221 :: u222 :: u223 :: u224 :: u225 :: u226 :: u227 :: u228 :: u229 :: u230 :: u231 :: u232 :: u233 :: u234 :: u235 :: u236 :: u237 :: u238 :: u239 :: []), []⟩ W := by
  conv => arg 2; whnf
  have HF := hide h
  have f1 := h.hN
  have f2 := h.hc1
  have f3 := h.hc2
  have f4 := h.hD
  have f5 := h.hb1
  have y0 := h.outs.y0
  have y1 := h.outs.y1
  have y2 := h.outs.y2
  have y3 := h.outs.y3
  have eA := h.hA
  have eG := h.hG
  have eQ := h.hQ
  have hL2 : N + 32 = (A ++ (le4 (n4 + 1) ++ (G ++ (be8 g.1.1.1 ++ (be8 g.1.1.2 ++ (be8 g.1.2.1 ++ (be8 g.1.2.2 ++ D))))))).length := by
    simp only [List.length_append, le4_length, be8_length]; omega
  have B0 : Hid (∀ (i : Int) (q : Nat), i = (Q : Int) → Calls Try.prog 13 #[.slice (some ⟨g2, 0, none⟩) (N + 32) c2, .int .i64 i] (W.drewN q) fun e w' => e = .returned (.int .u64 g.1.1.1) ∧ w' = W.drewN q) := fun i q hi =>
    h.outs.be (A ++ (le4 (n4 + 1) ++ G)) (be8 g.1.1.2 ++ (be8 g.1.2.1 ++ (be8 g.1.2.2 ++ D))) g.1.1.1 (by simp) (N + 32) c2 hL2 (by omega) g.2.1.1 i q (by simp only [List.length_append, le4_length]; omega)
  have B1 : Hid (∀ (i : Int) (q : Nat), i = (Q : Int) + 8 → Calls Try.prog 13 #[.slice (some ⟨g2, 0, none⟩) (N + 32) c2, .int .i64 i] (W.drewN q) fun e w' => e = .returned (.int .u64 g.1.1.2) ∧ w' = W.drewN q) := fun i q hi =>
    h.outs.be (A ++ (le4 (n4 + 1) ++ (G ++ be8 g.1.1.1))) (be8 g.1.2.1 ++ (be8 g.1.2.2 ++ D)) g.1.1.2 (by simp) (N + 32) c2 hL2 (by omega) g.2.1.2 i q (by simp only [List.length_append, le4_length, be8_length]; omega)
  have B2 : Hid (∀ (i : Int) (q : Nat), i = (Q : Int) + 16 → Calls Try.prog 13 #[.slice (some ⟨g2, 0, none⟩) (N + 32) c2, .int .i64 i] (W.drewN q) fun e w' => e = .returned (.int .u64 g.1.2.1) ∧ w' = W.drewN q) := fun i q hi =>
    h.outs.be (A ++ (le4 (n4 + 1) ++ (G ++ (be8 g.1.1.1 ++ be8 g.1.1.2)))) (be8 g.1.2.2 ++ D) g.1.2.1 (by simp) (N + 32) c2 hL2 (by omega) g.2.2.1 i q (by simp only [List.length_append, le4_length, be8_length]; omega)
  have B3 : Hid (∀ (i : Int) (q : Nat), i = (Q : Int) + 24 → Calls Try.prog 13 #[.slice (some ⟨g2, 0, none⟩) (N + 32) c2, .int .i64 i] (W.drewN q) fun e w' => e = .returned (.int .u64 g.1.2.2) ∧ w' = W.drewN q) := fun i q hi =>
    h.outs.be (A ++ (le4 (n4 + 1) ++ (G ++ (be8 g.1.1.1 ++ (be8 g.1.1.2 ++ be8 g.1.2.1))))) D g.1.2.2 (by simp) (N + 32) c2 hL2 (by omega) g.2.2.2 i q (by simp only [List.length_append, le4_length, be8_length]; omega)
  have hQb : Q ≤ 1048576 := by omega
  clear h f1 f2 f3 f4 f5 eA eG eQ hL2
  refine wp_seq_k (fun K hK => ?_)
  have HK := hide hK
  clear hK
  go_upto_region 37 with fail
  go_quiet (first | (go_at_call 13; refine Calls.quiet_of_same (B0.out _ _ ?_); first | omega | (rw [IntKind.wrap_i64]; omega)) | (go_at_call 13; refine Calls.quiet_of_same (B1.out _ _ ?_); first | omega | (rw [IntKind.wrap_i64]; omega)) | (go_at_call 13; refine Calls.quiet_of_same (B2.out _ _ ?_); first | omega | (rw [IntKind.wrap_i64]; omega)) | (go_at_call 13; refine Calls.quiet_of_same (B3.out _ _ ?_); first | omega | (rw [IntKind.wrap_i64]; omega)))
  go_wp2_with fail
  refine HK.out _ _ ?_
  exact left39 w _ g1 g2 hb N c1 c2 P Q n4 k g A G D a0 a3 a4 a5 n0 c0 n3 c3 c4 n5 c5 name (HF.out.drewN nq) _ _ _ _ _ _ _ _ _ _ _ _ _ _ _ _ _ _ _ _ _ _ _ _ _ _ _ _ _ _ _ _ _ _ _ _ _ _ _ _ _ _ _ _ _ _ _ _ _ _ _ _ _ _ _ _ _ _ _ _ _ _ _ _ _ _ _ _ _ _ _ _ _ _ _ _ _ _ _ _ _ _ _ _ _ _ _ _ _ _ _ _ _ _ _ _ _ _ _ _ _ _ _ _ _ _ _ _ _ _ _ _ _ _ _ _ _ _ _ _ _ _ _ _ _ _ _ _ _ _ _ _ _ _ _ _ _ _ _ _ _ _ _ _ _ _ _ _ _ _ _ _ _ _ _ _ _ _ _ _ _ _ _ _ _ _ _ _ _ _ _ _ _ _ _ _ _ _ _ _ _ _ _ _ _ _ _ _ _ _ _ _ _ _ _ _ _ _ _ _ _ _ _ _ _ _ _ _ _ _ _ _ _ _ _ _ _ _ _ _ _ _ _ _ _ _ _ _ _

set_option maxRecDepth 100000 in
set_option maxHeartbeats 8000000 in
theorem left35 (w W : World) (g1 g2 hb N c1 c2 P Q n4 k : Nat) (g : Gp) (A G D : List UInt8) (a0 a3 a4 a5 : Option Addr) (n0 c0 n3 c3 c4 n5 c5 : Nat) (name : ByteArray) (h : Fin w W g1 g2 hb N c1 c2 P Q n4 k g A G D) (u2 u7 u8 u9 u10 u11 u12 u13 u14 u16 u17 u18 u19 u20 u23 u26 u27 u28 u29 u30 u31 u32 u33 u34 u35 u36 u37 u38 u39 u40 u41 u42 u43 u44 u45 u46 u47 u48 u49 u50 u51 u52 u53 u54 u55 u56 u57 u58 u59 u60 u61 u62 u63 u64 u65 u66 u67 u68 u69 u70 u71 u72 u73 u74 u75 u76 u77 u78 u79 u80 u81 u82 u83 u84 u85 u86 u87 u88 u89 u90 u91 u92 u93 u94 u95 u96 u97 u98 u99 u100 u101 u102 u103 u104 u105 u106 u107 u108 u109 u110 u111 u112 u113 u114 u115 u116 u117 u118 u119 u120 u121 u122 u123 u124 u125 u126 u127 u128 u129 u130 u131 u132 u133 u134 u135 u136 u137 u138 u139 u140 u141 u142 u143 u144 u145 u146 u147 u148 u149 u150 u151 u152 u153 u154 u155 u156 u157 u158 u159 u160 u161 u162 u163 u164 u165 u166 u167 u168 u169 u170 u171 u172 u173 u174 u175 u176 u177 u178 u179 u180 u181 u182 u183 u184 u185 u186 u187 u188 u189 u190 u191 u192 u193 u194 u195 u196 u197 u198 u199 u200 u201 u202 u203 u204 u205 u206 u207 u208 u209 u210 u211 u212 u213 u214 u215 u216 u217 u218 u219 u220 u221 u222 u223 u224 u225 u226 u227 u228 u229 u230 u231 u232 u233 u234 u235 u236 u237 u238 u239 : Value) :
    Code.wp Try.prog (left4 35) (bodyPost Try.prog Try.f4 fun e w' => e = .returned (.bool true) ∧ w.grownBy w' none) ⟨List.toArray (.slice a0 n0 c0 :: .string name :: u2 :: .slice a3 n3 c3 :: .slice a4 n4 c4 :: .slice a5 n5 c5 :: .int .i64 (k : Nat) :: u7 :: u8 :: u9 :: u10 :: u11 :: u12 :: u13 :: u14 :: .pointer (some ⟨hb, 0, none⟩) :: u16 :: u17 :: u18 :: u19 :: u20 :: .slice (some ⟨g1, 0, none⟩) N c1 :: .slice (some ⟨g2, 0, none⟩) (N + 32) c2 :: u23 :: .int .i64 (P : Nat) :: .int .i64 (Q : Nat) :: u26 :: u27 :: u28 :: u29 :: u30 :: u31 :: u32 :: u33 :: u34 :: u35 :: u36 :: u37 :: u38 :: u39 :: u40 :: u41 :: u42 :: u43 :: u44 :: u45 :: u46 :: u47 :: u48 :: u49 :: u50 :: u51 :: u52 :: u53 :: u54 :: u55 :: u56 :: u57 :: u58 :: u59 :: u60 :: u61 :: u62 :: u63 :: u64 :: u65 :: u66 :: u67 :: u68 :: u69 :: u70 :: u71 :: u72 :: u73 :: u74 :: u75 :: u76 :: u77 :: u78 :: u79 :: u80 :: u81 :: u82 :: u83 :: u84 :: u85 :: u86 :: u87 :: u88 :: u89 :: u90 :: u91 :: u92 :: u93 :: u94 :: u95 :: u96 :: u97 :: u98 :: u99 :: u100 :: u101 :: u102 :: u103 :: u104 :: u105 :: u106 :: u107 :: u108 :: u109 :: u110 :: u111 :: u112 :: u113 :: u114 :: u115 :: u116 :: u117 :: u118 :: u119 :: u120 :: u121 :: u122 :: u123 :: u124 :: u125 :: u126 :: u127 :: u128 :: u129 :: u130 :: u131 :: u132 :: u133 :: u134 :: u135 :: u136 :: u137 :: u138 :: u139 :: u140 :: u141 :: u142 :: u143 :: u144 :: u145 :: u146 :: u147 :: u148 :: u149 :: u150 :: u151 :: u152 :: u153 :: u154 :: u155 :: u156 :: u157 :: u158 :: u159 :: u160 :: u161 :: u162 :: u163 :: u164 :: u165 :: u166 :: u167 :: u168 :: u169 :: u170 :: u171 :: u172 :: u173 :: u174 :: u175 :: u176 :: u177 :: u178 :: u179 :: u180 :: u181 :: u182 :: u183 :: u184 :: u185 :: u186 :: u187 :: u188 :: u189 :: u190 :: u191 :: u192 :: u193 :: u194 :: u195 :: u196 :: u197 :: u198 :: u199 :: u200 :: u201 :: u202 :: u203 :: u204 :: u205 :: u206 :: u207 :: u208 :: u209 :: u210 :: u211 :: u212 :: u213 :: u214 :: u215 :: u216 :: u217 :: u218 :: u219 :: u220 :: u221 :: u222 :: u223 :: u224 :: u225 :: u226 :: u227 :: u228 :: u229 :: u230 :: u231 :: u232 :: u233 :: u234 :: u235 :: u236 :: u237 :: u238 :: u239 :: []), []⟩ W := by
  conv => arg 2; whnf
  have HF := hide h
  have f1 := h.hN
  have f2 := h.hc1
  have f3 := h.hc2
  have f4 := h.hD
  have f5 := h.hb1
  have eA := h.hA
  have eG := h.hG
  have eQ := h.hQ
  have k1 : ¬ c1 = P + 4 := by omega
  have k2 : ¬ c2 = P + 4 := by omega
  have k3 : (P : Int) + 4 ≤ (Q : Int) := by omega
  have k4 : (Q : Int) ≤ (c1 : Int) := by omega
  have k5 : (Q : Int) ≤ (c2 : Int) := by omega
  have HQ := hide (fun (d1 d2 q : Nat) => h.outs.eq (A ++ le4 n4) (A ++ le4 (n4 + 1)) G D (be8 g.1.1.1 ++ (be8 g.1.1.2 ++ (be8 g.1.2.1 ++ (be8 g.1.2.2 ++ D)))) (by simp) (by simp) (by omega) (P + 4) (Q - (P + 4)) d1 (P + 4) (Q - (P + 4)) d2 q
    (by simp only [List.length_append, le4_length]; omega) (by omega) (by simp only [List.length_append, le4_length]; omega) (by omega))
  have hQb : Q ≤ 1048576 := by omega
  have hPb : P ≤ 1048576 := by omega
  clear h f1 f2 f3 f4 f5 eA eG eQ
  refine wp_seq_k (fun K hK => ?_)
  have HK := hide hK
  clear hK
  go_upto_region 35 with fail
  go_quiet (first | (go_at_call 11; refine Calls.quiet_of (HQ.out _ _ _)))
  go_wp2_with fail
  refine HK.out _ _ ?_
  exact left37 w _ g1 g2 hb N c1 c2 P Q n4 k g A G D a0 a3 a4 a5 n0 c0 n3 c3 c4 n5 c5 name (HF.out.drewN nq) _ _ _ _ _ _ _ _ _ _ _ _ _ _ _ _ _ _ _ _ _ _ _ _ _ _ _ _ _ _ _ _ _ _ _ _ _ _ _ _ _ _ _ _ _ _ _ _ _ _ _ _ _ _ _ _ _ _ _ _ _ _ _ _ _ _ _ _ _ _ _ _ _ _ _ _ _ _ _ _ _ _ _ _ _ _ _ _ _ _ _ _ _ _ _ _ _ _ _ _ _ _ _ _ _ _ _ _ _ _ _ _ _ _ _ _ _ _ _ _ _ _ _ _ _ _ _ _ _ _ _ _ _ _ _ _ _ _ _ _ _ _ _ _ _ _ _ _ _ _ _ _ _ _ _ _ _ _ _ _ _ _ _ _ _ _ _ _ _ _ _ _ _ _ _ _ _ _ _ _ _ _ _ _ _ _ _ _ _ _ _ _ _ _ _ _ _ _ _ _ _ _ _ _ _ _ _ _ _ _ _ _ _ _ _ _ _ _ _ _ _ _ _ _ _ _ _ _ _

set_option maxRecDepth 100000 in
set_option maxHeartbeats 8000000 in
theorem left33 (w W : World) (g1 g2 hb N c1 c2 P Q n4 k : Nat) (g : Gp) (A G D : List UInt8) (a0 a3 a4 a5 : Option Addr) (n0 c0 n3 c3 c4 n5 c5 : Nat) (name : ByteArray) (h : Fin w W g1 g2 hb N c1 c2 P Q n4 k g A G D) (u2 u7 u8 u9 u10 u11 u12 u13 u14 u16 u17 u18 u19 u20 u23 u26 u27 u28 u29 u30 u31 u32 u33 u34 u35 u36 u37 u38 u39 u40 u41 u42 u43 u44 u45 u46 u47 u48 u49 u50 u51 u52 u53 u54 u55 u56 u57 u58 u59 u60 u61 u62 u63 u64 u65 u66 u67 u68 u69 u70 u71 u72 u73 u74 u75 u76 u77 u78 u79 u80 u81 u82 u83 u84 u85 u86 u87 u88 u89 u90 u91 u92 u93 u94 u95 u96 u97 u98 u99 u100 u101 u102 u103 u104 u105 u106 u107 u108 u109 u110 u111 u112 u113 u114 u115 u116 u117 u118 u119 u120 u121 u122 u123 u124 u125 u126 u127 u128 u129 u130 u131 u132 u133 u134 u135 u136 u137 u138 u139 u140 u141 u142 u143 u144 u145 u146 u147 u148 u149 u150 u151 u152 u153 u154 u155 u156 u157 u158 u159 u160 u161 u162 u163 u164 u165 u166 u167 u168 u169 u170 u171 u172 u173 u174 u175 u176 u177 u178 u179 u180 u181 u182 u183 u184 u185 u186 u187 u188 u189 u190 u191 u192 u193 u194 u195 u196 u197 u198 u199 u200 u201 u202 u203 u204 u205 u206 u207 u208 u209 u210 u211 u212 u213 u214 u215 u216 u217 u218 u219 u220 u221 u222 u223 u224 u225 u226 u227 u228 u229 u230 u231 u232 u233 u234 u235 u236 u237 u238 u239 : Value) :
    Code.wp Try.prog (left4 33) (bodyPost Try.prog Try.f4 fun e w' => e = .returned (.bool true) ∧ w.grownBy w' none) ⟨List.toArray (.slice a0 n0 c0 :: .string name :: u2 :: .slice a3 n3 c3 :: .slice a4 n4 c4 :: .slice a5 n5 c5 :: .int .i64 (k : Nat) :: u7 :: u8 :: u9 :: u10 :: u11 :: u12 :: u13 :: u14 :: .pointer (some ⟨hb, 0, none⟩) :: u16 :: u17 :: u18 :: u19 :: u20 :: .slice (some ⟨g1, 0, none⟩) N c1 :: .slice (some ⟨g2, 0, none⟩) (N + 32) c2 :: u23 :: .int .i64 (P : Nat) :: .int .i64 (Q : Nat) :: u26 :: u27 :: u28 :: u29 :: u30 :: u31 :: u32 :: u33 :: u34 :: u35 :: u36 :: u37 :: u38 :: u39 :: u40 :: u41 :: u42 :: u43 :: u44 :: u45 :: u46 :: u47 :: u48 :: u49 :: u50 :: u51 :: u52 :: u53 :: u54 :: u55 :: u56 :: u57 :: u58 :: u59 :: u60 :: u61 :: u62 :: u63 :: u64 :: u65 :: u66 :: u67 :: u68 :: u69 :: u70 :: u71 :: u72 :: u73 :: u74 :: u75 :: u76 :: u77 :: u78 :: u79 :: u80 :: u81 :: u82 :: u83 :: u84 :: u85 :: u86 :: u87 :: u88 :: u89 :: u90 :: u91 :: u92 :: u93 :: u94 :: u95 :: u96 :: u97 :: u98 :: u99 :: u100 :: u101 :: u102 :: u103 :: u104 :: u105 :: u106 :: u107 :: u108 :: u109 :: u110 :: u111 :: u112 :: u113 :: u114 :: u115 :: u116 :: u117 :: u118 :: u119 :: u120 :: u121 :: u122 :: u123 :: u124 :: u125 :: u126 :: u127 :: u128 :: u129 :: u130 :: u131 :: u132 :: u133 :: u134 :: u135 :: u136 :: u137 :: u138 :: u139 :: u140 :: u141 :: u142 :: u143 :: u144 :: u145 :: u146 :: u147 :: u148 :: u149 :: u150 :: u151 :: u152 :: u153 :: u154 :: u155 :: u156 :: u157 :: u158 :: u159 :: u160 :: u161 :: u162 :: u163 :: u164 :: u165 :: u166 :: u167 :: u168 :: u169 :: u170 :: u171 :: u172 :: u173 :: u174 :: u175 :: u176 :: u177 :: u178 :: u179 :: u180 :: u181 :: u182 :: u183 :: u184 :: u185 :: u186 :: u187 :: u188 :: u189 :: u190 :: u191 :: u192 :: u193 :: u194 :: u195 :: u196 :: u197 :: u198 :: u199 :: u200 :: u201 :: u202 :: u203 :: u204 :: u205 :: u206 :: u207 :: u208 :: u209 :: u210 :: u211 :: u212 :: u213 :: u214 :: u215 :: u216 :: u217 :: u218 :: u219 :: u220 :: u221 :: u222 :: u223 :: u224 :: u225 :: u226 :: u227 :: u228 :: u229 :: u230 :: u231 :: u232 :: u233 :: u234 :: u235 :: u236 :: u237 :: u238 :: u239 :: []), []⟩ W := by
  conv => arg 2; whnf
  have HF := hide h
  have f1 := h.hN
  have f4 := h.hD
  have f5 := h.hb1
  have f6 := h.h4
  have eA := h.hA
  have eG := h.hG
  have eQ := h.hQ
  have hL1 : N = (A ++ (le4 n4 ++ (G ++ D))).length := by
    simp only [List.length_append, le4_length]; omega
  have hL2 : N + 32 = (A ++ (le4 (n4 + 1) ++ (G ++ (be8 g.1.1.1 ++ (be8 g.1.1.2 ++ (be8 g.1.2.1 ++ (be8 g.1.2.2 ++ D))))))).length := by
    simp only [List.length_append, le4_length, be8_length]; omega
  have H1 := hide (le32_row g1 N c1 _ A (G ++ D) n4 (P : Int) W (by omega) hL1 h.outs.c1 rfl (by rw [eA]) (by omega))
  have H2 := hide (fun m : Nat => le32_row g2 (N + 32) c2 _ A _ (n4 + 1) (P : Int) (W.drewN m) (by omega) hL2 (h.outs.drewN m).c2 rfl (by rw [eA]) (by omega))
  clear h f1 f4 f5 eA eG eQ hL1 hL2
  refine wp_seq_k (fun K hK => ?_)
  have HK := hide hK
  clear hK
  go_wp2_with fail
  refine H1.out.mono ?_
  rintro e wq ⟨rfl, m1, hwq⟩
  rw [hwq]
  clear hwq wq
  go_wp2_with fail
  refine (H2.out m1).mono ?_
  rintro e wq ⟨rfl, m2, hwq⟩
  rw [hwq]
  clear hwq wq
  go_wp2_with fail
  refine HK.out _ _ ?_
  exact left35 w _ g1 g2 hb N c1 c2 P Q n4 k g A G D a0 a3 a4 a5 n0 c0 n3 c3 c4 n5 c5 name (HF.out.drewN (m1 + m2)) _ _ _ _ _ _ _ _ _ _ _ _ _ _ _ _ _ _ _ _ _ _ _ _ _ _ _ _ _ _ _ _ _ _ _ _ _ _ _ _ _ _ _ _ _ _ _ _ _ _ _ _ _ _ _ _ _ _ _ _ _ _ _ _ _ _ _ _ _ _ _ _ _ _ _ _ _ _ _ _ _ _ _ _ _ _ _ _ _ _ _ _ _ _ _ _ _ _ _ _ _ _ _ _ _ _ _ _ _ _ _ _ _ _ _ _ _ _ _ _ _ _ _ _ _ _ _ _ _ _ _ _ _ _ _ _ _ _ _ _ _ _ _ _ _ _ _ _ _ _ _ _ _ _ _ _ _ _ _ _ _ _ _ _ _ _ _ _ _ _ _ _ _ _ _ _ _ _ _ _ _ _ _ _ _ _ _ _ _ _ _ _ _ _ _ _ _ _ _ _ _ _ _ _ _ _ _ _ _ _ _ _ _ _ _ _ _ _ _ _ _ _ _ _ _ _ _ _ _

set_option maxRecDepth 100000 in
set_option maxHeartbeats 8000000 in
theorem left31 (w W : World) (g1 g2 hb N c1 c2 P Q n4 k : Nat) (g : Gp) (A G D : List UInt8) (a0 a3 a4 a5 : Option Addr) (n0 c0 n3 c3 c4 n5 c5 : Nat) (name : ByteArray) (h : Fin w W g1 g2 hb N c1 c2 P Q n4 k g A G D) (u2 u7 u8 u9 u10 u11 u12 u13 u14 u16 u17 u18 u19 u20 u23 u26 u27 u28 u29 u30 u31 u32 u33 u34 u35 u36 u37 u38 u39 u40 u41 u42 u43 u44 u45 u46 u47 u48 u49 u50 u51 u52 u53 u54 u55 u56 u57 u58 u59 u60 u61 u62 u63 u64 u65 u66 u67 u68 u69 u70 u71 u72 u73 u74 u75 u76 u77 u78 u79 u80 u81 u82 u83 u84 u85 u86 u87 u88 u89 u90 u91 u92 u93 u94 u95 u96 u97 u98 u99 u100 u101 u102 u103 u104 u105 u106 u107 u108 u109 u110 u111 u112 u113 u114 u115 u116 u117 u118 u119 u120 u121 u122 u123 u124 u125 u126 u127 u128 u129 u130 u131 u132 u133 u134 u135 u136 u137 u138 u139 u140 u141 u142 u143 u144 u145 u146 u147 u148 u149 u150 u151 u152 u153 u154 u155 u156 u157 u158 u159 u160 u161 u162 u163 u164 u165 u166 u167 u168 u169 u170 u171 u172 u173 u174 u175 u176 u177 u178 u179 u180 u181 u182 u183 u184 u185 u186 u187 u188 u189 u190 u191 u192 u193 u194 u195 u196 u197 u198 u199 u200 u201 u202 u203 u204 u205 u206 u207 u208 u209 u210 u211 u212 u213 u214 u215 u216 u217 u218 u219 u220 u221 u222 u223 u224 u225 u226 u227 u228 u229 u230 u231 u232 u233 u234 u235 u236 u237 u238 u239 : Value) :
    Code.wp Try.prog (left4 31) (bodyPost Try.prog Try.f4 fun e w' => e = .returned (.bool true) ∧ w.grownBy w' none) ⟨List.toArray (.slice a0 n0 c0 :: .string name :: u2 :: .slice a3 n3 c3 :: .slice a4 n4 c4 :: .slice a5 n5 c5 :: .int .i64 (k : Nat) :: u7 :: u8 :: u9 :: u10 :: u11 :: u12 :: u13 :: u14 :: .pointer (some ⟨hb, 0, none⟩) :: u16 :: u17 :: u18 :: u19 :: u20 :: .slice (some ⟨g1, 0, none⟩) N c1 :: .slice (some ⟨g2, 0, none⟩) (N + 32) c2 :: u23 :: .int .i64 (P : Nat) :: .int .i64 (Q : Nat) :: u26 :: u27 :: u28 :: u29 :: u30 :: u31 :: u32 :: u33 :: u34 :: u35 :: u36 :: u37 :: u38 :: u39 :: u40 :: u41 :: u42 :: u43 :: u44 :: u45 :: u46 :: u47 :: u48 :: u49 :: u50 :: u51 :: u52 :: u53 :: u54 :: u55 :: u56 :: u57 :: u58 :: u59 :: u60 :: u61 :: u62 :: u63 :: u64 :: u65 :: u66 :: u67 :: u68 :: u69 :: u70 :: u71 :: u72 :: u73 :: u74 :: u75 :: u76 :: u77 :: u78 :: u79 :: u80 :: u81 :: u82 :: u83 :: u84 :: u85 :: u86 :: u87 :: u88 :: u89 :: u90 :: u91 :: u92 :: u93 :: u94 :: u95 :: u96 :: u97 :: u98 :: u99 :: u100 :: u101 :: u102 :: u103 :: u104 :: u105 :: u106 :: u107 :: u108 :: u109 :: u110 :: u111 :: u112 :: u113 :: u114 :: u115 :: u116 :: u117 :: u118 :: u119 :: u120 :: u121 :: u122 :: u123 :: u124 :: u125 :: u126 :: u127 :: u128 :: u129 :: u130 :: u131 :: u132 :: u133 :: u134 :: u135 :: u136 :: u137 :: u138 :: u139 :: u140 :: u141 :: u142 :: u143 :: u144 :: u145 :: u146 :: u147 :: u148 :: u149 :: u150 :: u151 :: u152 :: u153 :: u154 :: u155 :: u156 :: u157 :: u158 :: u159 :: u160 :: u161 :: u162 :: u163 :: u164 :: u165 :: u166 :: u167 :: u168 :: u169 :: u170 :: u171 :: u172 :: u173 :: u174 :: u175 :: u176 :: u177 :: u178 :: u179 :: u180 :: u181 :: u182 :: u183 :: u184 :: u185 :: u186 :: u187 :: u188 :: u189 :: u190 :: u191 :: u192 :: u193 :: u194 :: u195 :: u196 :: u197 :: u198 :: u199 :: u200 :: u201 :: u202 :: u203 :: u204 :: u205 :: u206 :: u207 :: u208 :: u209 :: u210 :: u211 :: u212 :: u213 :: u214 :: u215 :: u216 :: u217 :: u218 :: u219 :: u220 :: u221 :: u222 :: u223 :: u224 :: u225 :: u226 :: u227 :: u228 :: u229 :: u230 :: u231 :: u232 :: u233 :: u234 :: u235 :: u236 :: u237 :: u238 :: u239 :: []), []⟩ W := by
  conv => arg 2; whnf
  have HF := hide h
  have f1 := h.hN
  have f2 := h.hc1
  have f3 := h.hc2
  have f4 := h.hD
  have f5 := h.hb1
  have eA := h.hA
  have eQ := h.hQ
  have k1 : (P : Int) ≤ (c1 : Int) := by omega
  have k2 : (P : Int) ≤ (c2 : Int) := by omega
  have k3 : ¬ c1 = 0 := by omega
  have k4 : ¬ c2 = 0 := by omega
  have HQ := hide (fun (q : Nat) => h.outs.eq [] [] A (le4 n4 ++ (G ++ D)) (le4 (n4 + 1) ++ (G ++ (be8 g.1.1.1 ++ (be8 g.1.1.2 ++ (be8 g.1.2.1 ++ (be8 g.1.2.2 ++ D)))))) rfl rfl (by omega) 0 P c1 0 P c2 q rfl eA.symm rfl eA.symm)
  have hPb : P ≤ 1048576 := by omega
  clear h f1 f2 f3 f4 f5 eA eQ
  refine wp_seq_k (fun K hK => ?_)
  have HK := hide hK
  clear hK
  go_upto_region 31 with fail
  go_quiet (first | (go_at_call 11; refine Calls.quiet_of (HQ.out _)))
  go_wp2_with fail
  refine HK.out _ _ ?_
  exact left33 w _ g1 g2 hb N c1 c2 P Q n4 k g A G D a0 a3 a4 a5 n0 c0 n3 c3 c4 n5 c5 name (HF.out.drewN nq) _ _ _ _ _ _ _ _ _ _ _ _ _ _ _ _ _ _ _ _ _ _ _ _ _ _ _ _ _ _ _ _ _ _ _ _ _ _ _ _ _ _ _ _ _ _ _ _ _ _ _ _ _ _ _ _ _ _ _ _ _ _ _ _ _ _ _ _ _ _ _ _ _ _ _ _ _ _ _ _ _ _ _ _ _ _ _ _ _ _ _ _ _ _ _ _ _ _ _ _ _ _ _ _ _ _ _ _ _ _ _ _ _ _ _ _ _ _ _ _ _ _ _ _ _ _ _ _ _ _ _ _ _ _ _ _ _ _ _ _ _ _ _ _ _ _ _ _ _ _ _ _ _ _ _ _ _ _ _ _ _ _ _ _ _ _ _ _ _ _ _ _ _ _ _ _ _ _ _ _ _ _ _ _ _ _ _ _ _ _ _ _ _ _ _ _ _ _ _ _ _ _ _ _ _ _ _ _ _ _ _ _ _ _ _ _ _ _ _ _ _ _ _ _ _ _ _ _ _

set_option maxRecDepth 100000 in
set_option maxHeartbeats 8000000 in
theorem left26 (w W : World) (g1 g2 hb N c1 c2 P Q n4 k : Nat) (g : Gp) (A G D : List UInt8) (a0 a3 a4 a5 : Option Addr) (n0 c0 n3 c3 c4 n5 c5 : Nat) (name : ByteArray) (h : Fin w W g1 g2 hb N c1 c2 P Q n4 k g A G D) (hP : P = n0 + 4 + name.size + 16 + 4 + 32 * n3) (hN : N = n0 + (4 + name.size + 16 + 4 + 32 * n3 + 4 + 32 * n4 + 4 + 16 * n5)) (hk : k ≤ n4) (b3 : n3 ≤ 4096) (b5 : n5 ≤ 4096) (u2 u7 u8 u9 u10 u11 u12 u13 u14 u16 u17 u18 u19 u20 u23 u24 u25 u26 u27 u28 u29 u30 u31 u32 u33 u34 u35 u36 u37 u38 u39 u40 u41 u42 u43 u44 u45 u46 u47 u48 u49 u50 u51 u52 u53 u54 u55 u56 u57 u58 u59 u60 u61 u62 u63 u64 u65 u66 u67 u68 u69 u70 u71 u72 u73 u74 u75 u76 u77 u78 u79 u80 u81 u82 u83 u84 u85 u86 u87 u88 u89 u90 u91 u92 u93 u94 u95 u96 u97 u98 u99 u100 u101 u102 u103 u104 u105 u106 u107 u108 u109 u110 u111 u112 u113 u114 u115 u116 u117 u118 u119 u120 u121 u122 u123 u124 u125 u126 u127 u128 u129 u130 u131 u132 u133 u134 u135 u136 u137 u138 u139 u140 u141 u142 u143 u144 u145 u146 u147 u148 u149 u150 u151 u152 u153 u154 u155 u156 u157 u158 u159 u160 u161 u162 u163 u164 u165 u166 u167 u168 u169 u170 u171 u172 u173 u174 u175 u176 u177 u178 u179 u180 u181 u182 u183 u184 u185 u186 u187 u188 u189 u190 u191 u192 u193 u194 u195 u196 u197 u198 u199 u200 u201 u202 u203 u204 u205 u206 u207 u208 u209 u210 u211 u212 u213 u214 u215 u216 u217 u218 u219 u220 u221 u222 u223 u224 u225 u226 u227 u228 u229 u230 u231 u232 u233 u234 u235 u236 u237 u238 u239 : Value) :
    Code.wp Try.prog (left4 26) (bodyPost Try.prog Try.f4 fun e w' => e = .returned (.bool true) ∧ w.grownBy w' none) ⟨List.toArray (.slice a0 n0 c0 :: .string name :: u2 :: .slice a3 n3 c3 :: .slice a4 n4 c4 :: .slice a5 n5 c5 :: .int .i64 (k : Nat) :: u7 :: u8 :: u9 :: u10 :: u11 :: u12 :: u13 :: u14 :: .pointer (some ⟨hb, 0, none⟩) :: u16 :: u17 :: u18 :: u19 :: u20 :: .slice (some ⟨g1, 0, none⟩) N c1 :: .slice (some ⟨g2, 0, none⟩) (N + 32) c2 :: u23 :: u24 :: u25 :: u26 :: u27 :: u28 :: u29 :: u30 :: u31 :: u32 :: u33 :: u34 :: u35 :: u36 :: u37 :: u38 :: u39 :: u40 :: u41 :: u42 :: u43 :: u44 :: u45 :: u46 :: u47 :: u48 :: u49 :: u50 :: u51 :: u52 :: u53 :: u54 :: u55 :: u56 :: u57 :: u58 :: u59 :: u60 :: u61 :: u62 :: u63 :: u64 :: u65 :: u66 :: u67 :: u68 :: u69 :: u70 :: u71 :: u72 :: u73 :: u74 :: u75 :: u76 :: u77 :: u78 :: u79 :: u80 :: u81 :: u82 :: u83 :: u84 :: u85 :: u86 :: u87 :: u88 :: u89 :: u90 :: u91 :: u92 :: u93 :: u94 :: u95 :: u96 :: u97 :: u98 :: u99 :: u100 :: u101 :: u102 :: u103 :: u104 :: u105 :: u106 :: u107 :: u108 :: u109 :: u110 :: u111 :: u112 :: u113 :: u114 :: u115 :: u116 :: u117 :: u118 :: u119 :: u120 :: u121 :: u122 :: u123 :: u124 :: u125 :: u126 :: u127 :: u128 :: u129 :: u130 :: u131 :: u132 :: u133 :: u134 :: u135 :: u136 :: u137 :: u138 :: u139 :: u140 :: u141 :: u142 :: u143 :: u144 :: u145 :: u146 :: u147 :: u148 :: u149 :: u150 :: u151 :: u152 :: u153 :: u154 :: u155 :: u156 :: u157 :: u158 :: u159 :: u160 :: u161 :: u162 :: u163 :: u164 :: u165 :: u166 :: u167 :: u168 :: u169 :: u170 :: u171 :: u172 :: u173 :: u174 :: u175 :: u176 :: u177 :: u178 :: u179 :: u180 :: u181 :: u182 :: u183 :: u184 :: u185 :: u186 :: u187 :: u188 :: u189 :: u190 :: u191 :: u192 :: u193 :: u194 :: u195 :: u196 :: u197 :: u198 :: u199 :: u200 :: u201 :: u202 :: u203 :: u204 :: u205 :: u206 :: u207 :: u208 :: u209 :: u210 :: u211 :: u212 :: u213 :: u214 :: u215 :: u216 :: u217 :: u218 :: u219 :: u220 :: u221 :: u222 :: u223 :: u224 :: u225 :: u226 :: u227 :: u228 :: u229 :: u230 :: u231 :: u232 :: u233 :: u234 :: u235 :: u236 :: u237 :: u238 :: u239 :: []), []⟩ W := by
  conv => arg 2; whnf
  have HF := hide h
  have f1 := h.hN
  have f4 := h.hD
  have f5 := h.hb1
  have f6 := h.h4
  have eQ := h.hQ
  have H8 := len_any name.size n3 n4 n5 W (by omega) (by omega) (by omega) (by omega)
  obtain ⟨T, hT⟩ : ∃ T, T = 4 + name.size + 16 + 4 + 32 * n3 + 4 + 32 * n4 + 4 + 16 * n5 := ⟨_, rfl⟩
  rw [← hT] at H8
  have H8 := hide H8
  have hNT : N = n0 + T := by omega
  have hTb : T ≤ 1048576 := by omega
  have hnb : name.size ≤ 1048576 := by omega
  have hn0 : n0 ≤ 1048576 := by omega
  have hPb : P ≤ 1048576 := by omega
  subst hNT
  clear h f1 f4 hT hN
  refine wp_seq_k (fun K hK => ?_)
  have HK := hide hK
  clear hK
  have EP := hide hP
  have EQ := hide eQ
  clear hP eQ
  go_wp2_with fail
  refine H8.out.mono ?_
  rintro e wz ⟨rfl, hwz⟩
  rw [hwz]
  clear hwz wz H8
  go_wp2_with fail
  refine HK.out _ _ ?_
  clear HK K
  refine wp_seq_k (fun K hK => ?_)
  have HK := hide hK
  clear hK
  go_wp2_with fail
  refine HK.out _ _ ?_
  clear HK K
  refine wp_seq_k (fun K hK => ?_)
  have HK := hide hK
  clear hK
  go_cut [24] (fun v wx => v = .int .i64 (P : Nat) ∧ W = wx)
  case first =>
    go_wp2_with fail
    go_meet
    exact ⟨by have := EP.out; congr 1; omega, rfl⟩
  case rest =>
  obtain ⟨rfl, rfl⟩ := hcut
  refine HK.out _ _ ?_
  clear HK K
  refine wp_seq_k (fun K hK => ?_)
  have HK := hide hK
  clear hK
  go_cut [25] (fun v wx => v = .int .i64 (Q : Nat) ∧ W = wx)
  case first =>
    have hkb : k ≤ 4096 := by omega
    go_wp2_with fail
    go_meet
    exact ⟨by have := EQ.out; congr 1; omega, rfl⟩
  case rest =>
  obtain ⟨rfl, rfl⟩ := hcut
  refine HK.out _ _ ?_
  exact left31 w _ g1 g2 hb (n0 + T) c1 c2 P Q n4 k g A G D a0 a3 a4 a5 n0 c0 n3 c3 c4 n5 c5 name HF.out _ _ _ _ _ _ _ _ _ _ _ _ _ _ _ _ _ _ _ _ _ _ _ _ _ _ _ _ _ _ _ _ _ _ _ _ _ _ _ _ _ _ _ _ _ _ _ _ _ _ _ _ _ _ _ _ _ _ _ _ _ _ _ _ _ _ _ _ _ _ _ _ _ _ _ _ _ _ _ _ _ _ _ _ _ _ _ _ _ _ _ _ _ _ _ _ _ _ _ _ _ _ _ _ _ _ _ _ _ _ _ _ _ _ _ _ _ _ _ _ _ _ _ _ _ _ _ _ _ _ _ _ _ _ _ _ _ _ _ _ _ _ _ _ _ _ _ _ _ _ _ _ _ _ _ _ _ _ _ _ _ _ _ _ _ _ _ _ _ _ _ _ _ _ _ _ _ _ _ _ _ _ _ _ _ _ _ _ _ _ _ _ _ _ _ _ _ _ _ _ _ _ _ _ _ _ _ _ _ _ _ _ _ _ _ _ _ _ _ _ _ _ _ _ _ _ _ _ _


end Go.Proofs.Qxb6618992a.Ch
