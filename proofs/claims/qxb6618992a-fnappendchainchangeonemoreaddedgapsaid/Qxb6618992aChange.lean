/-
  appendChainChange, ZZappendChainChange.
-/
import Derived.Test.Qxb6618992aStr
import Derived.Deep.RegionWith
namespace Go.Proofs.Qxb6618992a.Ch
open Go.RowKit

/-- block b lies, and is not the slice's own row. -/
def Sep (w : World) (v : Value) (b : Nat) : Prop := b < w.heap.size ∧ some b ≠ v.ownBlock
theorem Sep.step {w w' : World} {v v' : Value} {b : Nat} (h : Sep w v b) (hs : Step w v w' v') : Sep w' v' b := ⟨Nat.lt_of_lt_of_le h.1 hs.grown.size, hs.sep h.1 h.2⟩
theorem Sep.lt {w : World} {v : Value} {b : Nat} (h : Sep w v b) : b < w.heap.size := And.left h
theorem Sep.ne {w : World} {v : Value} {b : Nat} (h : Sep w v b) : some b ≠ v.ownBlock := And.right h
theorem Sep.new {B : Nat} {w : World} {v : Value} {l : List UInt8} (h : Own B w v l) (o : Obj) : Sep (w.alloc o) v w.heap.size := ⟨by simp, h.not_new⟩
theorem Gaps.step {w w' : World} {v v' : Value} {a : Option Addr} {len b : Nat} {gs : Nat → Gp} (h : Gaps w a len b gs) (hs : Step w v w' v') (hp : Sep w v b) : Gaps w' a len b gs := h.same hs.grown.size (fun hb => hs.block hb hp.ne)
/-- what is known of a slice of chain numbers. -/
def Nums (w : World) (a : Option Addr) (len b : Nat) (ps : Nat → Nat × Nat) : Prop := len = 0 ∨ ∃ off, a = some ⟨b, off, none⟩ ∧ NumsAt w b off len ps
theorem Nums.step {w w' : World} {v v' : Value} {a : Option Addr} {len b : Nat} {ps : Nat → Nat × Nat} (h : Nums w a len b ps) (hs : Step w v w' v') (hp : Sep w v b) : Nums w' a len b ps := by
  rcases h with h | ⟨off, ha, h⟩
  · exact Or.inl h
  · refine Or.inr ⟨off, ha, fun j hj => ?_⟩
    obtain ⟨h1, h2, h3⟩ := h j hj
    exact ⟨hs.cell h1 hp.ne, hs.cell h2 hp.ne, h3⟩
theorem nums_all (B : Nat) (sv : Value) (l : List UInt8) (a : Option Addr) (b m c : Nat) (ps : Nat → Nat × Nat) (w : World) (hown : Own B w sv l) (hBw : B ≤ w.heap.size) (hm : m ≤ 65536) (hlim : l.length ≤ 536870912) (hn : Nums w a m b ps) (hp : Sep w sv b) :
    Calls Try.prog 18 #[sv, .slice a m c] w fun e w' => ∃ v', e = .returned v' ∧ Own B w' v' (l ++ encNums ps m) ∧ Step w sv w' v' := by
  rcases hn with rfl | ⟨off, rfl, hn⟩
  · exact (nums_none B sv l a c w hown).mono fun e w' h => by simpa [encNums] using h
  · exact nums_any B sv l b off m c ps w hown hBw hm hlim hn hp.ne

set_option maxRecDepth 100000 in
set_option maxHeartbeats 4000000 in
theorem change_any (B : Nat) (sv : Value) (l : List UInt8) (name : ByteArray) (t : Nat × Nat) (ra : Option Addr) (rlen rcap rb : Nat) (rs : Nat → Gp) (Bs : Nat) (aa : Option Addr) (alen acap ab : Nat) (ags : Nat → Gp) (pa : Option Addr) (plen pcap pb : Nat) (ps : Nat → Nat × Nat) (w : World)
    (hown : Own B w sv l) (hBw : B ≤ w.heap.size) (hl : l.length ≤ 1048576) (hname : name.size ≤ 1048576) (hr : rlen ≤ 65536) (ha : alen ≤ 65536) (hp : plen ≤ 65536) (ht1 : t.1 < 18446744073709551616) (ht2 : t.2 < 18446744073709551616)
    (hR : Gaps w ra rlen rb rs) (hRs : Sep w sv rb) (hBc : w.cell? ⟨Bs, 0, none⟩ = some (.slice aa alen acap)) (hBs : Sep w sv Bs) (hA : Gaps w aa alen ab ags) (hAs : Sep w sv ab) (hP : Nums w pa plen pb ps) (hPs : Sep w sv pb) :
    Calls Try.prog 15 #[sv, .string name, .agg #[.int .u64 t.1, .int .u64 t.2], .slice ra rlen rcap, .func (.func 20) #[] #[.pointer (some ⟨Bs, 0, none⟩)], .slice pa plen pcap] w
      fun e w' => ∃ v', e = .returned v' ∧ Own B w' v' (l ++ encChange name.data.toList t (fun j => (rs j).1) rlen (fun j => (ags j).1) alen ps plen) ∧ Step w sv w' v' := by
  have hnl : name.data.toList.length = name.size := by rw [Array.length_toList]; rfl
  have HNL := hide hnl
  have HR := hide hR
  have HRs := hide hRs
  have HBc := hide hBc
  have HBs := hide hBs
  have HA := hide hA
  have HAs := hide hAs
  have HP := hide hP
  have HPs := hide hPs
  clear hnl hR hRs hBc hBs hA hAs hP hPs
  go_enter Try.func15, Try.ntmps15
  go_wp2_with fail
  have hs0 : Step w sv (w.alloc (.cells #[.int .u64 t.1, .int .u64 t.2] 33)) sv := Step.alloc _ _ _
  have ho0 := hown.alloc (.cells #[.int .u64 t.1, .int .u64 t.2] 33)
  have hx0 : (w.alloc (.cells #[.int .u64 t.1, .int .u64 t.2] 33)).cell? ⟨w.heap.size, 0, none⟩ = some (.int .u64 t.1) := by simp
  have hx1 : (w.alloc (.cells #[.int .u64 t.1, .int .u64 t.2] 33)).cell? ⟨w.heap.size, 1, none⟩ = some (.int .u64 t.2) := by simp
  have hsp0 : Sep (w.alloc (.cells #[.int .u64 t.1, .int .u64 t.2] 33)) sv w.heap.size := Sep.new hown _
  refine (appendU32 B name.size (by omega) _ _ _ ho0 (by simp; omega) (by omega)).mono ?_
  rintro e w1 ⟨v1, rfl, ho1, hs1⟩
  have hx0 := hs1.cell hx0 hsp0.ne
  have hx1 := hs1.cell hx1 hsp0.ne
  have hsp1 := hsp0.step hs1
  have hst1 := hs0.trans hs1
  have hb1 : B ≤ w1.heap.size := Nat.le_trans hBw hst1.grown.size
  clear ho0 hs0 hs1 hsp0
  go_wp2_with (at_builtin; refine wpList_append_str rfl _ _ rfl B _ _ rfl ho1 _ rfl (by rw [List.length_append, Lib.leBytes_length]; omega) hb1 ?_; intro v2 w2 ho2 hs2; have hy0 := hs2.cell hx0 hsp1.ne; have hy1 := hs2.cell hx1 hsp1.ne)
  have hst2 := hst1.trans hs2
  obtain ⟨L2, hL2⟩ : ∃ L2, L2 = l ++ Lib.leBytes 4 name.size ++ name.data.toList := ⟨_, rfl⟩
  rw [← hL2] at ho2
  have hn2 : L2.length = l.length + 4 + name.size := by rw [hL2, List.length_append, List.length_append, Lib.leBytes_length, HNL.out]
  have HL2 := hide hL2
  have hb2 : B ≤ w2.heap.size := Nat.le_trans hBw hst2.grown.size
  have hN : NumsAt (w2.alloc (.cells #[.int .u64 t.1, .int .u64 t.2] 33)) w2.heap.size 0 1 (fun _ => t) := by
    intro j hj
    obtain rfl : j = 0 := by omega
    exact ⟨by simp, by simp, ht1, ht2⟩
  have H18 := hide (nums_any B _ _ w2.heap.size 0 1 1 _ _ (ho2.alloc _) (by simp; omega) (by decide) (by omega) hN ho2.not_new)
  clear hx0 hx1 hsp1 hst1 hb1 hs2 ho1 hL2 hN
  refine H18.out.mono ?_
  rintro e w3 ⟨v3, rfl, ho3, hs3⟩
  have hst3 := hst2.trans ((Step.alloc _ _ _).trans hs3)
  have hn3 : (L2 ++ encNums (fun _ => t) 1).length = l.length + 20 + name.size := by rw [List.length_append, encNums_length]; omega
  clear hy0 hy1 hs3 H18 hst2 ho2 hb2
  go_wp2_with fail
  refine (values_any _ _ _ _).mono ?_
  rintro e w4 ⟨rfl, rfl⟩
  have hst4 := hst3.trans (Step.alloc w3 v3 (.cells #[.slice ra rlen rcap] 29))
  have ho4 := ho3.alloc (.cells #[.slice ra rlen rcap] 29)
  have hsp4 : Sep (w3.alloc (.cells #[.slice ra rlen rcap] 29)) v3 w3.heap.size := Sep.new ho3 _
  have hc4 : (w3.alloc (.cells #[.slice ra rlen rcap] 29)).cell? ⟨w3.heap.size, 0, none⟩ = some (.slice ra rlen rcap) := by simp
  have H19 := hide (gaps_any B v3 _ w3.heap.size rb rlen rcap ra rs _ ho4 (Nat.le_trans hBw hst4.grown.size) hsp4.lt hc4 (HR.out.step hst4 HRs.out) hr (by omega) hsp4.ne (HRs.out.step hst4).ne (HRs.out.step hst4).lt)
  clear ho4 hsp4 hc4 hst3 ho3
  go_wp2_with fail
  refine H19.out.mono ?_
  rintro e w5 ⟨v5, rfl, ho5, hs5⟩
  have hst5 := hst4.trans hs5
  have hn5 : (L2 ++ encNums (fun _ => t) 1 ++ encList (fun j => (rs j).1) rlen).length = l.length + 24 + name.size + 32 * rlen := by rw [List.length_append, encList_length]; omega
  clear hs5 hst4 H19
  have H19 := hide (gaps_any B v5 _ Bs ab alen acap aa ags _ ho5 (Nat.le_trans hBw hst5.grown.size) (HBs.out.step hst5).lt (hst5.cell HBc.out HBs.out.ne) (HA.out.step hst5 HAs.out) ha (by omega) (HBs.out.step hst5).ne (HAs.out.step hst5).ne (HAs.out.step hst5).lt)
  clear ho5
  go_wp2_with fail
  refine H19.out.mono ?_
  rintro e w6 ⟨v6, rfl, ho6, hs6⟩
  have hst6 := hst5.trans hs6
  have hn6 : (L2 ++ encNums (fun _ => t) 1 ++ encList (fun j => (rs j).1) rlen ++ encList (fun j => (ags j).1) alen).length = l.length + 28 + name.size + 32 * rlen + 32 * alen := by rw [List.length_append, encList_length]; omega
  clear hs6 hst5 H19
  go_wp2_with fail
  refine (appendU32 B plen (by omega) _ _ _ ho6 (Nat.le_trans hBw hst6.grown.size) (by omega)).mono ?_
  rintro e w7 ⟨v7, rfl, ho7, hs7⟩
  have hst7 := hst6.trans hs7
  have H18 := hide (nums_all B v7 _ pa pb plen pcap ps _ ho7 (Nat.le_trans hBw hst7.grown.size) hp (by rw [List.length_append, Lib.leBytes_length]; omega) (HP.out.step hst7 HPs.out) (HPs.out.step hst7))
  clear hs7 hst6 ho6
  go_wp2_with fail
  refine H18.out.mono ?_
  rintro e w8 ⟨v8, rfl, ho8, hs8⟩
  clear H18 ho7
  go_wp2_with fail
  go_ret
  refine ⟨_, rfl, ?_, hst7.trans hs8⟩
  have e : l ++ encChange name.data.toList t (fun j => (rs j).1) rlen (fun j => (ags j).1) alen ps plen = L2 ++ encNums (fun _ => t) 1 ++ encList (fun j => (rs j).1) rlen ++ encList (fun j => (ags j).1) alen ++ Lib.leBytes 4 plen ++ encNums ps plen := by
    rw [HL2.out, encChange, HNL.out]
    simp [encNums, le4]
  rw [e]
  exact ho8

set_option maxRecDepth 100000 in
set_option maxHeartbeats 4000000 in
theorem zz_any (B : Nat) (sv : Value) (l : List UInt8) (name : ByteArray) (t : Nat × Nat) (ra : Option Addr) (rlen rcap rb : Nat) (rs : Nat → Gp) (aa : Option Addr) (alen acap ab : Nat) (ags : Nat → Gp) (pa : Option Addr) (plen pcap pb : Nat) (ps : Nat → Nat × Nat) (w : World)
    (hown : Own B w sv l) (hBw : B ≤ w.heap.size) (hl : l.length ≤ 1048576) (hname : name.size ≤ 1048576) (hr : rlen ≤ 65536) (ha : alen ≤ 65536) (hp : plen ≤ 65536) (ht1 : t.1 < 18446744073709551616) (ht2 : t.2 < 18446744073709551616)
    (hR : Gaps w ra rlen rb rs) (hRs : Sep w sv rb) (hA : Gaps w aa alen ab ags) (hAs : Sep w sv ab) (hP : Nums w pa plen pb ps) (hPs : Sep w sv pb) :
    Calls Try.prog 9 #[sv, .string name, .agg #[.int .u64 t.1, .int .u64 t.2], .slice ra rlen rcap, .slice aa alen acap, .slice pa plen pcap] w
      fun e w' => ∃ v', e = .returned v' ∧ Own B w' v' (l ++ encChange name.data.toList t (fun j => (rs j).1) rlen (fun j => (ags j).1) alen ps plen) ∧ Step w sv w' v' := by
  have hst : Step w sv ((w.alloc (.cells #[.int .u64 t.1, .int .u64 t.2] 33)).alloc (.cells #[.slice aa alen acap] 29)).drew sv :=
    ((Step.alloc w sv _).trans (Step.alloc _ sv _)).trans (Step.of_grown sv ⟨rfl, rfl, rfl, Nat.le_refl _, fun _ _ _ => rfl⟩)
  have hown2 : Own B ((w.alloc (.cells #[.int .u64 t.1, .int .u64 t.2] 33)).alloc (.cells #[.slice aa alen acap] 29)).drew sv l := (hown.alloc _).alloc _
  have hne : some (w.heap.size + 1) ≠ sv.ownBlock := by
    have := (hown.alloc (.cells #[.int .u64 t.1, .int .u64 t.2] 33)).not_new
    simpa using this
  have H15 := hide (change_any B sv l name t ra rlen rcap rb rs (w.heap.size + 1) aa alen acap ab ags pa plen pcap pb ps _ hown2 (Nat.le_trans hBw hst.grown.size) hl hname hr ha hp ht1 ht2
    (hR.step hst hRs) (hRs.step hst) (by simp [World.cell?_drew]) ⟨by simp, hne⟩ (hA.step hst hAs) (hAs.step hst) (hP.step hst hPs) (hPs.step hst))
  have HST := hide hst
  clear hst hown2 hne hR hRs hA hAs hP hPs hown
  go_enter Try.func9, Try.ntmps9
  go_wp2_with fail
  go_region_with (first | (go_at_call 16; refine (values_any _ _ _ _).mono ?_; rintro e w' ⟨rfl, rfl⟩) | (go_at_call 15; refine H15.out.mono ?_; rintro e w' ⟨v', rfl, ho', hs'⟩))
  all_goals
    go_wp2_with fail
    go_ret
    exact ⟨_, rfl, ho', HST.out.trans hs'⟩

end Go.Proofs.Qxb6618992a.Ch
