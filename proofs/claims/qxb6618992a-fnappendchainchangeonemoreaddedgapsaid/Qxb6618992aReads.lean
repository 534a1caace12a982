/-
  The functions that only read: bytesEq, le32At, be64At, chainChangeLen, the two bounds on total length.
-/
import Derived.Test.Qxb6618992aNums
import Derived.Deep.QuietTactic
import Derived.BigQuiet
import Derived.Laws.Bits64b
namespace Go.Proofs.Qxb6618992a.Ch
open Go.RowKit

theorem ret_bool {a b : Bool} (h : a = b) : Ending.returned (.bool a) = .returned (.bool b) := by rw [h]
theorem ret_i64 {a b : Int} (h : a = b) : Ending.returned (.int .i64 a) = .returned (.int .i64 b) := by rw [h]
theorem ret_u64 {a b : Int} (h : a = b) : Ending.returned (.int .u64 a) = .returned (.int .u64 b) := by rw [h]
theorem ret_u32 {a b : Int} (h : a = b) : Ending.returned (.int .u32 a) = .returned (.int .u32 b) := by rw [h]

/-- the bytes l lie at ⟨b, o⟩. -/
def CellsAt (w : World) (b o : Nat) (l : List UInt8) : Prop := ∀ j, j < l.length → w.cell? ⟨b, o + j, none⟩ = some (.int .u8 ((l.getD j 0).toNat : Nat))

set_option maxRecDepth 100000 in
set_option maxHeartbeats 1000000 in
theorem bytesEq_any (b1 o1 c1 b2 o2 c2 : Nat) (l : List UInt8) (w : World) (hl : l.length ≤ 1073741824) (h1 : CellsAt w b1 o1 l) (h2 : CellsAt w b2 o2 l) :
    Calls Try.prog 11 #[.slice (some ⟨b1, o1, none⟩) l.length c1, .slice (some ⟨b2, o2, none⟩) l.length c2] w fun e w' => e = .returned (.bool true) ∧ ∃ n, w' = w.drewN n := by
  obtain ⟨N, hN⟩ : ∃ N, N = l.length := ⟨_, rfl⟩
  have H1 := hide h1
  have H2 := hide h2
  have HN := hide hN
  rw [← hN] at hl ⊢
  clear h1 h2 hN
  go_enter Try.func11, Try.ntmps11
  go_wp2
  go_loopw [5] (fun iv wr => ∃ k : Nat, k ≤ N ∧ iv = .int .i64 k ∧ ∃ n, wr = w.drewN n) (fun iv _ => N - (intOf iv).toNat)
  case atStart => exact ⟨0, Nat.zero_le _, rfl, 0, rfl⟩
  case round =>
    obtain ⟨k, hk, rfl, n, rfl⟩ := hrel
    by_cases hlt : k < N
    · have c1 := H1.out k (by rw [← HN.out]; exact hlt)
      have c2 := H2.out k (by rw [← HN.out]; exact hlt)
      obtain ⟨z, hz⟩ : ∃ z : Int, z = ((l.getD k 0).toNat : Nat) := ⟨_, rfl⟩
      rw [← hz] at c1 c2
      clear hz
      go_wp2
      go_quiet (fail)
      go_wp2
      go_roundw
      case rel => exact ⟨k + 1, by omega, by go_num, _, rfl⟩
      case measure => simp [intOf]; omega
    · have hkn : N = k := by omega
      subst hkn
      go_wp2
      go_ret
      exact ⟨rfl, n, rfl⟩

set_option maxRecDepth 100000 in
set_option maxHeartbeats 1000000 in
theorem bytesEq_none (a1 a2 : Option Addr) (c1 c2 : Nat) (w : World) :
    Calls Try.prog 11 #[.slice a1 0 c1, .slice a2 0 c2] w fun e w' => e = .returned (.bool true) ∧ w' = w := by
  go_enter Try.func11, Try.ntmps11
  go_wp2
  refine wp_loop_rounds 1 ?_
  rw [rounds_succ]
  go_wp2
  go_ret
  exact ⟨rfl, rfl⟩

set_option maxRecDepth 100000 in
theorem len_any (a b c d : Nat) (w : World) (ha : a ≤ 1048576) (hb : b ≤ 65536) (hc : c ≤ 65536) (hd : d ≤ 65536) :
    Calls Try.prog 8 #[.int .i64 a, .int .i64 b, .int .i64 c, .int .i64 d] w fun e w' => e = .returned (.int .i64 (4 + a + 16 + 4 + 32 * b + 4 + 32 * c + 4 + 16 * d : Nat)) ∧ w' = w := by
  go_enter Try.func8, Try.ntmps8
  go_wp2
  go_ret
  exact ⟨ret_i64 (by simp), rfl⟩

set_option maxRecDepth 100000 in
set_option maxHeartbeats 2000000 in
theorem le32_any (b o n c i : Nat) (b0 b1 b2 b3 : UInt8) (w : World) (hn : n ≤ 1073741824) (hi : i + 4 ≤ n) (c0 : w.cell? ⟨b, o + i, none⟩ = some (.int .u8 b0.toNat)) (c1 : w.cell? ⟨b, o + (i + 1), none⟩ = some (.int .u8 b1.toNat)) (c2 : w.cell? ⟨b, o + (i + 2), none⟩ = some (.int .u8 b2.toNat)) (c3 : w.cell? ⟨b, o + (i + 3), none⟩ = some (.int .u8 b3.toNat)) :
    Calls Try.prog 12 #[.slice (some ⟨b, o, none⟩) n c, .int .i64 i] w fun e w' => e = .returned (.int .u32 (Lib.leNat [b0, b1, b2, b3] : Nat)) ∧ ∃ m, w' = w.drewN m := by
  have h0 : b0.toNat < 256 := b0.toNat_lt
  have h1 : b1.toNat < 256 := b1.toNat_lt
  have h2 : b2.toNat < 256 := b2.toNat_lt
  have h3 : b3.toNat < 256 := b3.toNat_lt
  have hv : ((Lib.leNat [b0, b1, b2, b3] : Nat) : Int) = (b0.toNat : Int) + (b1.toNat : Int) * 256 + (b2.toNat : Int) * 65536 + (b3.toNat : Int) * 16777216 := by
    simp only [Lib.leNat]
    push_cast
    omega
  have HV := hide hv
  clear hv
  go_enter Try.func12, Try.ntmps12
  go_wp2
  go_quiet (fail)
  go_wp2
  go_ret
  refine ⟨ret_u32 ?_, _, rfl⟩
  rw [HV.out]
  simp (disch := omega) only [u32_or8, u32_or16, u32_or24]

theorem beNat_snoc (l : List UInt8) (x : UInt8) : Lib.beNat (l ++ [x]) = Lib.beNat l * 256 + x.toNat := by
  rw [Lib.beNat_eq, Lib.beNat_eq, List.reverse_append]
  simp [Lib.leNat]
  omega
theorem beNat_lt (l : List UInt8) : ∀ n, l.length = n → Lib.beNat l < 256 ^ n := by
  intro n hn
  have h : ∀ r : List UInt8, Lib.leNat r < 256 ^ r.length := by
    intro r
    induction r with
    | nil => simp [Lib.leNat]
    | cons a r ih =>
      have := a.toNat_lt
      simp only [Lib.leNat, List.length_cons, Nat.pow_succ]
      omega
  rw [Lib.beNat_eq]
  have := h l.reverse
  rwa [List.length_reverse, hn] at this

theorem or_low (q x : Nat) (hq : q < 72057594037927936) (hx : x < 256) : bits .or .u64 ((q : Int) * 256) (x : Int) = (q : Int) * 256 + x := by
  have e : (q : Int) * 256 = ((q * 256 : Nat) : Int) := by simp
  have h1 := u64_or8 (y := (x : Int)) (x := ((q * 256 : Nat) : Int)) (by omega) (by omega) (by omega) (by omega) (by omega)
  rw [bits_or_u64_nat _ _ (by omega) (by omega), Nat.or_comm, ← bits_or_u64_nat _ _ (by omega) (by omega)] at h1
  rw [e, h1]
  omega

set_option maxRecDepth 100000 in
set_option maxHeartbeats 2000000 in
theorem be64_any (b o n c i : Nat) (l : List UInt8) (w : World) (hn : n ≤ 1073741824) (hi : i + 8 ≤ n) (hl : l.length = 8) (hc : ∀ j, j < 8 → w.cell? ⟨b, o + (i + j), none⟩ = some (.int .u8 ((l.getD j 0).toNat : Nat))) :
    Calls Try.prog 13 #[.slice (some ⟨b, o, none⟩) n c, .int .i64 i] w fun e w' => e = .returned (.int .u64 (Lib.beNat l : Nat)) ∧ w' = w := by
  go_enter Try.func13, Try.ntmps13
  go_wp2
  go_loop [5, 6] (fun v iv => ∃ k : Nat, k ≤ 8 ∧ iv = .int .i64 k ∧ v = .int .u64 (Lib.beNat (l.take k) : Nat)) (fun _ iv => 8 - (intOf iv).toNat)
  case atStart => exact ⟨0, Nat.zero_le _, rfl, by simp [Lib.beNat, Lib.beFrom]⟩
  case round =>
    obtain ⟨k, hk, rfl, rfl⟩ := hrel
    by_cases hlt : k < 8
    · have c1 := hc k hlt
      have hS : Lib.beNat (l.take (k + 1)) = Lib.beNat (l.take k) * 256 + (l.getD k 0).toNat := by
        rw [List.take_succ_eq_append_getElem (by omega), beNat_snoc]
        simp [List.getD_eq_getElem?_getD, List.getElem?_eq_getElem (show k < l.length by omega)]
      have hB := beNat_lt (l.take k) k (by rw [List.length_take]; omega)
      have hx : (l.getD k 0).toNat < 256 := (l.getD k 0).toNat_lt
      obtain ⟨x, hxe⟩ : ∃ x, x = (l.getD k 0).toNat := ⟨_, rfl⟩
      obtain ⟨q, hqe⟩ : ∃ q, q = Lib.beNat (l.take k) := ⟨_, rfl⟩
      rw [← hxe] at c1 hS hx
      rw [← hqe] at hS hB ⊢
      have hq : q < 72057594037927936 := Nat.lt_of_lt_of_le hB (by have := Nat.pow_le_pow_right (show 0 < 256 by decide) (show k ≤ 7 by omega); simpa using this)
      have HS := hide hS
      clear hS hB hxe hqe hc
      go_wp2
      go_round
      case rel => exact ⟨k + 1, by omega, by go_num, by rw [HS.out, or_low q x hq hx]; simp⟩
      case measure => simp [intOf]; omega
    · have hkn : k = 8 := by omega
      subst hkn
      go_wp2
      go_ret
      exact ⟨ret_u64 (by rw [List.take_of_length_le (by omega)]), rfl⟩

/-- it answers a bool, whichever. -/
def RetBool (e : Ending) : Prop := ∃ r, e = .returned (.bool r)

set_option maxRecDepth 100000 in
set_option maxHeartbeats 2000000 in
theorem bytes5_any (a0 a3 a4 a5 : Option Addr) (n0 c0 n3 c3 n4 c4 n5 c5 : Nat) (name : ByteArray) (t1 t2 : Int) (w : World) (h0 : n0 ≤ maxLen) (h1 : name.size ≤ maxLen) (h3 : n3 ≤ maxLen) (h4 : n4 ≤ maxLen) (h5 : n5 ≤ maxLen) :
    Calls Try.prog 5 #[.slice a0 n0 c0, .string name, .agg #[.int .u64 t1, .int .u64 t2], .slice a3 n3 c3, .slice a4 n4 c4, .slice a5 n5 c5] w fun e w' => RetBool e ∧ w.grownBy w' none := by
  unfold maxLen at h0 h1 h3 h4 h5
  go_enter Try.func5, Try.ntmps5
  go_wp2
  all_goals go_ret
  all_goals exact ⟨⟨_, rfl⟩, World.grownBy_alloc _ _ _⟩

set_option maxRecDepth 100000 in
set_option maxHeartbeats 2000000 in
theorem bytes14_any (a0 a3 a4 a5 : Option Addr) (n0 c0 n3 c3 n4 c4 n5 c5 : Nat) (name : ByteArray) (t1 t2 i g1 g2 g3 g4 : Int) (w : World) (h0 : n0 ≤ maxLen) (h1 : name.size ≤ maxLen) (h3 : n3 ≤ maxLen) (h4 : n4 ≤ maxLen) (h5 : n5 ≤ maxLen) :
    Calls Try.prog 14 #[.slice a0 n0 c0, .string name, .agg #[.int .u64 t1, .int .u64 t2], .slice a3 n3 c3, .slice a4 n4 c4, .slice a5 n5 c5, .int .i64 i, .agg #[.int .u64 g1, .int .u64 g2, .int .u64 g3, .int .u64 g4]] w fun e w' => RetBool e ∧ w.grownBy w' none := by
  unfold maxLen at h0 h1 h3 h4 h5
  go_enter Try.func14, Try.ntmps14
  go_wp2
  all_goals go_ret
  all_goals exact ⟨⟨_, rfl⟩, (World.grownBy_alloc _ _ _).trans (World.grownBy_alloc _ _ _)⟩

end Go.Proofs.Qxb6618992a.Ch
