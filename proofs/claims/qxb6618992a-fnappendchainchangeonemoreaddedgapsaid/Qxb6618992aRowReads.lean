/-
  Reads out of a row of bytes whose parts are known.
-/
import Derived.Test.Qxb6618992aConv
import Derived.Laws.IdiomStrings
namespace Go.Proofs.Qxb6618992a.Ch
open Go.RowKit

theorem Own.cellsAt {B : Nat} {w : World} {g n c : Nat} {l : List UInt8} (h : Own B w (.slice (some ⟨g, 0, none⟩) n c) l) : CellsAt w g 0 l := by
  intro j hj
  have hn : n = l.length := by
    rcases h.2 with ⟨h1, _⟩ | ⟨g', c', cur, h1, _⟩
    · cases h1
    · cases h1; rfl
  subst hn
  have := World.ownsRow.cellAt h j (by omega)
  rw [Nat.zero_add, this]
  simp [Lib.byteCells, hj]
theorem CellsAt.sub {w : World} {b o : Nat} {l : List UInt8} (h : CellsAt w b o l) (A M Z : List UInt8) (e : l = A ++ (M ++ Z)) : CellsAt w b (o + A.length) M := by
  intro j hj
  have := h (A.length + j) (by rw [e]; simp; omega)
  rw [← Nat.add_assoc] at this
  rw [this, e]
  simp [List.getD_eq_getElem?_getD, List.getElem?_append_right, List.getElem?_append_left, hj]
theorem CellsAt.drewN {w : World} {b o : Nat} {l : List UInt8} (h : CellsAt w b o l) (n : Nat) : CellsAt (w.drewN n) b o l := fun j hj => h j hj

/-- be64At at a place where x's eight bytes lie. -/
theorem be64_row (b n c : Nat) (l A Z : List UInt8) (x : Nat) (i : Int) (w : World) (hn : n ≤ 1073741824) (hl : n = l.length) (hc : CellsAt w b 0 l) (e : l = A ++ (be8 x ++ Z)) (hi : i = (A.length : Int)) (hx : x < 18446744073709551616) :
    Calls Try.prog 13 #[.slice (some ⟨b, 0, none⟩) n c, .int .i64 i] w fun e w' => e = .returned (.int .u64 x) ∧ w' = w := by
  subst hi
  have hs := hc.sub A (be8 x) Z e
  have hlen : A.length + 8 ≤ n := by rw [hl, e]; simp [be8_length]
  have := be64_any b 0 n c A.length (be8 x) w hn hlen (be8_length x) (fun j hj => by
    have := hs j (by rw [be8_length]; exact hj)
    rwa [Nat.zero_add] at this ⊢)
  rwa [show Lib.beNat (be8 x) = x from Lib.beNat_beBytes 8 x (by simpa using hx)] at this
/-- le32At at a place where x's four bytes lie. -/
theorem le32_row (b n c : Nat) (l A Z : List UInt8) (x : Nat) (i : Int) (w : World) (hn : n ≤ 1073741824) (hl : n = l.length) (hc : CellsAt w b 0 l) (e : l = A ++ (le4 x ++ Z)) (hi : i = (A.length : Int)) (hx : x < 4294967296) :
    Calls Try.prog 12 #[.slice (some ⟨b, 0, none⟩) n c, .int .i64 i] w fun e w' => e = .returned (.int .u32 x) ∧ ∃ m, w' = w.drewN m := by
  subst hi
  have hs := hc.sub A (le4 x) Z e
  have hlen : A.length + 4 ≤ n := by rw [hl, e]; simp [le4_length]
  obtain ⟨b0, b1, b2, b3, hb⟩ : ∃ b0 b1 b2 b3, le4 x = [b0, b1, b2, b3] := by
    have h4 := le4_length x
    match hq : le4 x, h4 with
    | [b0, b1, b2, b3], _ => exact ⟨b0, b1, b2, b3, rfl⟩
  rw [hb] at hs
  have h0 := hs 0 (by simp)
  have h1 := hs 1 (by simp)
  have h2 := hs 2 (by simp)
  have h3 := hs 3 (by simp)
  simp at h0 h1 h2 h3
  have := le32_any b 0 n c A.length b0 b1 b2 b3 w hn hlen (by simpa using h0) (by simpa using h1) (by simpa using h2) (by simpa using h3)
  rwa [← hb, show Lib.leNat (le4 x) = x from Lib.leNat_leBytes 4 x (by simpa using hx)] at this

/-- the bytes of a slice: none, or they lie. -/
def BytesA (w : World) (a : Option Addr) (l : List UInt8) : Prop := l.length = 0 ∨ ∃ b o, a = some ⟨b, o, none⟩ ∧ CellsAt w b o l
theorem bytesEq_all (a1 a2 : Option Addr) (n1 n2 c1 c2 : Nat) (l : List UInt8) (w : World) (hl : l.length ≤ 1073741824) (e1 : n1 = l.length) (e2 : n2 = l.length) (h1 : BytesA w a1 l) (h2 : BytesA w a2 l) :
    Calls Try.prog 11 #[.slice a1 n1 c1, .slice a2 n2 c2] w fun e w' => e = .returned (.bool true) ∧ ∃ n, w' = w.drewN n := by
  subst e1 e2
  by_cases h0 : l.length = 0
  · rw [h0]
    exact (bytesEq_none a1 a2 c1 c2 w).mono fun e w' ⟨he, hw⟩ => ⟨he, 0, hw⟩
  · obtain ⟨b1, o1, rfl, k1⟩ := h1.resolve_left h0
    obtain ⟨b2, o2, rfl, k2⟩ := h2.resolve_left h0
    exact bytesEq_any b1 o1 c1 b2 o2 c2 l w hl k1 k2

/-- string(b[..]) where the bytes of s lie. -/
theorem conv_str (w : World) (b o n c : Nat) (s : ByteArray) (hn : n = s.size) (h : CellsAt w b o s.data.toList) : (convert 22 9 (.slice (some ⟨b, o, none⟩) n c)).run Try.prog w = .ok (.string s) w := by
  have hl : s.data.toList.length = s.size := by rw [Array.length_toList]; rfl
  have := run_convert_bytes_back (P := Try.prog) w 22 9 5 ⟨b, o, none⟩ c s.data.toList Try.underlying22 Try.underlying5 Try.underlying9 (fun j hj => by
    rw [WideShapes.add_plain, h j hj]
    simp [List.getD_eq_getElem?_getD, List.getElem?_eq_getElem hj])
  rw [hn, ← hl, this]

end Go.Proofs.Qxb6618992a.Ch
