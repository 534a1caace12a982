/-
  The plain mathematics of a dict that keeps its keys in the order in which they came: no Go in it.
-/
namespace Go.Proofs.Qxb6618885a.Dc

/-- k joins the keys, behind the others, if it is not there. -/
def add (ks : List (List UInt8)) (k : List UInt8) : List (List UInt8) := if k ∈ ks then ks else ks ++ [k]
def upd (f : List UInt8 → Int) (k : List UInt8) (v : Int) : List UInt8 → Int := fun x => if x = k then v else f x
/-- the keys after the first m. -/
def dist (K : Nat → List UInt8) : Nat → List (List UInt8)
  | 0 => []
  | m + 1 => add (dist K m) (K m)
/-- the values after the first m. -/
def lastv (K : Nat → List UInt8) (V : Nat → Int) : Nat → List UInt8 → Int
  | 0 => fun _ => 0
  | m + 1 => upd (lastv K V m) (K m) (V m)
/-- the place of k among ks: the number of keys if it is not there. -/
def place (ks : List (List UInt8)) (k : List UInt8) : Nat := ks.idxOf k

theorem add_mem {ks : List (List UInt8)} {k : List UInt8} (h : k ∈ ks) : add ks k = ks := by simp [add, h]
theorem add_new {ks : List (List UInt8)} {k : List UInt8} (h : k ∉ ks) : add ks k = ks ++ [k] := by simp [add, h]
theorem mem_add {ks : List (List UInt8)} {k x : List UInt8} : x ∈ add ks k ↔ x ∈ ks ∨ x = k := by
  unfold add; split
  · constructor
    · exact Or.inl
    · rintro (h | rfl)
      · exact h
      · assumption
  · simp
theorem length_add (ks : List (List UInt8)) (k : List UInt8) : (add ks k).length = if k ∈ ks then ks.length else ks.length + 1 := by
  unfold add; split <;> simp
theorem add_add (ks : List (List UInt8)) (k : List UInt8) : add (add ks k) k = add ks k := add_mem (mem_add.2 (.inr rfl))
theorem place_new {ks : List (List UInt8)} {k : List UInt8} (h : k ∉ ks) : place ks k = ks.length := by
  unfold place; exact List.idxOf_eq_length h
theorem place_add_other {ks : List (List UInt8)} {k x : List UInt8} (hx : x ∈ ks) : place (add ks k) x = place ks x := by
  unfold add; split
  · rfl
  · unfold place; rw [List.idxOf_append, if_pos hx]
theorem place_add_same (ks : List (List UInt8)) (k : List UInt8) : place (add ks k) k = place ks k := by
  by_cases h : k ∈ ks
  · rw [add_mem h]
  · rw [add_new h, place_new h]
    unfold place
    rw [List.idxOf_append, if_neg h]
    simp
theorem place_le (ks : List (List UInt8)) (k : List UInt8) : place ks k ≤ ks.length := by unfold place; exact List.idxOf_le_length

theorem upd_same (f : List UInt8 → Int) (k : List UInt8) (v : Int) : upd f k v k = v := by simp [upd]
theorem upd_other {f : List UInt8 → Int} {k x : List UInt8} {v : Int} (h : x ≠ k) : upd f k v x = f x := by simp [upd, h]
theorem upd_upd (f : List UInt8 → Int) (k : List UInt8) (v v' : Int) : upd (upd f k v) k v' = upd f k v' := by
  funext x; unfold upd; split <;> rfl

theorem mem_dist {K : Nat → List UInt8} {x : List UInt8} : ∀ {m : Nat}, x ∈ dist K m ↔ ∃ j, j < m ∧ K j = x
  | 0 => by simp [dist]
  | m + 1 => by
    rw [dist, mem_add, mem_dist (m := m)]
    constructor
    · rintro (⟨j, h, e⟩ | rfl)
      · exact ⟨j, by omega, e⟩
      · exact ⟨m, by omega, rfl⟩
    · rintro ⟨j, h, e⟩
      by_cases hj : j = m
      · subst hj; exact .inr e.symm
      · exact .inl ⟨j, by omega, e⟩
theorem dist_len_le (K : Nat → List UInt8) : ∀ m, (dist K m).length ≤ m
  | 0 => by simp [dist]
  | m + 1 => by have := dist_len_le K m; rw [dist, length_add]; split <;> omega
/-- a key that is there keeps its place. -/
theorem place_stays {K : Nat → List UInt8} {x : List UInt8} {i : Nat} (hx : x ∈ dist K i) : ∀ d, place (dist K (i + d)) x = place (dist K i) x
  | 0 => rfl
  | d + 1 => by
    have hm : x ∈ dist K (i + d) := by
      obtain ⟨j, h, e⟩ := mem_dist.1 hx
      exact mem_dist.2 ⟨j, by omega, e⟩
    rw [← Nat.add_assoc, dist, place_add_other hm, place_stays hx d]
/-- at its first occurrence a key takes the place behind those that were there, and keeps it. -/
theorem place_first {K : Nat → List UInt8} {i n : Nat} (hf : K i ∉ dist K i) (hn : i < n) : place (dist K n) (K i) = (dist K i).length := by
  have hm : K i ∈ dist K (i + 1) := mem_dist.2 ⟨i, by omega, rfl⟩
  have := place_stays hm (n - (i + 1))
  rw [show i + 1 + (n - (i + 1)) = n by omega] at this
  rw [this, dist, place_add_same, place_new hf]
theorem not_first {K : Nat → List UInt8} {i : Nat} (h : K i ∈ dist K i) : dist K (i + 1) = dist K i := by rw [dist, add_mem h]
theorem first_len {K : Nat → List UInt8} {i : Nat} (h : K i ∉ dist K i) : (dist K (i + 1)).length = (dist K i).length + 1 := by rw [dist, add_new h]; simp
/-- the value at the last occurrence. -/
theorem lastv_hit {K : Nat → List UInt8} {V : Nat → Int} {x : List UInt8} {j m : Nat} (hj : j < m) (he : K j = x) (hlast : ∀ i, j < i → i < m → K i ≠ x) : lastv K V m x = V j := by
  induction m with
  | zero => omega
  | succ m ih =>
    rw [lastv]
    by_cases h : j = m
    · subst h; rw [← he, upd_same]
    · rw [upd_other (fun e => hlast m (by omega) (by omega) e.symm)]
      exact ih (by omega) (fun i h1 h2 => hlast i h1 (by omega))

end Go.Proofs.Qxb6618885a.Dc
