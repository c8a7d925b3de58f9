import Derived.Sort.LotA
/-! The plain half of slices.SortStableFunc: no Go in sight. -/
set_option linter.unusedVariables false
set_option linter.unusedSectionVars false
namespace Go.Proofs.Qxb6613730a.Stab
open Go.Sort

section
variable {α : Type} [Inhabited α]

theorem arr_ext {d e : Array α} (hs : d.size = e.size) (h : ∀ t, t < d.size → d[t]! = e[t]!) : d = e :=
  Array.ext hs fun t h1 h2 => by have := h t h1; rwa [getElem!_pos d t h1, getElem!_pos e t h2] at this

/-- swapRange(data, a, b, n). -/
def swapN (d : Array α) (a b : Nat) : Nat → Array α
  | 0 => d
  | n + 1 => swp (swapN d a b n) (a + n) (b + n)

theorem swapN_size (d : Array α) (a b : Nat) : ∀ n, (swapN d a b n).size = d.size
  | 0 => rfl
  | n + 1 => by rw [swapN, size_swp, swapN_size d a b n]

theorem swapN_get (d : Array α) (a b : Nat) : ∀ n, a + n ≤ b → b + n ≤ d.size → ∀ t,
    (swapN d a b n)[t]! = if a ≤ t ∧ t < a + n then d[t - a + b]! else if b ≤ t ∧ t < b + n then d[t - b + a]! else d[t]!
  | 0, _, _, t => by
    rw [if_neg (by omega), if_neg (by omega)]; rfl
  | n + 1, h1, h2, t => by
    have ih := swapN_get d a b n (by omega) (by omega)
    rw [swapN, swp_get _ (by rw [swapN_size]; omega) (by rw [swapN_size]; omega)]
    simp only [ih]
    repeat' split
    all_goals first | (exfalso; omega) | rfl | (congr 1; omega)

/-- rotate(data, a, m, b): data[m:b] ahead of data[a:m]. -/
def rot (d : Array α) (a m b : Nat) : Array α :=
  (Array.range d.size).map fun t => if a ≤ t ∧ t < a + (b - m) then d[t + (m - a)]! else if a + (b - m) ≤ t ∧ t < b then d[t - (b - m)]! else d[t]!

theorem rot_size (d : Array α) (a m b : Nat) : (rot d a m b).size = d.size := by simp [rot]
theorem rot_get (d : Array α) (a m b t : Nat) (h : t < d.size) :
    (rot d a m b)[t]! = if a ≤ t ∧ t < a + (b - m) then d[t + (m - a)]! else if a + (b - m) ≤ t ∧ t < b then d[t - (b - m)]! else d[t]! := by
  rw [getElem!_pos _ t (by rw [rot_size]; exact h)]
  simp [rot]

theorem rot_left (d : Array α) (a m b t : Nat) (h0 : b ≤ d.size) (h1 : a ≤ m) (h2 : m ≤ b) (h3 : a ≤ t) (h4 : t < a + (b - m)) : (rot d a m b)[t]! = d[t + (m - a)]! := by
  rw [rot_get d a m b t (by omega), if_pos ⟨h3, h4⟩]
theorem rot_right (d : Array α) (a m b t : Nat) (h0 : b ≤ d.size) (h1 : a ≤ m) (h2 : m ≤ b) (h3 : a + (b - m) ≤ t) (h4 : t < b) : (rot d a m b)[t]! = d[t - (b - m)]! := by
  rw [rot_get d a m b t (by omega), if_neg (by omega), if_pos ⟨h3, h4⟩]
theorem rot_out (d : Array α) (a m b t : Nat) (h0 : b ≤ d.size) (h1 : a ≤ m) (h2 : m ≤ b) (h3 : t < a ∨ b ≤ t) : (rot d a m b)[t]! = d[t]! := by
  by_cases h : t < d.size
  · rw [rot_get d a m b t h, if_neg (by omega), if_neg (by omega)]
  · rw [getElem!_neg _ t (by rw [rot_size]; exact h), getElem!_neg d t h]

theorem map_range'_shift (f g : Nat → α) (s s' n : Nat) (h : ∀ i, i < n → f (s + i) = g (s' + i)) : (List.range' s n).map f = (List.range' s' n).map g := by
  apply List.ext_getElem
  · simp
  · intro i h1 _
    simp only [List.getElem_map, List.getElem_range', Nat.one_mul]
    exact h i (by simpa using h1)

theorem rot_perm (d : Array α) (a m b : Nat) (h1 : a ≤ m) (h2 : m ≤ b) (h3 : b ≤ d.size) : PermIn a b d (rot d a m b) := by
  refine ⟨rot_size d a m b, fun t ht => rot_out d a m b t h3 h1 h2 ht, ?_⟩
  rw [extract_toList _ a b (by rw [rot_size]; exact h3), extract_toList d a b h3]
  have s1 : List.range' a (b - a) = List.range' a (b - m) ++ List.range' (a + (b - m)) (m - a) := by
    have := List.range'_append_1 (s := a) (m := b - m) (n := m - a)
    rw [this]; congr 1; omega
  have s2 : List.range' a (b - a) = List.range' a (m - a) ++ List.range' m (b - m) := by
    have := List.range'_append_1 (s := a) (m := m - a) (n := b - m)
    rw [show a + (m - a) = m by omega] at this
    rw [this]; congr 1; omega
  conv => lhs; rw [s1]
  rw [s2, List.map_append, List.map_append]
  have e1 : (List.range' a (b - m)).map (fun i => (rot d a m b)[i]!) = (List.range' m (b - m)).map (fun i => d[i]!) :=
    map_range'_shift _ _ _ _ _ fun i hi => by
      show (rot d a m b)[a + i]! = d[m + i]!
      rw [rot_left d a m b (a + i) h3 h1 h2 (by omega) (by omega)]; congr 1; omega
  have e2 : (List.range' (a + (b - m)) (m - a)).map (fun i => (rot d a m b)[i]!) = (List.range' a (m - a)).map (fun i => d[i]!) :=
    map_range'_shift _ _ _ _ _ fun i hi => by
      show (rot d a m b)[a + (b - m) + i]! = d[a + i]!
      rw [rot_right d a m b _ h3 h1 h2 (by omega) (by omega)]; congr 1; omega
  rw [e1, e2]
  exact List.perm_append_comm

/-- rotate's loop, i > j. -/
theorem rot_stepL (d : Array α) (m i j : Nat) (hi : i ≤ m) (hj : m + j ≤ d.size) (h : j < i) : rot (swapN d (m - i) m j) (m - (i - j)) m (m + j) = rot d (m - i) m (m + j) := by
  refine arr_ext (by rw [rot_size, rot_size, swapN_size]) fun t ht => ?_
  rw [rot_size, swapN_size] at ht
  have g := swapN_get d (m - i) m j (by omega) (by omega)
  rw [rot_get _ _ _ _ _ (by rw [swapN_size]; exact ht), rot_get _ _ _ _ _ ht]
  simp only [g]
  repeat' split
  all_goals first | (exfalso; omega) | rfl | (congr 1; omega)

/-- .. i < j. -/
theorem rot_stepR (d : Array α) (m i j : Nat) (hi : i ≤ m) (hj : m + j ≤ d.size) (h : i < j) : rot (swapN d (m - i) (m + j - i) i) (m - i) m (m + (j - i)) = rot d (m - i) m (m + j) := by
  refine arr_ext (by rw [rot_size, rot_size, swapN_size]) fun t ht => ?_
  rw [rot_size, swapN_size] at ht
  have g := swapN_get d (m - i) (m + j - i) i (by omega) (by omega)
  rw [rot_get _ _ _ _ _ (by rw [swapN_size]; exact ht), rot_get _ _ _ _ _ ht]
  simp only [g]
  repeat' split
  all_goals first | (exfalso; omega) | rfl | (congr 1; omega)

/-- .. i = j: the last exchange. -/
theorem rot_last (d : Array α) (m i : Nat) (hi : i ≤ m) (hj : m + i ≤ d.size) : swapN d (m - i) m i = rot d (m - i) m (m + i) := by
  refine arr_ext (by rw [rot_size, swapN_size]) fun t ht => ?_
  rw [swapN_size] at ht
  rw [swapN_get d (m - i) m i (by omega) (by omega), rot_get _ _ _ _ _ ht]
  repeat' split
  all_goals first | (exfalso; omega) | rfl | (congr 1; omega)

theorem rot_none (d : Array α) (a m b : Nat) (h1 : a ≤ m) (h2 : m ≤ b) (h3 : b ≤ d.size) (h : a = m ∨ m = b) : rot d a m b = d := by
  refine arr_ext (rot_size _ _ _ _) fun t ht => ?_
  rw [rot_size] at ht
  rw [rot_get _ _ _ _ _ ht]
  repeat' split
  all_goals first | (exfalso; omega) | rfl | (congr 1; omega)

/-- One exchange of the short insertion to the right: data[a] wanders from k to k + 1. -/
theorem rot_up (d : Array α) (a k : Nat) (h1 : a ≤ k) (h2 : k + 2 ≤ d.size) : swp (rot d a (a + 1) (k + 1)) k (k + 1) = rot d a (a + 1) (k + 2) := by
  refine arr_ext (by rw [size_swp, rot_size, rot_size]) fun t ht => ?_
  rw [size_swp, rot_size] at ht
  rw [swp_get _ (by rw [rot_size]; omega) (by rw [rot_size]; omega), rot_get d a (a + 1) (k + 2) t ht, rot_get d a (a + 1) (k + 1) t ht, rot_get d a (a + 1) (k + 1) k (by omega), rot_get d a (a + 1) (k + 1) (k + 1) (by omega)]
  repeat' split
  all_goals first | (exfalso; omega) | rfl | (congr 1; omega)

/-- .. to the left: data[m] wanders from k + 1 to k. -/
theorem rot_down (d : Array α) (m k : Nat) (h1 : k + 1 ≤ m) (h2 : m + 1 ≤ d.size) : swp (rot d (k + 1) m (m + 1)) (k + 1) k = rot d k m (m + 1) := by
  refine arr_ext (by rw [size_swp, rot_size, rot_size]) fun t ht => ?_
  rw [size_swp, rot_size] at ht
  rw [swp_get _ (by rw [rot_size]; omega) (by rw [rot_size]; omega), rot_get d k m (m + 1) t ht, rot_get d (k + 1) m (m + 1) t ht, rot_get d (k + 1) m (m + 1) k (by omega), rot_get d (k + 1) m (m + 1) (k + 1) (by omega)]
  repeat' split
  all_goals first | (exfalso; omega) | rfl | (congr 1; omega)
end
end Go.Proofs.Qxb6613730a.Stab
