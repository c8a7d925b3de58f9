import Derived.Test.Qxb6613730aBase
/-! The plain half of UnmodelledOf's grouping: no Go in sight. -/
namespace Go.Proofs.Qxb6613730a

/-- One use: k's entry gets the line; a new kind comes behind. -/
def addUse (k : ByteArray) (z : Int) : List (ByteArray × List Int) → List (ByteArray × List Int)
  | [] => [(k, [z])]
  | p :: r => if p.1 = k then (p.1, p.2 ++ [z]) :: r else p :: addUse k z r
def addUses (z : Int) (ks : List ByteArray) (g : List (ByteArray × List Int)) : List (ByteArray × List Int) := ks.foldl (fun g k => addUse k z g) g
def groups (xs : List (Int × List ByteArray)) : List (ByteArray × List Int) := xs.foldl (fun g x => addUses x.1 x.2 g) []

theorem addUses_snoc (z : Int) (ks : List ByteArray) (k : ByteArray) (g : List (ByteArray × List Int)) : addUses z (ks ++ [k]) g = addUse k z (addUses z ks g) := by
  simp [addUses]
theorem groups_snoc (xs : List (Int × List ByteArray)) (x : Int × List ByteArray) : groups (xs ++ [x]) = addUses x.1 x.2 (groups xs) := by
  simp [groups]

theorem addUse_new (k : ByteArray) (z : Int) : ∀ (g : List (ByteArray × List Int)), (∀ p ∈ g, p.1 ≠ k) → addUse k z g = g ++ [(k, [z])]
  | [], _ => rfl
  | p :: r, h => by
    rw [addUse, if_neg (h p (by simp)), addUse_new k z r (fun q hq => h q (by simp [hq]))]
    rfl

theorem addUse_at (k : ByteArray) (z : Int) : ∀ (g : List (ByteArray × List Int)) (i : Nat) (ls : List Int), g[i]? = some (k, ls) → (∀ j p, j < i → g[j]? = some p → p.1 ≠ k) → addUse k z g = g.set i (k, ls ++ [z])
  | [], i, ls, h, _ => by simp at h
  | p :: r, 0, ls, h, _ => by
    simp at h; subst h
    simp [addUse]
  | p :: r, i + 1, ls, h, hn => by
    rw [addUse, if_neg (hn 0 p (by omega) rfl), addUse_at k z r i ls (by simpa using h) (fun j q hj hq => hn (j + 1) q (by omega) (by simpa using hq))]
    rfl

/-- No entry without a line. -/
theorem addUse_ne (k : ByteArray) (z : Int) : ∀ (g : List (ByteArray × List Int)), (∀ p ∈ g, p.2 ≠ []) → ∀ p ∈ addUse k z g, p.2 ≠ []
  | [], _, p, hp => by simp [addUse] at hp; subst hp; simp
  | q :: r, h, p, hp => by
    unfold addUse at hp
    split at hp
    · rcases List.mem_cons.1 hp with rfl | hp
      · simp
      · exact h p (by simp [hp])
    · rcases List.mem_cons.1 hp with rfl | hp
      · exact h p (by simp)
      · exact addUse_ne k z r (fun q hq => h q (by simp [hq])) p hp
theorem addUses_ne (z : Int) : ∀ (ks : List ByteArray) (g : List (ByteArray × List Int)), (∀ p ∈ g, p.2 ≠ []) → ∀ p ∈ addUses z ks g, p.2 ≠ []
  | [], _, h => h
  | k :: ks, g, h => addUses_ne z ks (addUse k z g) (addUse_ne k z g h)
theorem groups_ne (xs : List (Int × List ByteArray)) : ∀ p ∈ groups xs, p.2 ≠ [] := by
  suffices ∀ (xs : List (Int × List ByteArray)) (g : List (ByteArray × List Int)), (∀ p ∈ g, p.2 ≠ []) → ∀ p ∈ xs.foldl (fun g x => addUses x.1 x.2 g) g, p.2 ≠ [] from this xs [] (by simp)
  intro xs
  induction xs with
  | nil => exact fun g h => h
  | cons x xs ih => exact fun g h => ih _ (addUses_ne x.1 x.2 g h)

/-- How many lines there are in all. -/
def linesN (g : List (ByteArray × List Int)) : Nat := (g.map fun p => p.2.length).sum
theorem linesN_addUse (k : ByteArray) (z : Int) : ∀ (g : List (ByteArray × List Int)), linesN (addUse k z g) = linesN g + 1
  | [] => rfl
  | p :: r => by
    unfold addUse
    split
    · simp [linesN]; omega
    · have := linesN_addUse k z r
      simp [linesN] at this ⊢; omega
theorem linesN_addUses (z : Int) : ∀ (ks : List ByteArray) (g : List (ByteArray × List Int)), linesN (addUses z ks g) = linesN g + ks.length
  | [], g => rfl
  | k :: ks, g => by
    show linesN (addUses z ks (addUse k z g)) = _
    rw [linesN_addUses z ks, linesN_addUse]; simp; omega
theorem linesN_groups (xs : List (Int × List ByteArray)) : linesN (groups xs) = (xs.map fun x => x.2.length).sum := by
  suffices ∀ (xs : List (Int × List ByteArray)) (g : List (ByteArray × List Int)), linesN (xs.foldl (fun g x => addUses x.1 x.2 g) g) = linesN g + (xs.map fun x => x.2.length).sum by
    have := this xs []; simpa [groups, linesN] using this
  intro xs
  induction xs with
  | nil => intro g; simp
  | cons x xs ih => intro g; rw [List.foldl_cons, ih, linesN_addUses]; simp; omega

theorem linesN_ge (g : List (ByteArray × List Int)) (h : ∀ p ∈ g, p.2 ≠ []) : g.length ≤ linesN g := by
  induction g with
  | nil => simp
  | cons p r ih =>
    have h1 := ih (fun q hq => h q (by simp [hq]))
    have h2 : 0 < p.2.length := List.length_pos_iff.2 (h p (by simp))
    simp [linesN] at h1 ⊢; omega
theorem linesN_one (g : List (ByteArray × List Int)) (p : ByteArray × List Int) (h : p ∈ g) : p.2.length ≤ linesN g := by
  induction g with
  | nil => cases h
  | cons q r ih =>
    rcases List.mem_cons.1 h with rfl | h
    · simp [linesN]
    · have := ih h
      simp [linesN] at this ⊢; omega

end Go.Proofs.Qxb6613730a
