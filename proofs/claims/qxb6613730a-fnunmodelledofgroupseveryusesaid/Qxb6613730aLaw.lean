import Derived.Test.Qxb6613730aLp2
import Derived.Test.Qxb6613730aFirst
set_option linter.unusedVariables false
/-! The plain laws: no Go in sight. -/
namespace Go.Proofs.Qxb6613730a

/-- The groups of a list of uses (kind, line). -/
def gf (ps : List (ByteArray × Int)) : List (ByteArray × List Int) := ps.foldl (fun g p => addUse p.1 p.2 g) []
def flatU (xs : List (Int × List ByteArray)) : List (ByteArray × Int) := xs.flatMap fun x => x.2.map fun k => (k, x.1)
theorem gf_snoc (ps : List (ByteArray × Int)) (p : ByteArray × Int) : gf (ps ++ [p]) = addUse p.1 p.2 (gf ps) := by simp [gf]

theorem addUses_flat (z : Int) : ∀ (ks : List ByteArray) (g : List (ByteArray × List Int)), addUses z ks g = (ks.map fun k => (k, z)).foldl (fun g p => addUse p.1 p.2 g) g
  | [], _ => rfl
  | k :: ks, g => by
    have := addUses_flat z ks (addUse k z g)
    simpa [addUses] using this
theorem groups_flat (xs : List (Int × List ByteArray)) : groups xs = gf (flatU xs) := by
  unfold groups gf flatU
  suffices ∀ (xs : List (Int × List ByteArray)) (g : List (ByteArray × List Int)), xs.foldl (fun g x => addUses x.1 x.2 g) g = (xs.flatMap fun x => x.2.map fun k => (k, x.1)).foldl (fun g p => addUse p.1 p.2 g) g from this xs []
  intro xs
  induction xs with
  | nil => intro g; rfl
  | cons x xs ih => intro g; rw [List.foldl_cons, List.flatMap_cons, List.foldl_append, ih, addUses_flat]

def names (g : List (ByteArray × List Int)) : List ByteArray := g.map Prod.fst

theorem snoc_ind {α : Type} {P : List α → Prop} (h0 : P []) (h1 : ∀ l x, P l → P (l ++ [x])) (l : List α) : P l := by
  have : ∀ l : List α, P l.reverse := fun l => by
    induction l with
    | nil => exact h0
    | cons x l ih => rw [List.reverse_cons]; exact h1 _ _ ih
  have := this l.reverse
  rwa [List.reverse_reverse] at this

theorem names_old (k : ByteArray) (z : Int) : ∀ (g : List (ByteArray × List Int)), k ∈ names g → names (addUse k z g) = names g
  | [], h => by simp [names] at h
  | p :: r, h => by
    unfold addUse
    by_cases hk : p.1 = k
    · simp [names, hk]
    · rw [if_neg hk]
      have : k ∈ names r := by
        simp only [names, List.map_cons, List.mem_cons] at h
        exact h.resolve_left (fun e => hk e.symm)
      have ih := names_old k z r this
      simp only [names, List.map_cons] at ih ⊢
      rw [ih]
theorem names_new (k : ByteArray) (z : Int) (g : List (ByteArray × List Int)) (h : k ∉ names g) : names (addUse k z g) = names g ++ [k] := by
  rw [addUse_new k z g (fun p hp e => h (by rw [← e]; exact List.mem_map_of_mem hp))]
  simp [names]

theorem names_mem (ps : List (ByteArray × Int)) (k : ByteArray) : k ∈ names (gf ps) ↔ k ∈ ps.map Prod.fst := by
  induction ps using snoc_ind with
  | h0 => simp [gf, names]
  | h1 ps p ih =>
    rw [gf_snoc]
    by_cases hp : p.1 ∈ names (gf ps)
    · rw [names_old _ _ _ hp, ih, List.map_append, List.mem_append]
      constructor
      · exact .inl
      · rintro (h | h)
        · exact h
        · simp at h; subst h; exact ih.1 hp
    · rw [names_new _ _ _ hp]; simp [ih]

theorem names_nodup (ps : List (ByteArray × Int)) : (names (gf ps)).Nodup := by
  induction ps using snoc_ind with
  | h0 => simp [gf, names]
  | h1 ps p ih =>
    rw [gf_snoc]
    by_cases hp : p.1 ∈ names (gf ps)
    · rw [names_old _ _ _ hp]; exact ih
    · rw [names_new _ _ _ hp]
      exact List.nodup_append.2 ⟨ih, by simp, fun a ha b hb => by simp at hb; subst hb; exact fun e => hp (e ▸ ha)⟩

/-- How many kinds there are. -/
def dcount (l : List ByteArray) : Nat := (gf (l.map fun k => (k, 0))).length
theorem len_names (g : List (ByteArray × List Int)) : g.length = (names g).length := by simp [names]
theorem gf_len_old (ps : List (ByteArray × Int)) (p : ByteArray × Int) (h : p.1 ∈ ps.map Prod.fst) : (gf (ps ++ [p])).length = (gf ps).length := by
  rw [len_names, gf_snoc, names_old _ _ _ ((names_mem ps p.1).2 h), ← len_names]
theorem gf_len_new (ps : List (ByteArray × Int)) (p : ByteArray × Int) (h : p.1 ∉ ps.map Prod.fst) : (gf (ps ++ [p])).length = (gf ps).length + 1 := by
  rw [len_names, gf_snoc, names_new _ _ _ (fun e => h ((names_mem ps p.1).1 e)), List.length_append, ← len_names]; rfl
theorem dcount_old (l : List ByteArray) (k : ByteArray) (h : k ∈ l) : dcount (l ++ [k]) = dcount l := by
  unfold dcount
  rw [List.map_append, List.map_singleton, gf_len_old _ _ (by simpa using h)]
theorem dcount_new (l : List ByteArray) (k : ByteArray) (h : k ∉ l) : dcount (l ++ [k]) = dcount l + 1 := by
  unfold dcount
  rw [List.map_append, List.map_singleton, gf_len_new _ _ (by simpa using h)]
theorem gf_len (ps : List (ByteArray × Int)) : (gf ps).length = dcount (ps.map Prod.fst) := by
  induction ps using snoc_ind with
  | h0 => rfl
  | h1 ps p ih =>
    rw [List.map_append, List.map_singleton]
    by_cases hp : p.1 ∈ ps.map Prod.fst
    · rw [gf_len_old _ _ hp, dcount_old _ _ hp, ih]
    · rw [gf_len_new _ _ hp, dcount_new _ _ hp, ih]
theorem flatU_fst : ∀ (zs : List Int) (kk : List (List ByteArray)), zs.length = kk.length → (flatU (zs.zip kk)).map Prod.fst = kk.flatten
  | [], [], _ => rfl
  | z :: zs, k :: kk, h => by
    have ih := flatU_fst zs kk (by simpa using h)
    unfold flatU at ih ⊢
    rw [List.zip_cons_cons, List.flatMap_cons, List.map_append, ih, List.flatten_cons]
    simp [Function.comp_def]
theorem dcount_le (l : List ByteArray) : dcount l ≤ l.length := by
  induction l using snoc_ind with
  | h0 => exact Nat.zero_le _
  | h1 l k ih =>
    rw [List.length_append, List.length_singleton]
    by_cases h : k ∈ l
    · rw [dcount_old l k h]; omega
    · rw [dcount_new l k h]; omega

theorem firstAt_early : ∀ (l r : List ByteArray) (m : ByteArray), m ∈ l → ∃ i, firstAt m (l ++ r) = some i ∧ i < l.length
  | [], _, _, h => by simp at h
  | x :: l, r, m, h => by
    by_cases hx : x = m
    · exact ⟨0, by simp [firstAt, hx], by simp⟩
    · obtain ⟨i, h1, h2⟩ := firstAt_early l r m (by simpa [Ne.symm hx] using h)
      exact ⟨i + 1, by simp [firstAt, hx, h1], by simpa using h2⟩
theorem firstUse_early (l r : List ByteArray) (m : ByteArray) (h : m ∈ l) : firstUse (l ++ r) m < (l.length : Nat) := by
  obtain ⟨i, h1, h2⟩ := firstAt_early l r m h
  simp only [firstUse, h1]; omega

/-! ### The answer -/
theorem srt_srt (l : List Int) : srt (srt l) = srt l := by
  have := List.pairwise_mergeSort (le := fun x y : Int => decide (x ≤ y)) (fun a b c h1 h2 => by simp at *; omega) (fun a b => by simp; omega) l
  exact List.mergeSort_of_pairwise this

theorem ans_len {gs rs : List (ByteArray × List Int)} (h : Ans gs rs) : rs.length = gs.length := by
  obtain ⟨σ, hp, rfl, _⟩ := h
  simp [hp.length_eq]
theorem map_range_nth {α β : Type} [Inhabited α] (l : List α) (f : α → β) : (List.range l.length).map (fun i => f (nth l i)) = l.map f := by
  apply List.ext_getElem (by simp)
  intro i h1 h2
  simp at h1
  simp [nth_eq l i h1]
theorem ans_linesN {gs rs : List (ByteArray × List Int)} (h : Ans gs rs) : linesN rs = linesN gs := by
  obtain ⟨σ, hp, rfl, _⟩ := h
  have h1 := (hp.map (fun i => (nth gs i).2.length)).sum_nat
  rw [map_range_nth gs (fun p => p.2.length)] at h1
  unfold linesN
  rw [← h1, List.map_map]
  congr 1
  apply List.map_congr_left
  intro i _
  exact srt_length _
theorem ans_names {gs rs : List (ByteArray × List Int)} (h : Ans gs rs) : (names rs).Perm (names gs) := by
  obtain ⟨σ, hp, rfl, _⟩ := h
  have h1 := hp.map (fun i => (nth gs i).1)
  rw [map_range_nth gs Prod.fst] at h1
  simpa [names, List.map_map, Function.comp_def] using h1
theorem ans_ne {gs rs : List (ByteArray × List Int)} (h : Ans gs rs) (hg : ∀ p ∈ gs, p.2 ≠ []) : ∀ p ∈ rs, p.2 ≠ [] := by
  obtain ⟨σ, hp, rfl, _⟩ := h
  intro p hm
  obtain ⟨i, hi, rfl⟩ := List.mem_map.1 hm
  have hi' : i < gs.length := List.mem_range.1 (hp.mem_iff.1 hi)
  intro e
  have := srt_length (nth gs i).2
  rw [show srt (nth gs i).2 = [] from e] at this
  exact hg _ (nth_mem gs i hi') (List.length_eq_zero_iff.1 this.symm)

/-- THE ANSWER, TAKEN BACK AS GROUPS, IS ITS OWN ANSWER. -/
theorem ans_self {gs rs rs2 : List (ByteArray × List Int)} (h : Ans gs rs) (h2 : Ans rs rs2) : rs2 = rs := by
  obtain ⟨σ, hp, rfl, hs⟩ := h
  obtain ⟨τ, hq, rfl, ht⟩ := h2
  have hlen : (σ.map (fun i => ((nth gs i).1, srt (nth gs i).2))).length = σ.length := by simp
  have hn : ∀ i (h : i < σ.length), nth (σ.map (fun i => ((nth gs i).1, srt (nth gs i).2))) i = ((nth gs σ[i]).1, srt (nth gs σ[i]).2) := fun i h => by
    rw [nth_eq _ _ (by simpa using h), List.getElem_map]
  have hkey : ∀ i (h : i < σ.length), keyOf (σ.map (fun i => ((nth gs i).1, srt (nth gs i).2))) i = keyOf gs σ[i] := fun i h => by
    unfold keyOf; rw [hn i h]; simp only [srt_srt]
  have hid : τ = List.range σ.length := by
    refine List.Perm.eq_of_pairwise ?_ ht ?_ (by rw [← hlen]; exact hq)
    · intro a b _ _ h1 h2
      rcases h1 with h1 | ⟨h1, h1'⟩ <;> rcases h2 with h2 | ⟨h2, h2'⟩ <;> omega
    · rw [List.pairwise_iff_getElem]
      intro i j hi hj hij
      simp at hi hj
      rw [List.getElem_range, List.getElem_range, hkey i hi, hkey j hj]
      have := (List.pairwise_iff_getElem.1 hs) i j hi hj hij
      rcases this with h | ⟨h, _⟩
      · exact .inl h
      · exact .inr ⟨h, hij⟩
  rw [hid, ← hlen]
  refine (map_range_nth (σ.map (fun i => ((nth gs i).1, srt (nth gs i).2))) (fun p => (p.1, srt p.2))).trans ?_
  rw [List.map_map]
  apply List.map_congr_left
  intro i _
  simp [srt_srt]

/-- The answer as uses. -/
def flatR (rs : List (ByteArray × List Int)) : List (ByteArray × Int) := rs.flatMap fun r => r.2.map fun z => (r.1, z)

theorem gf_append (ps qs : List (ByteArray × Int)) : gf (ps ++ qs) = qs.foldl (fun g p => addUse p.1 p.2 g) (gf ps) := by simp [gf]
theorem fold_same (k : ByteArray) (g : List (ByteArray × List Int)) (h : k ∉ names g) : ∀ (zs ys : List Int), (zs.map fun z => (k, z)).foldl (fun g p => addUse p.1 p.2 g) (g ++ [(k, ys)]) = g ++ [(k, ys ++ zs)]
  | [], ys => by simp
  | z :: zs, ys => by
    rw [List.map_cons, List.foldl_cons]
    have e : addUse k z (g ++ [(k, ys)]) = g ++ [(k, ys ++ [z])] := by
      rw [addUse_at k z (g ++ [(k, ys)]) g.length ys (by simp) (fun j p hj hp => by
        rw [List.getElem?_append_left hj] at hp
        intro e
        exact h (by rw [← e]; exact List.mem_map_of_mem (List.mem_of_getElem? hp)))]
      simp
    show (zs.map fun z => (k, z)).foldl (fun g p => addUse p.1 p.2 g) (addUse k z (g ++ [(k, ys)])) = _
    rw [e, fold_same k g h zs (ys ++ [z])]
    simp
theorem gf_flatR (rs : List (ByteArray × List Int)) (hn : (names rs).Nodup) (hne : ∀ p ∈ rs, p.2 ≠ []) : gf (flatR rs) = rs := by
  induction rs using snoc_ind with
  | h0 => rfl
  | h1 rs r ih =>
    have hn' : (names rs).Nodup ∧ r.1 ∉ names rs := by
      simp only [names, List.map_append, List.map_singleton] at hn ⊢
      have := List.nodup_append.1 hn
      exact ⟨this.1, fun h => this.2.2 _ h r.1 (by simp) rfl⟩
    have e := ih hn'.1 (fun p hp => hne p (by simp [hp]))
    have : flatR (rs ++ [r]) = flatR rs ++ r.2.map fun z => (r.1, z) := by simp [flatR]
    rw [this, gf_append, e]
    obtain ⟨k, l⟩ := r
    cases l with
    | nil => exact absurd rfl (hne (k, []) (by simp))
    | cons z zs =>
      rw [List.map_cons, List.foldl_cons]
      show (zs.map fun z => (k, z)).foldl (fun g p => addUse p.1 p.2 g) (addUse k z rs) = _
      rw [addUse_new k z rs (fun p hp e => hn'.2 (by rw [show (k, z :: zs).1 = p.1 from e.symm]; exact List.mem_map_of_mem hp)), fold_same k rs hn'.2 zs [z]]
      rfl

theorem flatU_single : ∀ (ps : List (ByteArray × Int)), flatU ((ps.map Prod.snd).zip (ps.map fun p => [p.1])) = ps
  | [] => rfl
  | p :: ps => by
    have ih := flatU_single ps
    unfold flatU at ih ⊢
    rw [List.map_cons, List.map_cons, List.zip_cons_cons, List.flatMap_cons, ih]
    rfl

/-- ZZUnmodelledOf OVER ITS OWN ANSWER's LINES AND KINDS: THE SAME ANSWER. -/
theorem roundtrip (zs : List Int) (kk : List (List ByteArray)) (rs rs2 : List (ByteArray × List Int)) (h : Ans (groups (zs.zip kk)) rs) (h2 : Ans (groups (((flatR rs).map Prod.snd).zip ((flatR rs).map fun p => [p.1]))) rs2) : rs2 = rs := by
  have hne := ans_ne h (groups_ne _)
  have hnd : (names rs).Nodup := (ans_names h).nodup_iff.2 (by rw [groups_flat]; exact names_nodup _)
  rw [groups_flat, flatU_single, gf_flatR rs hnd hne] at h2
  exact ans_self h h2
theorem ans_count (zs : List Int) (kk : List (List ByteArray)) (rs : List (ByteArray × List Int)) (hl : zs.length = kk.length) (h : Ans (groups (zs.zip kk)) rs) : rs.length = dcount kk.flatten ∧ linesN rs = pairsN kk := by
  refine ⟨by rw [ans_len h, groups_flat, gf_len, flatU_fst zs kk hl], ?_⟩
  rw [ans_linesN h, linesN_groups]
  unfold pairsN
  rw [List.length_flatten]
  congr 1
  apply List.ext_getElem (by simp [hl])
  intro i h1 h2
  simp
theorem flatR_len (rs : List (ByteArray × List Int)) : (flatR rs).length = linesN rs := by
  unfold flatR linesN
  rw [List.length_flatMap]
  congr 1
  apply List.map_congr_left
  intro r _
  simp
theorem linesN_take (rs : List (ByteArray × List Int)) (i : Nat) (h : i < rs.length) : linesN (rs.take (i + 1)) = linesN (rs.take i) + (nth rs i).2.length := by
  rw [take_nth rs i h]; simp [linesN]
theorem linesN_take_le (rs : List (ByteArray × List Int)) (i : Nat) : linesN (rs.take i) ≤ linesN rs := by
  unfold linesN
  conv => rhs; rw [← List.take_append_drop i rs]
  rw [List.map_append, List.sum_append]; omega
theorem flatR_take (rs : List (ByteArray × List Int)) (i : Nat) (h : i < rs.length) : flatR (rs.take (i + 1)) = flatR (rs.take i) ++ (nth rs i).2.map fun z => ((nth rs i).1, z) := by
  rw [take_nth rs i h]; simp [flatR]
end Go.Proofs.Qxb6613730a
