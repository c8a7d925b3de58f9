import Derived.Test.Qxb6613730aStab
set_option linter.unusedVariables false
set_option linter.unusedSectionVars false
namespace Go.Proofs.Qxb6613730a.Stab
open Go.Sort

section
variable {α : Type} [Inhabited α] (key : α → Int) (org : α → Nat)

/-- By the key; of one key by the place at which it came. -/
def T (x y : α) : Prop := key x < key y ∨ (key x = key y ∧ org x < org y)
def Srt (d : Array α) (a b : Nat) : Prop := ∀ i j, a ≤ i → i < j → j < b → T key org d[i]! d[j]!
def Cross (d : Array α) (a m b : Nat) : Prop := ∀ i j, a ≤ i → i < m → m ≤ j → j < b → org d[i]! < org d[j]!
def ltK (x y : α) : Bool := decide (key x < key y)
def ltT (x y : α) : Bool := decide (key x < key y ∨ (key x = key y ∧ org x < org y))

theorem T.trans {x y z : α} (h1 : T key org x y) (h2 : T key org y z) : T key org x z := by
  unfold T at *; omega

theorem swoT : SWO (ltT key org) where
  irrefl x := by simp [ltT]
  trans x y z h1 h2 := by simp [ltT] at *; omega
  ntrans x y z h1 h2 := by simp [ltT] at *; omega

/-! ### The insertion sort is stable -/
theorem insInner_eq (a : Nat) : ∀ (j : Nat) (d : Array α), j < d.size → (∀ p, a ≤ p → p < j → org d[p]! < org d[j]!) → insInner (ltK key) a j d = insInner (ltT key org) a j d
  | 0, d, _, _ => rfl
  | j + 1, d, hj, h => by
    unfold insInner
    by_cases hja : j + 1 > a
    · have ho := h j (by omega) (by omega)
      have e : ltK key d[j + 1]! d[j]! = ltT key org d[j + 1]! d[j]! := by
        unfold ltK ltT
        rw [decide_eq_decide]; omega
      rw [e]
      split
      · refine insInner_eq a j _ (by rw [size_swp]; omega) fun p hp hpj => ?_
        rw [swp_right d (j + 1) j (by omega), swp_other d (j + 1) j p (by omega) (by omega)]
        exact h p hp (by omega)
      · rfl
    · have hja' : decide (j + 1 > a) = false := decide_eq_false hja
      rw [hja']; rfl

theorem insOuter_eq (a b : Nat) : ∀ (n i : Nat) (d : Array α), b - i = n → a < i → i ≤ b → b ≤ d.size → SortedIn (ltT key org) a i d → (∀ p q, a ≤ p → p < q → q < b → i ≤ q → org d[p]! < org d[q]!) →
    insOuter (ltK key) a b i d = insOuter (ltT key org) a b i d
  | 0, i, d, hn, _, hib, _, _, _ => by
    obtain rfl : i = b := by omega
    rw [insOuter, if_neg (by omega), insOuter, if_neg (by omega)]
  | n + 1, i, d, hn, hai, hib, hb, hs, ho => by
    have hlt : i < b := by omega
    rw [insOuter, if_pos hlt]
    conv => rhs; rw [insOuter, if_pos hlt]
    rw [insInner_eq key org a i d (by omega) (fun p hp hpi => ho p i hp hpi hlt (Nat.le_refl _))]
    have h1 := insInner_spec (swoT key org) swp_permIn permIn_refl permIn_trans a (i + 1) i (by omega) i d (by omega) (Nat.le_refl _) (by omega) ⟨fun p q hap hpq hqi _ hq => hs p q hap hpq (by omega), fun q h1 h2 => by omega⟩
    refine insOuter_eq a b n (i + 1) _ (by omega) (by omega) (by omega) (by rw [h1.1.1]; exact hb) h1.2 fun p q hap hpq hqb hiq => ?_
    rw [h1.1.2.1 q (Or.inr hiq)]
    by_cases hp : p < i + 1
    · exact permIn_all d _ a (i + 1) (fun x => org x < org d[q]!) (by omega) h1.1 (fun p hp hpi => ho p q hp (by omega) hqb (by omega)) p hap hp
    · rw [h1.1.2.1 p (Or.inr (by omega))]
      exact ho p q hap hpq hqb (by omega)

/-- **The insertion sort, by the key alone, of a range whose places go up: sorted by (key, place).** -/
theorem ins_stable (d : Array α) (a b : Nat) (hab : a ≤ b) (hb : b ≤ d.size) (ho : ∀ p q, a ≤ p → p < q → q < b → org d[p]! < org d[q]!) :
    PermIn a b d (insertionSort (ltK key) d a b) ∧ Srt key org (insertionSort (ltK key) d a b) a b := by
  have e : insertionSort (ltK key) d a b = insertionSort (ltT key org) d a b := by
    unfold insertionSort
    by_cases h : a < b
    · exact insOuter_eq key org a b (b - (a + 1)) (a + 1) d rfl (by omega) (by omega) hb (fun i j h1 h2 h3 => by omega) (fun p q h1 h2 h3 _ => ho p q h1 h2 h3)
    · rw [insOuter, if_neg (by omega), insOuter, if_neg (by omega)]
  have hI := insertionSort_holds (lt := ltT key org) (swoT key org) d a b hab hb
  rw [e]
  refine ⟨hI.1, fun i j h1 h2 h3 => ?_⟩
  have hs := hI.2 i j h1 h2 h3
  generalize insertionSort (ltT key org) d a b = d' at hI hs ⊢
  simp [ltT] at hs
  -- the places are all different
  have hne : org d'[i]! ≠ org d'[j]! := by
    have hp := hI.1.2.2
    rw [extract_toList _ a b (by rw [hI.1.1]; exact hb), extract_toList d a b hb] at hp
    have hnd : ((List.range' a (b - a)).map (fun i => d[i]!)).Pairwise (fun x y => org x ≠ org y) := by
      rw [List.pairwise_map]
      refine List.Pairwise.imp_of_mem (R := (· < ·)) (fun {x y} hx hy hxy => ?_) List.pairwise_lt_range'
      have hx' := List.mem_range'_1.1 hx
      have hy' := List.mem_range'_1.1 hy
      exact Nat.ne_of_lt (ho x y hx'.1 hxy (by omega))
    have hnd' := (hp.pairwise_iff (R := fun x y => org x ≠ org y) (fun h => Ne.symm h)).2 hnd
    rw [List.pairwise_map, List.pairwise_iff_getElem] at hnd'
    have := hnd' (i - a) (j - a) (by simp; omega) (by simp; omega) (by omega)
    simp only [List.getElem_range', Nat.one_mul] at this
    rw [show a + (i - a) = i by omega, show a + (j - a) = j by omega] at this
    exact this
  show T key org _ _
  unfold T
  omega

/-! ### symMerge -/
/-- Two halves, each sorted, every one of the first ahead of every one of the second. -/
theorem srt_join (d : Array α) (a m b : Nat) (h1 : Srt key org d a m) (h2 : Srt key org d m b) (h3 : ∀ i j, a ≤ i → i < m → m ≤ j → j < b → T key org d[i]! d[j]!) : Srt key org d a b := fun i j hi hij hj => by
  by_cases c1 : j < m
  · exact h1 i j hi hij c1
  · by_cases c2 : m ≤ i
    · exact h2 i j c2 hij hj
    · exact h3 i j hi (by omega) (by omega) hj

theorem srt_mono (d : Array α) (a b a' b' : Nat) (h : Srt key org d a b) (ha : a ≤ a') (hb : b' ≤ b) : Srt key org d a' b' := fun i j hi hij hj => h i j (by omega) hij (by omega)

/-- WHAT THE ROTATION AT A CUT (s, e) GIVES. -/
structure Cut (d : Array α) (a s m e b : Nat) : Prop where
  srtL : Srt key org (rot d s m e) a s
  srtM1 : Srt key org (rot d s m e) s (s + (e - m))
  srtM2 : Srt key org (rot d s m e) (s + (e - m)) e
  srtR : Srt key org (rot d s m e) e b
  cross1 : Cross org (rot d s m e) a s (s + (e - m))
  cross2 : Cross org (rot d s m e) (s + (e - m)) e b
  halves : ∀ i j, a ≤ i → i < s + (e - m) → s + (e - m) ≤ j → j < b → T key org (rot d s m e)[i]! (rot d s m e)[j]!

theorem cut_of (d : Array α) (a s m e b : Nat) (has : a ≤ s) (hsm : s ≤ m) (hme : m ≤ e) (heb : e ≤ b) (hb : b ≤ d.size) (h1 : Srt key org d a m) (h2 : Srt key org d m b) (hc : Cross org d a m b)
    (hl : s = a ∨ e = b ∨ T key org d[s - 1]! d[e]!) (hr : s = m ∨ e = m ∨ T key org d[e - 1]! d[s]!) : Cut key org d a s m e b := by
  have gL : ∀ t, a ≤ t → t < s → (rot d s m e)[t]! = d[t]! := fun t _ h => rot_out d s m e t (by omega) hsm hme (Or.inl h)
  have gM1 : ∀ t, s ≤ t → t < s + (e - m) → (rot d s m e)[t]! = d[t + (m - s)]! := fun t h h' => rot_left d s m e t (by omega) hsm hme h h'
  have gM2 : ∀ t, s + (e - m) ≤ t → t < e → (rot d s m e)[t]! = d[t - (e - m)]! := fun t h h' => rot_right d s m e t (by omega) hsm hme h h'
  have gR : ∀ t, e ≤ t → t < b → (rot d s m e)[t]! = d[t]! := fun t h _ => rot_out d s m e t (by omega) hsm hme (Or.inr h)
  refine ⟨fun i j hi hij hj => ?_, fun i j hi hij hj => ?_, fun i j hi hij hj => ?_, fun i j hi hij hj => ?_, fun i j hi hij hj hj' => ?_, fun i j hi hij hj hj' => ?_, fun i j hi him hmj hj => ?_⟩
  · rw [gL i hi (by omega), gL j (by omega) hj]; exact h1 i j hi hij (by omega)
  · rw [gM1 i hi (by omega), gM1 j (by omega) hj]; exact h2 _ _ (by omega) (by omega) (by omega)
  · rw [gM2 i hi (by omega), gM2 j (by omega) hj]; exact h1 _ _ (by omega) (by omega) (by omega)
  · rw [gR i hi (by omega), gR j (by omega) hj]; exact h2 _ _ (by omega) (by omega) (by omega)
  · rw [gL i hi hij, gM1 j hj hj']; exact hc _ _ hi (by omega) (by omega) (by omega)
  · rw [gM2 i hi hij, gR j hj hj']; exact hc _ _ (by omega) (by omega) (by omega) (by omega)
  · -- left half against right half
    have tr := @T.trans α _ key org
    by_cases ci : i < s
    · rw [gL i hi ci]
      by_cases cj : j < e
      · rw [gM2 j hmj cj]; exact h1 _ _ hi (by omega) (by omega)
      · rw [gR j (by omega) hj]
        rcases hl with h | h | h
        · omega
        · omega
        · have t1 : i = s - 1 ∨ T key org d[i]! d[s - 1]! := by
            by_cases c : i = s - 1
            · exact .inl c
            · exact .inr (h1 _ _ hi (by omega) (by omega))
          have t2 : j = e ∨ T key org d[e]! d[j]! := by
            by_cases c : j = e
            · exact .inl c
            · exact .inr (h2 _ _ (by omega) (by omega) hj)
          rcases t1 with rfl | t1
          · rcases t2 with rfl | t2
            · exact h
            · exact tr h t2
          · rcases t2 with rfl | t2
            · exact tr t1 h
            · exact tr t1 (tr h t2)
    · rw [gM1 i (by omega) him]
      by_cases cj : j < e
      · rw [gM2 j hmj cj]
        rcases hr with h | h | h
        · omega
        · omega
        · have t1 : i + (m - s) = e - 1 ∨ T key org d[i + (m - s)]! d[e - 1]! := by
            by_cases c : i + (m - s) = e - 1
            · exact .inl c
            · exact .inr (h2 _ _ (by omega) (by omega) (by omega))
          have t2 : j - (e - m) = s ∨ T key org d[s]! d[j - (e - m)]! := by
            by_cases c : j - (e - m) = s
            · exact .inl c
            · exact .inr (h1 _ _ (by omega) (by omega) (by omega))
          rcases t1 with c1 | t1
          · rw [c1]
            rcases t2 with c2 | t2
            · rw [c2]; exact h
            · exact tr h t2
          · rcases t2 with c2 | t2
            · rw [c2]; exact tr t1 h
            · exact tr t1 (tr h t2)
      · rw [gR j (by omega) hj]; exact h2 _ _ (by omega) (by omega) hj

/-- WHAT symMerge OWES. -/
def Merged (d d' : Array α) (a b : Nat) : Prop := PermIn a b d d' ∧ Srt key org d' a b

/-- THE TWO RECURSIONS, EACH TAKEN OR LEFT OUT WHERE ONE SIDE IS EMPTY. -/
theorem merged_of (d d1 d2 : Array α) (a s m e b : Nat) (has : a ≤ s) (hsm : s ≤ m) (hme : m ≤ e) (heb : e ≤ b) (hb : b ≤ d.size) (C : Cut key org d a s m e b)
    (hL : Merged key org (rot d s m e) d1 a (s + (e - m))) (hR : Merged key org d1 d2 (s + (e - m)) b) : Merged key org d d2 a b := by
  have hmid : s + (e - m) ≤ b := by omega
  have hs1 : d1.size = d.size := by rw [hL.1.1, rot_size]
  have p0 : PermIn a b d (rot d s m e) := permIn_mono d _ s e a b has heb hb (rot_perm d s m e hsm hme (by omega))
  have p1 : PermIn a b (rot d s m e) d1 := permIn_mono _ _ a _ a b (Nat.le_refl _) hmid (by rw [rot_size]; exact hb) hL.1
  have p2 : PermIn a b d1 d2 := permIn_mono _ _ _ b a b (by omega) (Nat.le_refl _) (by omega) hR.1
  refine ⟨permIn_trans _ _ _ _ _ p0 (permIn_trans _ _ _ _ _ p1 p2), ?_⟩
  have q1 : Srt key org d2 a (s + (e - m)) := fun i j hi hij hj => by
    rw [hR.1.2.1 i (Or.inl (by omega)), hR.1.2.1 j (Or.inl hj)]; exact hL.2 i j hi hij hj
  refine srt_join key org d2 a (s + (e - m)) b q1 hR.2 fun i j hi him hmj hj => ?_
  -- every one of the left half ahead of every one of the right half, behind both permutations
  have c1 : ∀ j', s + (e - m) ≤ j' → j' < b → ∀ i, a ≤ i → i < s + (e - m) → T key org d1[i]! (rot d s m e)[j']! := fun j' hj1 hj2 =>
    permIn_all _ d1 a (s + (e - m)) (fun x => T key org x (rot d s m e)[j']!) (by rw [rot_size]; omega) hL.1 (fun i hi him => C.halves i j' hi him hj1 hj2)
  have c2 : ∀ j', s + (e - m) ≤ j' → j' < b → T key org d1[i]! d1[j']! := fun j' hj1 hj2 => by
    have := c1 j' hj1 hj2 i hi him
    rw [hL.1.2.1 j' (Or.inr hj1)]; exact this
  rw [hR.1.2.1 i (Or.inl him)]
  exact permIn_all d1 d2 (s + (e - m)) b (fun y => T key org d1[i]! y) (by omega) hR.1 (fun j' h1 h2 => c2 j' h1 h2) j hmj hj

/-- A half of which one side is empty. -/
theorem merged_idle (d : Array α) (a s m : Nat) (h1 : Srt key org d a s) (h2 : Srt key org d s m) (h : s ≤ a ∨ m ≤ s) : Merged key org d d a m :=
  ⟨permIn_refl d a m, fun i j hi hij hj => by
    rcases h with h | h
    · exact h2 i j (by omega) hij hj
    · exact h1 i j hi hij (by omega)⟩

/-- data[a] alone against data[a+1:b]: laid in at i. -/
theorem merged_up (d : Array α) (a i b : Nat) (hi : a + 1 ≤ i) (hib : i ≤ b) (hb : b ≤ d.size) (h2 : Srt key org d (a + 1) b) (hc : Cross org d a (a + 1) b)
    (hl : i = a + 1 ∨ T key org d[i - 1]! d[a]!) (hr : i = b ∨ T key org d[a]! d[i]!) : Merged key org d (rot d a (a + 1) i) a b := by
  refine ⟨permIn_mono d _ a i a b (Nat.le_refl _) hib hb (rot_perm d a (a + 1) i (by omega) hi (by omega)), ?_⟩
  have tr := @T.trans α _ key org
  have gM1 : ∀ t, a ≤ t → t < i - 1 → (rot d a (a + 1) i)[t]! = d[t + 1]! := fun t h h' => by
    rw [rot_left d a (a + 1) i t (by omega) (by omega) hi h (by omega)]; congr 1; omega
  have gM2 : (rot d a (a + 1) i)[i - 1]! = d[a]! := by
    rw [rot_right d a (a + 1) i (i - 1) (by omega) (by omega) hi (by omega) (by omega)]; congr 1; omega
  have gR : ∀ t, i ≤ t → (rot d a (a + 1) i)[t]! = d[t]! := fun t h => rot_out d a (a + 1) i t (by omega) (by omega) hi (Or.inr h)
  intro p q hp hpq hq
  by_cases cp : p < i - 1
  · rw [gM1 p hp cp]
    by_cases cq : q < i - 1
    · rw [gM1 q (by omega) cq]; exact h2 _ _ (by omega) (by omega) (by omega)
    · by_cases cq' : q = i - 1
      · subst cq'
        rw [gM2]
        rcases hl with h | h
        · omega
        · by_cases c : p + 1 = i - 1
          · rw [c]; exact h
          · exact tr (h2 _ _ (by omega) (by omega) (by omega)) h
      · rw [gR q (by omega)]; exact h2 _ _ (by omega) (by omega) hq
  · by_cases cp' : p = i - 1
    · subst cp'
      rw [gM2, gR q (by omega)]
      rcases hr with h | h
      · omega
      · by_cases c : q = i
        · subst c; exact h
        · exact tr h (h2 _ _ (by omega) (by omega) hq)
    · rw [gR p (by omega), gR q (by omega)]; exact h2 _ _ (by omega) hpq hq

/-- data[a:m] against data[m] alone: laid in at i. -/
theorem merged_down (d : Array α) (a i m : Nat) (hi : a ≤ i) (him : i ≤ m) (hb : m + 1 ≤ d.size) (h1 : Srt key org d a m)
    (hl : i = a ∨ T key org d[i - 1]! d[m]!) (hr : i = m ∨ T key org d[m]! d[i]!) : Merged key org d (rot d i m (m + 1)) a (m + 1) := by
  refine ⟨permIn_mono d _ i (m + 1) a (m + 1) hi (Nat.le_refl _) hb (rot_perm d i m (m + 1) him (by omega) (by omega)), ?_⟩
  have tr := @T.trans α _ key org
  have gL : ∀ t, t < i → (rot d i m (m + 1))[t]! = d[t]! := fun t h => rot_out d i m (m + 1) t (by omega) him (by omega) (Or.inl h)
  have gM1 : (rot d i m (m + 1))[i]! = d[m]! := by
    rw [rot_left d i m (m + 1) i (by omega) him (by omega) (by omega) (by omega)]; congr 1; omega
  have gM2 : ∀ t, i < t → t < m + 1 → (rot d i m (m + 1))[t]! = d[t - 1]! := fun t h h' => by
    rw [rot_right d i m (m + 1) t (by omega) him (by omega) (by omega) h']; congr 1; omega
  intro p q hp hpq hq
  by_cases cp : p < i
  · rw [gL p cp]
    by_cases cq : q < i
    · rw [gL q cq]; exact h1 _ _ hp hpq (by omega)
    · by_cases cq' : q = i
      · subst cq'
        rw [gM1]
        rcases hl with h | h
        · omega
        · by_cases c : p = q - 1
          · subst c; exact h
          · exact tr (h1 _ _ hp (by omega) (by omega)) h
      · rw [gM2 q (by omega) hq]; exact h1 _ _ hp (by omega) (by omega)
  · by_cases cp' : p = i
    · subst cp'
      rw [gM1, gM2 q (by omega) hq]
      rcases hr with h | h
      · omega
      · by_cases c : q - 1 = p
        · rw [c]; exact h
        · exact tr h (h1 _ _ hp (by omega) (by omega))
    · rw [gM2 p (by omega) (by omega), gM2 q (by omega) hq]; exact h1 _ _ (by omega) (by omega) (by omega)

/-! ### stable's own blocks -/
/-- A block: sorted, and what lies in it came from it. -/
def Blk (d : Array α) (lo hi : Nat) : Prop := Srt key org d lo hi ∧ ∀ i, lo ≤ i → i < hi → lo ≤ org d[i]! ∧ org d[i]! < hi

theorem blk_cross (d : Array α) (lo m hi : Nat) (h1 : Blk key org d lo m) (h2 : Blk key org d m hi) : Cross org d lo m hi := fun i j hi1 hi2 hj1 hj2 => by
  have a := h1.2 i hi1 hi2
  have b := h2.2 j hj1 hj2
  omega

theorem blk_merged (d d' : Array α) (lo m hi : Nat) (hlm : lo ≤ m) (hmh : m ≤ hi) (hs : hi ≤ d.size) (h1 : Blk key org d lo m) (h2 : Blk key org d m hi) (h : Merged key org d d' lo hi) : Blk key org d' lo hi :=
  ⟨h.2, permIn_all d d' lo hi (fun x => lo ≤ org x ∧ org x < hi) hs h.1 fun i h3 h4 => by
    by_cases c : i < m
    · have := h1.2 i h3 c; omega
    · have := h2.2 i (by omega) h4; omega⟩

theorem blk_out (d d' : Array α) (lo hi a b : Nat) (h : PermIn a b d d') (ho : hi ≤ a ∨ b ≤ lo) (h1 : Blk key org d lo hi) : Blk key org d' lo hi := by
  have e : ∀ i, lo ≤ i → i < hi → d'[i]! = d[i]! := fun i hi1 hi2 => h.2.1 i (by omega)
  exact ⟨fun i j hi1 hij hj => by rw [e i hi1 (by omega), e j (by omega) hj]; exact h1.1 i j hi1 hij hj, fun i hi1 hi2 => by rw [e i hi1 hi2]; exact h1.2 i hi1 hi2⟩
end
end Go.Proofs.Qxb6613730a.Stab
