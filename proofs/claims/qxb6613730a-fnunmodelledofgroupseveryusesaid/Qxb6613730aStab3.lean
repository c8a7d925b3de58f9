import Derived.Test.Qxb6613730aStab2
set_option linter.unusedVariables false
set_option linter.unusedSectionVars false
namespace Go.Proofs.Qxb6613730a.Stab
open Go.Sort

theorem dvd_next {D lo a : Nat} (h1 : D ∣ lo) (h2 : D ∣ a) (h : lo < a) : lo + D ≤ a := by
  obtain ⟨x, rfl⟩ := h1
  obtain ⟨y, rfl⟩ := h2
  have hxy : x < y := Nat.lt_of_mul_lt_mul_left h
  have := Nat.mul_le_mul_left D (show x + 1 ≤ y from hxy)
  rwa [Nat.mul_add, Nat.mul_one] at this

theorem dvd_same {D lo a : Nat} (h1 : D ∣ lo) (h2 : D ∣ a) (h3 : a ≤ lo) (h4 : lo < a + D) : lo = a := by
  by_cases h : a < lo
  · have := dvd_next h2 h1 h; omega
  · omega

section
variable {α : Type} [Inhabited α] (key : α → Int) (org : α → Nat)

/-- Every block of size bs is one. -/
def Blks (bs n : Nat) (d : Array α) : Prop := ∀ lo, bs ∣ lo → lo < n → Blk key org d lo (min (lo + bs) n)

/-- The first pass, a block laid. -/
structure Pass1 (d dk : Array α) (n a : Nat) : Prop where
  sz : dk.size = d.size
  perm : PermIn 0 n d dk
  done : ∀ lo, 20 ∣ lo → lo < a → Blk key org dk lo (lo + 20)
  rest : ∀ i, a ≤ i → i < n → org dk[i]! = i

theorem pass1_start (d : Array α) (n : Nat) (h : ∀ i, i < n → org d[i]! = i) : Pass1 key org d d n 0 :=
  ⟨rfl, permIn_refl d 0 n, fun lo _ h => absurd h (Nat.not_lt_zero _), fun i _ hi => h i hi⟩

theorem pass1_org (d dk : Array α) (n a b : Nat) (h : Pass1 key org d dk n a) (hb : b ≤ n) : ∀ p q, a ≤ p → p < q → q < b → org dk[p]! < org dk[q]! := fun p q hp hpq hq => by
  rw [h.rest p hp (by omega), h.rest q (by omega) (by omega)]; exact hpq

theorem pass1_blk (d dk d' : Array α) (n a b : Nat) (h : Pass1 key org d dk n a) (hn : n ≤ d.size) (hb : b ≤ n) (hab : a ≤ b) (hM : Merged key org dk d' a b) : Blk key org d' a b :=
  ⟨hM.2, permIn_all dk d' a b (fun x => a ≤ org x ∧ org x < b) (by rw [h.sz]; omega) hM.1 fun i h1 h2 => by rw [h.rest i h1 (by omega)]; exact ⟨h1, h2⟩⟩

theorem pass1_step (d dk d' : Array α) (n a : Nat) (h : Pass1 key org d dk n a) (hn : n ≤ d.size) (ha : 20 ∣ a) (hb : a + 20 ≤ n) (hM : Merged key org dk d' a (a + 20)) : Pass1 key org d d' n (a + 20) := by
  have hB := pass1_blk key org d dk d' n a (a + 20) h hn hb (by omega) hM
  refine ⟨hM.1.1.trans h.sz, permIn_trans _ _ _ _ _ h.perm (permIn_mono dk d' a (a + 20) 0 n (Nat.zero_le _) hb (by rw [h.sz]; exact hn) hM.1), fun lo hlo hl => ?_, fun i h1 h2 => ?_⟩
  · by_cases c : lo < a
    · exact blk_out key org dk d' lo (lo + 20) a (a + 20) hM.1 (Or.inl (dvd_next hlo ha c)) (h.done lo hlo c)
    · obtain rfl := dvd_same hlo ha (by omega) hl
      exact hB
  · rw [hM.1.2.1 i (Or.inr h1)]; exact h.rest i (by omega) h2

theorem pass1_end (d dk d' : Array α) (n a : Nat) (h : Pass1 key org d dk n a) (hn : n ≤ d.size) (ha : 20 ∣ a) (han : a ≤ n) (hb : n < a + 20) (hM : Merged key org dk d' a n) : PermIn 0 n d d' ∧ Blks key org 20 n d' := by
  have hB := pass1_blk key org d dk d' n a n h hn (Nat.le_refl _) han hM
  refine ⟨permIn_trans _ _ _ _ _ h.perm (permIn_mono dk d' a n 0 n (Nat.zero_le _) (Nat.le_refl _) (by rw [h.sz]; exact hn) hM.1), fun lo hlo hl => ?_⟩
  by_cases c : lo < a
  · have := dvd_next hlo ha c
    rw [Nat.min_eq_left (by omega)]
    exact blk_out key org dk d' lo (lo + 20) a n hM.1 (Or.inl this) (h.done lo hlo c)
  · obtain rfl := dvd_same hlo ha (by omega) (by omega)
    rw [Nat.min_eq_right (by omega)]
    exact hB

/-- A later pass: blocks of bs made into blocks of 2 bs, up to a. -/
structure Pass2 (d dk : Array α) (bs n a : Nat) : Prop where
  sz : dk.size = d.size
  perm : PermIn 0 n d dk
  done : ∀ lo, 2 * bs ∣ lo → lo < a → Blk key org dk lo (lo + 2 * bs)
  rest : ∀ lo, bs ∣ lo → a ≤ lo → lo < n → Blk key org dk lo (min (lo + bs) n)

theorem pass2_start (d dk : Array α) (bs n : Nat) (hs : dk.size = d.size) (hp : PermIn 0 n d dk) (h : Blks key org bs n dk) : Pass2 key org d dk bs n 0 :=
  ⟨hs, hp, fun lo _ h => absurd h (Nat.not_lt_zero _), fun lo h1 _ h2 => h lo h1 h2⟩

theorem dvd_half {bs a : Nat} (h : 2 * bs ∣ a) : bs ∣ a := Nat.dvd_trans (Nat.dvd_mul_left bs 2) h

/-- The two blocks that are merged next. -/
theorem pass2_two (d dk : Array α) (bs n a : Nat) (h : Pass2 key org d dk bs n a) (hbs : 0 < bs) (ha : 2 * bs ∣ a) (hb : a + bs < n) : Blk key org dk a (a + bs) ∧ Blk key org dk (a + bs) (min (a + 2 * bs) n) := by
  have h1 := h.rest a (dvd_half ha) (Nat.le_refl _) (by omega)
  rw [Nat.min_eq_left (by omega)] at h1
  have h2 := h.rest (a + bs) ((Nat.dvd_add_right (dvd_half ha)).2 (Nat.dvd_refl bs)) (by omega) hb
  rw [show a + bs + bs = a + 2 * bs by omega] at h2
  exact ⟨h1, h2⟩

theorem pass2_step (d dk d' : Array α) (bs n a : Nat) (h : Pass2 key org d dk bs n a) (hbs : 0 < bs) (hn : n ≤ d.size) (ha : 2 * bs ∣ a) (hb : a + 2 * bs ≤ n) (hM : Merged key org dk d' a (a + 2 * bs)) : Pass2 key org d d' bs n (a + 2 * bs) := by
  have h2 := pass2_two key org d dk bs n a h hbs ha (by omega)
  rw [Nat.min_eq_left hb] at h2
  have hB := blk_merged key org dk d' a (a + bs) (a + 2 * bs) (by omega) (by omega) (by rw [h.sz]; omega) h2.1 h2.2 hM
  refine ⟨hM.1.1.trans h.sz, permIn_trans _ _ _ _ _ h.perm (permIn_mono dk d' a (a + 2 * bs) 0 n (Nat.zero_le _) hb (by rw [h.sz]; exact hn) hM.1), fun lo hlo hl => ?_, fun lo hlo h1 h2 => ?_⟩
  · by_cases c : lo < a
    · exact blk_out key org dk d' lo (lo + 2 * bs) a (a + 2 * bs) hM.1 (Or.inl (dvd_next hlo ha c)) (h.done lo hlo c)
    · obtain rfl := dvd_same hlo ha (by omega) hl
      exact hB
  · exact blk_out key org dk d' lo _ a (a + 2 * bs) hM.1 (Or.inr h1) (h.rest lo hlo (by omega) h2)

/-- The pass's end: the last, shorter, pair merged. -/
theorem pass2_end (d dk d' : Array α) (bs n a : Nat) (h : Pass2 key org d dk bs n a) (hbs : 0 < bs) (hn : n ≤ d.size) (ha : 2 * bs ∣ a) (hb : a + bs < n) (hb2 : n < a + 2 * bs) (hM : Merged key org dk d' a n) : d'.size = d.size ∧ PermIn 0 n d d' ∧ Blks key org (2 * bs) n d' := by
  have h2 := pass2_two key org d dk bs n a h hbs ha hb
  rw [Nat.min_eq_right (by omega)] at h2
  have hB := blk_merged key org dk d' a (a + bs) n (by omega) (by omega) (by rw [h.sz]; omega) h2.1 h2.2 hM
  refine ⟨hM.1.1.trans h.sz, permIn_trans _ _ _ _ _ h.perm (permIn_mono dk d' a n 0 n (Nat.zero_le _) (Nat.le_refl _) (by rw [h.sz]; exact hn) hM.1), fun lo hlo hl => ?_⟩
  by_cases c : lo < a
  · have := dvd_next hlo ha c
    rw [Nat.min_eq_left (by omega)]
    exact blk_out key org dk d' lo (lo + 2 * bs) a n hM.1 (Or.inl this) (h.done lo hlo c)
  · obtain rfl := dvd_same hlo ha (by omega) (by omega)
    rw [Nat.min_eq_right (by omega)]
    exact hB

/-- .. or left as it is. -/
theorem pass2_idle (d dk : Array α) (bs n a : Nat) (h : Pass2 key org d dk bs n a) (hbs : 0 < bs) (ha : 2 * bs ∣ a) (hb : n ≤ a + bs) (han : a ≤ n) : PermIn 0 n d dk ∧ Blks key org (2 * bs) n dk := by
  refine ⟨h.perm, fun lo hlo hl => ?_⟩
  by_cases c : lo < a
  · have h1 := dvd_next hlo ha c
    rw [Nat.min_eq_left (by omega)]; exact h.done lo hlo c
  · obtain rfl := dvd_same hlo ha (by omega) (by omega)
    have hr := h.rest lo (dvd_half ha) (Nat.le_refl _) hl
    rw [Nat.min_eq_right (by omega)] at hr
    rw [Nat.min_eq_right (by omega)]
    exact hr

theorem blks_all (bs n : Nat) (d : Array α) (h : Blks key org bs n d) (hn : n ≤ bs) : Srt key org d 0 n := by
  by_cases c : 0 < n
  · have := h 0 (Nat.dvd_zero bs) c
    rw [Nat.min_eq_right (by omega)] at this
    exact this.1
  · intro i j _ _ hj; omega
end
end Go.Proofs.Qxb6613730a.Stab
