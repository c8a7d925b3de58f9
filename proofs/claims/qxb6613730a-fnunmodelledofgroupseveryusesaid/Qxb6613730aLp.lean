import Derived.Test.Qxb6613730aUnm
import Derived.Test.Qxb6613730aCmp
import Derived.Sort.OwnSortedInts
set_option linter.unusedVariables false
namespace Go.Proofs.Qxb6613730a
open Go.RowKit Go.Shelf Go.Sort

def srt (l : List Int) : List Int := l.mergeSort (fun x y => decide (x ≤ y))
theorem srt_perm (l : List Int) : (srt l).Perm l := List.mergeSort_perm l _
theorem srt_length (l : List Int) : (srt l).length = l.length := (srt_perm l).length_eq

/-- The loop of UnmodelledOf behind the groups: the first i of them are sorted and laid into the answer's block. -/
structure Lp [Inhabited Ent] (n₀ fb D0 : Nat) (w W : World) (vk : Value) (us : List Ent) (i : Nat) : Prop where
  defer : W.heap[D0]? = some (.deferred (some []))
  below : Below n₀ w W
  row : W.ownsRow n₀ 93 1 vk us.length (us.map Ent.ptr)
  ent : ∀ j, j < us.length → W.heap[(nth us j).ub]? = some (.cells #[.string (nth us j).m, (nth us j).v] 49 (0, 0)) ∧ W.ownsRow n₀ 3 1 (nth us j).v (nth us j).ls.length ((if j < i then srt (nth us j).ls else (nth us j).ls).map (Value.int .i64)) ∧ n₀ ≤ (nth us j).ub
  found : ∃ cur, W.heap[fb]? = some (.cells cur 49 (0, 0)) ∧ cur.size = us.length * 2 ∧ ∀ j, j < i → cur[j * 2]? = some (.string (nth us j).m) ∧ cur[j * 2 + 1]? = some (nth us j).v
  fbne : n₀ ≤ fb ∧ ∀ j, j < us.length → fb ≠ (nth us j).ub
  lbs : ∀ i j r, i < us.length → j < us.length → i ≠ j → (nth us i).v.ownBlock = some r → (nth us j).v.ownBlock ≠ some r

theorem setCell_at {W : World} {b : Nat} {cur : Array Value} {t : TypeId} {m : Nat × Nat} (h : W.heap[b]? = some (.cells cur t m)) (o : Nat) (v : Value) : (W.setCell ⟨b, o, none⟩ v).heap[b]? = some (.cells (cur.setIfInBounds o v) t m) := by
  obtain ⟨hlt, hk⟩ := Array.getElem?_eq_some_iff.1 h
  show (W.heap.modify b _)[b]? = _
  rw [Array.getElem?_eq_getElem (by rw [Array.size_modify]; exact hlt), Array.getElem_modify_self, hk]
  rfl

theorem heap_cell {W : World} {b : Nat} {cur : Array Value} {t : TypeId} {o : Nat} {v : Value} (h : W.heap[b]? = some (.cells cur t (0, 0))) (hv : cur[o]? = some v) : W.cell? ⟨b, o, none⟩ = some v ∧ W.frozen? ⟨b, o, none⟩ = false := by
  simp [World.cell?, World.frozen?, h, hv]

/-- A group's lines: where they lie. -/
theorem Lp.lines [Inhabited Ent] {n₀ fb D0 : Nat} {w W : World} {vk : Value} {us : List Ent} {i : Nat} (h : Lp n₀ fb D0 w W vk us i) (j : Nat) (hj : j < us.length) (hne : (nth us j).ls ≠ []) :
    ∃ lb cap cur, (nth us j).v = .slice (some ⟨lb, 0, none⟩) (nth us j).ls.length cap ∧ n₀ ≤ lb ∧ lb < W.heap.size ∧ W.heap[lb]? = some (.cells cur 3 (0, 0)) ∧ (nth us j).ls.length ≤ cap ∧ cap ≤ maxLen ∧ cur.size = cap * 1 ∧ cur.toList.take ((nth us j).ls.length) = (if j < i then srt (nth us j).ls else (nth us j).ls).map (Value.int .i64) := by
  obtain ⟨_, hr, _⟩ := h.ent j hj
  rcases hr.2 with ⟨_, h0⟩ | ⟨g, cap, cur, hv, hb, hg, h1, h2, h3, h4⟩
  · exact absurd (List.length_eq_zero_iff.1 h0) hne
  · exact ⟨g, cap, cur, hv, hb, lt_of_heap hg, hg, h1, h2, h3, by rw [Nat.mul_one] at h4; exact h4⟩

/-- One round: the lines sorted, the struct copied. -/
theorem Lp.step [Inhabited Ent] {n₀ fb D0 : Nat} {w W : World} {vk : Value} {us : List Ent} {i : Nat} (h : Lp n₀ fb D0 w W vk us i) (hi : i < us.length) {lb cap : Nat} {cur : Array Value} (hv : (nth us i).v = .slice (some ⟨lb, 0, none⟩) (nth us i).ls.length cap) (hlb : n₀ ≤ lb) (hg : W.heap[lb]? = some (.cells cur 3 (0, 0)))
    (h1 : (nth us i).ls.length ≤ cap) (h2 : cap ≤ maxLen) (h3 : cur.size = cap * 1) (n : Nat) (os : Array Obj) (W1 : World) (hW1 : W1 = grow (putRow (Value.int .i64) (Sort.ahead W n) lb 0 (srt (nth us i).ls).toArray) os) :
    W1.heap[(nth us i).ub]? = some (.cells #[.string (nth us i).m, (nth us i).v] 49 (0, 0)) ∧ W1.ownsRow n₀ 93 1 vk us.length (us.map Ent.ptr) ∧
    (∃ cur, W1.heap[fb]? = some (.cells cur 49 (0, 0)) ∧ cur.size = us.length * 2) ∧
    Lp n₀ fb D0 w ((W1.setCell ⟨fb, i * 2, none⟩ (.string (nth us i).m)).setCell ⟨fb, i * 2 + 1, none⟩ (nth us i).v) vk us (i + 1) := by
  have hgr : W.grownBy W1 (some lb) := by rw [hW1]; exact grownBy_sortedI _
  have hkeep : ∀ b o, W.heap[b]? = some o → b ≠ lb → W1.heap[b]? = some o := fun b o hb hne => heap_kept hgr hb (by simpa using hne.symm)
  have hubne : ∀ j, j < us.length → (nth us j).ub ≠ lb := fun j hj => ne_of_tag (h.ent j hj).1 hg (by decide)
  obtain ⟨F, hF, hFs, hFc⟩ := h.found
  have hfl : fb ≠ lb := ne_of_tag hF hg (by decide)
  have hF1 := hkeep fb _ hF hfl
  have hrow1 : W1.ownsRow n₀ 93 1 vk us.length (us.map Ent.ptr) := h.row.kept hgr (by
    cases hr : vk.ownBlock with
    | none => exact .inl rfl
    | some r =>
      obtain ⟨_, c, hc⟩ := own_heap h.row hr
      exact .inr (fun e => ne_of_tag hc hg (by decide) (by simpa using e)))
  have hvb : (nth us i).v.ownBlock = some lb := by rw [hv]; rfl
  let W2 := (W1.setCell ⟨fb, i * 2, none⟩ (.string (nth us i).m))
  let W3 := W2.setCell ⟨fb, i * 2 + 1, none⟩ (nth us i).v
  have g2 : W1.grownBy W2 (some fb) := grownBy_set _ _ _
  have g3 : W2.grownBy W3 (some fb) := grownBy_set _ _ _
  have hkeep3 : ∀ b o, W1.heap[b]? = some o → b ≠ fb → W3.heap[b]? = some o := fun b o hb hne => heap_kept g3 (heap_kept g2 hb (by simpa using hne.symm)) (by simpa using hne.symm)
  have hown3 : ∀ e v n xs, W1.ownsRow n₀ e 1 v n xs → e ≠ 49 → W3.ownsRow n₀ e 1 v n xs := fun e v n xs hr he => by
    have aux : v.ownBlock = none ∨ v.ownBlock ≠ some fb := by
      cases hr' : v.ownBlock with
      | none => exact .inl rfl
      | some r =>
        obtain ⟨_, c, hc⟩ := own_heap hr hr'
        exact .inr (fun e' => ne_of_tag hc hF1 he (by simpa using e'))
    exact (hr.kept g2 aux).kept g3 aux
  have hdl : D0 ≠ lb := fun e => by have := h.defer; rw [e, hg] at this; cases this
  have hdf : D0 ≠ fb := fun e => by have := h.defer; rw [e, hF] at this; cases this
  have hB1 : Below n₀ w W1 := h.below.grown hgr (by have := lt_of_heap hg; omega) (fun k e => by cases e; exact hlb)
  refine ⟨hkeep _ _ (h.ent i hi).1 (hubne i hi), hrow1, ⟨F, hF1, hFs⟩, ⟨hkeep3 _ _ (hkeep _ _ h.defer hdl) hdf, (hB1.setCell h.fbne.1 _).setCell h.fbne.1 _, hown3 93 _ _ _ hrow1 (by decide), ?_, ?_, h.fbne, h.lbs⟩⟩
  · intro j hj
    refine ⟨hkeep3 _ _ (hkeep _ _ (h.ent j hj).1 (hubne j hj)) (h.fbne.2 j hj).symm, hown3 3 _ _ _ ?_ (by decide), (h.ent j hj).2.2⟩
    by_cases hji : j = i
    · subst hji
      rw [if_pos (by omega), hv, hW1]
      exact ownsRow_sortedI (srt_length _) hlb hg h1 h2 h3
    · have := (h.ent j hj).2.1.kept hgr (.inr (h.lbs i j lb hi hj (Ne.symm hji) hvb))
      by_cases hlt : j < i
      · rw [if_pos hlt] at this; rw [if_pos (by omega)]; exact this
      · rw [if_neg hlt] at this; rw [if_neg (by omega)]; exact this
  · refine ⟨_, setCell_at (setCell_at hF1 (i * 2) (.string (nth us i).m)) (i * 2 + 1) (nth us i).v, by simp [hFs], fun j hj => ?_⟩
    by_cases hji : j = i
    · subst hji
      constructor
      · rw [Array.getElem?_setIfInBounds_ne (by omega), Array.getElem?_setIfInBounds_self_of_lt (by omega)]
      · rw [Array.getElem?_setIfInBounds_self_of_lt (by simp; omega)]
    · have hc := hFc j (by omega)
      constructor
      · rw [Array.getElem?_setIfInBounds_ne (by omega), Array.getElem?_setIfInBounds_ne (by omega)]; exact hc.1
      · rw [Array.getElem?_setIfInBounds_ne (by omega), Array.getElem?_setIfInBounds_ne (by omega)]; exact hc.2

/-- Behind the groups: the answer's block is laid. -/
theorem Lp.start [Inhabited Ent] {n₀ Bm Bk bm cnt D0 : Nat} {w W : World} {vk : Value} {D : DataW Unit} {us : List Ent} (h : St n₀ Bm Bk W bm cnt vk D us) (hd : W.heap[D0]? = some (.deferred (some []))) (hb : Below n₀ w W) (hn : n₀ ≤ W.heap.size) (cur : Array Value) (hc : cur.size = us.length * 2) :
    Lp n₀ W.heap.size D0 w (W.alloc (.cells cur 49)) vk us 0 := by
  have hA := h.alloc (.cells cur 49)
  have hg := World.grownBy_alloc W (.cells cur 49) none
  exact ⟨heap_kept hg hd (by simp), hb.alloc hn _, hA.row, fun j hj => by simpa using hA.ent j hj, ⟨cur, by show (W.heap.push _)[W.heap.size]? = _; simp, hc, fun j hj => absurd hj (Nat.not_lt_zero _)⟩, ⟨hn, fun j hj => by have := lt_of_heap (h.ent j hj).1; omega⟩, h.lbs⟩
end Go.Proofs.Qxb6613730a
