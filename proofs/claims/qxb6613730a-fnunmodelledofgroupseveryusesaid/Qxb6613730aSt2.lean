import Derived.Test.Qxb6613730aSt
set_option linter.unusedVariables false
namespace Go.Proofs.Qxb6613730a
open Go.RowKit Go.Shelf

/-- 'u = &Unmodelled{Match: k}; byKind[k] = u; kinds = append(kinds, u)', k being new. -/
theorem St.fresh [Inhabited Ent] {n₀ Bm Bk B : Nat} {W : World} {bm cnt : Nat} {vk : Value} {D : DataW Unit} {us : List Ent} (h : St n₀ Bm Bk W bm cnt vk D us) (hn₀ : n₀ ≤ W.heap.size) (hB : bm < B) (k : ByteArray) (hk : ∀ i, i < us.length → (nth us i).m ≠ k)
    (W2 : World) (hmap : W2.ownsMap Try.prog 9 ptrR bm (cnt + 1) (D.put (.string k.data.toList) (.lit (.int .i64 W.heap.size)))) (hg2 : (W.alloc (.cells #[.string k, .slice none 0 0] 49)).grownBy W2 (some bm))
    (tmp : Obj) (W4 : World) (vk' : Value) (hown : W4.ownsRow n₀ 93 1 vk' (us.length + 1) (us.map Ent.ptr ++ [.pointer (some ⟨W.heap.size, 0, none⟩)])) (hg4 : (W2.alloc tmp).grownBy W4 vk.ownBlock) (hat : vk'.ownBlock = vk.ownBlock ∨ vk'.ownBlock = some (W2.alloc tmp).heap.size) :
    Boxed W4 Bk 92 vk ∧ St n₀ Bm Bk (W4.setCell ⟨Bk, 0, none⟩ vk') bm (cnt + 1) vk' (D.put (.string k.data.toList) (.lit (.int .i64 W.heap.size))) (us ++ [⟨k, W.heap.size, .slice none 0 0, []⟩]) ∧
    Below n₀ W (W4.setCell ⟨Bk, 0, none⟩ vk') ∧ KeepsFrom B W (W4.setCell ⟨Bk, 0, none⟩ vk') := by
  have hA := h.alloc (.cells #[.string k, .slice none 0 0] 49)
  have hnew : (W.alloc (.cells #[.string k, .slice none 0 0] 49)).heap[W.heap.size]? = some (.cells #[.string k, .slice none 0 0] 49 (0, 0)) := World.alloc_heap_new W _
  obtain ⟨es, c, hmh⟩ := map_heap hA.map
  -- behind the map's store: whatever is cells stays
  have keep2 : ∀ (b : Nat) (cs : Array Value) (t : TypeId) (m : Nat × Nat), (W.alloc (.cells #[.string k, .slice none 0 0] 49)).heap[b]? = some (Obj.cells cs t m) → W2.heap[b]? = some (Obj.cells cs t m) := fun b cs t m hb =>
    heap_kept hg2 hb (fun e => by simp at e; rw [← e, hmh] at hb; cases hb)
  have rowKeep2 : ∀ (e : TypeId) (v : Value) (n : Nat) (xs : List Value), (W.alloc (.cells #[.string k, .slice none 0 0] 49)).ownsRow n₀ e 1 v n xs → W2.ownsRow n₀ e 1 v n xs := fun e v n xs hv => by
    refine hv.kept hg2 ?_
    cases hr : v.ownBlock with
    | none => exact .inl rfl
    | some r =>
      refine .inr fun e' => ?_
      obtain ⟨_, cur, hc⟩ := own_heap hv hr
      simp at e'
      rw [e', hmh] at hc; cases hc
  have hg3 := World.grownBy_alloc W2 tmp none
  have keep3 : ∀ (b : Nat) (o : Obj), W2.heap[b]? = some o → (W2.alloc tmp).heap[b]? = some o := fun b o hb => heap_kept hg3 hb (by simp)
  have rowKeep3 : ∀ (e : TypeId) (v : Value) (n : Nat) (xs : List Value), W2.ownsRow n₀ e 1 v n xs → (W2.alloc tmp).ownsRow n₀ e 1 v n xs := fun e v n xs hv => hv.kept hg3 (by cases v.ownBlock <;> simp)
  -- the row that the append may have written is kinds' own
  have hrow : ∀ r, vk.ownBlock = some r → n₀ ≤ r ∧ ∃ cur, (W2.alloc tmp).heap[r]? = some (.cells cur 93 (0, 0)) := fun r hr => own_heap (rowKeep3 _ _ _ _ (rowKeep2 _ _ _ _ hA.row)) hr
  have keep4 : ∀ (b : Nat) (cs : Array Value) (t : TypeId) (m : Nat × Nat), t ≠ 93 → (W2.alloc tmp).heap[b]? = some (Obj.cells cs t m) → W4.heap[b]? = some (Obj.cells cs t m) := fun b cs t m ht hb =>
    heap_kept hg4 hb (fun e => by obtain ⟨_, cur, hc⟩ := hrow b e; exact ne_of_tag hb hc ht rfl)
  have rowKeep4 : ∀ (e : TypeId) (v : Value) (n : Nat) (xs : List Value), e ≠ 93 → (W2.alloc tmp).ownsRow n₀ e 1 v n xs → W4.ownsRow n₀ e 1 v n xs := fun e v n xs he hv => by
    refine hv.kept hg4 ?_
    cases hr : v.ownBlock with
    | none => exact .inl rfl
    | some r =>
      refine .inr fun e' => ?_
      obtain ⟨_, cur, hc⟩ := own_heap hv hr
      obtain ⟨_, cur', hc'⟩ := hrow r e'.symm
      exact ne_of_tag hc hc' he rfl
  have hBk4 : Boxed W4 Bk 92 vk := keep4 _ _ _ _ (by decide) (keep3 _ _ (keep2 _ _ _ _ hA.boxK))
  have hg5 := grownBy_set W4 ⟨Bk, 0, none⟩ vk'
  have keep5 : ∀ (b : Nat) (cs : Array Value) (t : TypeId) (m : Nat × Nat), t ≠ 92 → W4.heap[b]? = some (Obj.cells cs t m) → (W4.setCell ⟨Bk, 0, none⟩ vk').heap[b]? = some (Obj.cells cs t m) := fun b cs t m ht hb =>
    heap_kept hg5 hb (fun e => by simp at e; exact ne_of_tag hb hBk4 ht e.symm)
  have rowKeep5 : ∀ (e : TypeId) (v : Value) (n : Nat) (xs : List Value), e ≠ 92 → W4.ownsRow n₀ e 1 v n xs → (W4.setCell ⟨Bk, 0, none⟩ vk').ownsRow n₀ e 1 v n xs := fun e v n xs he hv => by
    refine hv.kept hg5 ?_
    cases hr : v.ownBlock with
    | none => exact .inl rfl
    | some r =>
      refine .inr fun e' => ?_
      obtain ⟨_, cur, hc⟩ := own_heap hv hr
      simp at e'
      exact ne_of_tag hc hBk4 he e'
  have m4 : W4.ownsMap Try.prog 9 ptrR bm (cnt + 1) (D.put (.string k.data.toList) (.lit (.int .i64 W.heap.size))) := by
    refine (hmap.alloc tmp).kept hg4 (fun e => ?_)
    obtain ⟨_, cur, hc⟩ := hrow bm e.symm
    obtain ⟨es', c', hm'⟩ := map_heap (hmap.alloc tmp)
    rw [hc] at hm'; cases hm'
  have hIM := h.map.isMap
  have hnl : ∀ i, i < us.length → (nth us i).ub < W.heap.size := fun i hi => lt_of_heap (h.ent i hi).1
  have hlen : (us ++ [(⟨k, W.heap.size, .slice none 0 0, []⟩ : Ent)]).length = us.length + 1 := by simp
  have hcase : ∀ j, j < us.length + 1 → j < us.length ∨ j = us.length := fun j hj => by omega
  refine ⟨hBk4, ⟨?_, ?_, ?_, ?_, ?_, ?_, ?_, ?_, ?_, ?_, h.bnd⟩, ?_, ?_⟩
  · exact keep5 _ _ _ _ (by decide) (keep4 _ _ _ _ (by decide) (keep3 _ _ (keep2 _ _ _ _ hA.boxM)))
  · exact hBk4.set vk'
  · refine m4.kept hg5 (fun e => ?_)
    obtain ⟨es', c', hm'⟩ := map_heap m4
    simp at e
    rw [e, show W4.heap[Bk]? = _ from hBk4] at hm'; cases hm'
  · rw [hlen, List.map_append]
    exact rowKeep5 _ _ _ _ (by decide) hown
  · intro i hi
    rw [hlen] at hi
    rcases hcase i hi with hi' | rfl
    · rw [nth_append_left _ _ _ hi']
      exact ⟨keep5 _ _ _ _ (by decide) (keep4 _ _ _ _ (by decide) (keep3 _ _ (keep2 _ _ _ _ (hA.ent i hi').1))), rowKeep5 _ _ _ _ (by decide) (rowKeep4 _ _ _ _ (by decide) (rowKeep3 _ _ _ _ (rowKeep2 _ _ _ _ (hA.ent i hi').2.1))), (h.ent i hi').2.2⟩
    · rw [nth_append_last]
      exact ⟨keep5 _ _ _ _ (by decide) (keep4 _ _ _ _ (by decide) (keep3 _ _ (keep2 _ _ _ _ hnew))), World.ownsRow_nil _ _ _ _, hn₀⟩
  · intro i j hi hj hij
    rw [hlen] at hi hj
    rcases hcase i hi with hi' | rfl <;> rcases hcase j hj with hj' | rfl
    · rw [nth_append_left _ _ _ hi', nth_append_left _ _ _ hj']; exact h.ubs i j hi' hj' hij
    · rw [nth_append_left _ _ _ hi', nth_append_last]; have := hnl i hi'; exact Nat.ne_of_lt this
    · rw [nth_append_left _ _ _ hj', nth_append_last]; have := hnl j hj'; exact (Nat.ne_of_lt this).symm
    · exact absurd rfl hij
  · intro i j r hi hj hij h1
    rw [hlen] at hi hj
    rcases hcase i hi with hi' | rfl <;> rcases hcase j hj with hj' | rfl
    · rw [nth_append_left _ _ _ hi'] at h1; rw [nth_append_left _ _ _ hj']; exact h.lbs i j r hi' hj' hij h1
    · rw [nth_append_last]; simp [Value.ownBlock]
    · rw [nth_append_last] at h1; simp [Value.ownBlock] at h1
    · exact absurd rfl hij
  · intro i j hi hj hij
    rw [hlen] at hi hj
    rcases hcase i hi with hi' | rfl <;> rcases hcase j hj with hj' | rfl
    · rw [nth_append_left _ _ _ hi', nth_append_left _ _ _ hj']; exact h.names i j hi' hj' hij
    · rw [nth_append_left _ _ _ hi', nth_append_last]; exact hk i hi'
    · rw [nth_append_left _ _ _ hj', nth_append_last]; exact (hk j hj').symm
    · exact absurd rfl hij
  · intro k'
    rw [hlen]
    by_cases e : k' = k
    · subst e
      refine ⟨fun _ => ⟨us.length, by omega, by rw [nth_append_last]⟩, fun _ => ?_⟩
      exact Maps.has_put_same hIM (by trivial) _
    · rw [Maps.has_put_other (fun e' => e (by simp at e'; exact ByteArray.ext e')), h.has k']
      constructor
      · rintro ⟨i, hi, hm⟩
        exact ⟨i, by omega, by rw [nth_append_left _ _ _ hi]; exact hm⟩
      · rintro ⟨i, hi, hm⟩
        rcases hcase i hi with hi' | rfl
        · exact ⟨i, hi', by rw [nth_append_left _ _ _ hi'] at hm; exact hm⟩
        · rw [nth_append_last] at hm; exact absurd hm.symm e
  · intro i hi z
    rw [hlen] at hi
    rcases hcase i hi with hi' | rfl
    · rw [nth_append_left _ _ _ hi', Maps.atKey_put_other (fun e' => hk i hi' (by simp at e'; exact ByteArray.ext e'))]
      exact h.atK i hi' z
    · rw [nth_append_last]
      exact Maps.atKey_put_same hIM (by trivial) _ _
  · have b1 : Below n₀ W W2 := ((Below.refl n₀ W).alloc hn₀ _).grown hg2 (by simp; omega) (fun r e => by cases e; exact h.bnd.2.2)
    have s2 : n₀ ≤ W2.heap.size := Nat.le_trans hn₀ b1.size
    have b2 : Below n₀ W W4 := (b1.alloc s2 tmp).grown hg4 (by simp; omega) (fun r e => (hrow r e).1)
    exact b2.setCell (p := ⟨Bk, 0, none⟩) h.bnd.2.1 vk'
  · refine (((KeepsOthers.alloc W _).from B).trans (KeepsFrom.of_grownBy hg2 (fun j e => by cases e; exact hB))).trans ?_
    refine (((KeepsOthers.alloc W2 tmp).trans (KeepsOthers.of_grownBy hg4 fun j o ej hj => ?_)).trans (KeepsOthers.setCell _ _ _)).from B
    obtain ⟨_, cur, hc⟩ := hrow j ej
    rw [hc] at hj; cases hj; rfl

end Go.Proofs.Qxb6613730a
