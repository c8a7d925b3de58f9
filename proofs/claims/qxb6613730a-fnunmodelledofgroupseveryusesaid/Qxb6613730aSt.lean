import Derived.Test.Qxb6613730aGroup
import Derived.Test.Qxb6613730aIter
import Derived.Maps.OwnIn
import Derived.Maps.AppendAt
import Derived.RangeFuncBox
set_option linter.unusedVariables false
namespace Go.Proofs.Qxb6613730a
open Go.RowKit Go.Shelf

/-! ### Lists -/
theorem nth_append_left {α : Type} [Inhabited α] (l r : List α) (i : Nat) (h : i < l.length) : nth (l ++ r) i = nth l i := by
  unfold nth; rw [List.getElem?_append_left h]
theorem nth_append_last {α : Type} [Inhabited α] (l : List α) (x : α) : nth (l ++ [x]) l.length = x := by
  unfold nth; simp
theorem nth_set_same {α : Type} [Inhabited α] (l : List α) (i : Nat) (x : α) (h : i < l.length) : nth (l.set i x) i = x := by
  unfold nth; simp [h]
theorem nth_set_other {α : Type} [Inhabited α] (l : List α) (i j : Nat) (x : α) (h : i ≠ j) : nth (l.set i x) j = nth l j := by
  unfold nth; simp [h]
theorem nth_of_mem {α : Type} [Inhabited α] (l : List α) (x : α) (h : x ∈ l) : ∃ i, i < l.length ∧ nth l i = x := by
  obtain ⟨i, hi, rfl⟩ := List.mem_iff_getElem.1 h
  exact ⟨i, hi, nth_eq l i hi⟩

/-! ### Blocks -/
theorem ne_of_tag {W : World} {a b : Nat} {c c' : Array Value} {t t' : TypeId} {m m' : Nat × Nat} (ha : W.heap[a]? = some (.cells c t m)) (hb : W.heap[b]? = some (.cells c' t' m')) (h : t ≠ t') : a ≠ b := by
  rintro rfl
  rw [ha] at hb
  simp at hb
  exact h hb.2.1
theorem lt_of_heap {W : World} {a : Nat} {o : Obj} (h : W.heap[a]? = some o) : a < W.heap.size := (Array.getElem?_eq_some_iff.1 h).1
theorem own_heap {W : World} {base : Nat} {e : TypeId} {size : Nat} {v : Value} {n r : Nat} {xs : List Value} (h : W.ownsRow base e size v n xs) (hr : v.ownBlock = some r) : base ≤ r ∧ ∃ cur, W.heap[r]? = some (.cells cur e (0, 0)) := by
  rcases h.2 with ⟨rfl, _⟩ | ⟨g, cap, cur, rfl, hb, hg, _⟩
  · cases hr
  · simp [Value.ownBlock] at hr
    subst hr
    exact ⟨hb, cur, hg⟩
theorem setCell_two {W : World} {b : Nat} {x y y' : Value} {t : TypeId} (h : W.heap[b]? = some (.cells #[x, y] t (0, 0))) : (W.setCell ⟨b, 1, none⟩ y').heap[b]? = some (.cells #[x, y'] t (0, 0)) := by
  obtain ⟨hlt, hk⟩ := Array.getElem?_eq_some_iff.1 h
  show (W.heap.modify b _)[b]? = _
  rw [Array.getElem?_eq_getElem (by rw [Array.size_modify]; exact hlt), Array.getElem_modify_self, hk]
  rfl
theorem grownBy_set (W : World) (a : Addr) (v : Value) : W.grownBy (W.setCell a v) (some a.block) :=
  ⟨rfl, rfl, rfl, by simp [World.setCell], fun k _ hk => Below.heap_setCell _ _ _ _ (fun e => hk (by rw [e]))⟩

/-! ### The map's elements -/
/-- How an element of map[string]*Unmodelled reads, for our own eyes: nil, or its block's number. -/
def ptrR (v : Value) : Option (DataW Unit × List MemPlace) :=
  match v with
  | .pointer none => some (.nil, [])
  | .pointer (some a) => if a.off = 0 ∧ a.spot = none then some (.lit (.int .i64 a.block), []) else none
  | _ => none
theorem ptrR_mk (b : Nat) : ptrR (.pointer (some ⟨b, 0, none⟩)) = some (.lit (.int .i64 b), []) := by simp [ptrR]
theorem ptrR_inv {v : Value} {b : Nat} {ps : List MemPlace} (h : ptrR v = some (.lit (.int .i64 b), ps)) : v = .pointer (some ⟨b, 0, none⟩) := by
  unfold ptrR at h
  split at h
  · simp at h
  · rename_i a
    split at h
    · rename_i hc
      obtain ⟨bl, off, spot⟩ := a
      simp at hc h
      obtain ⟨rfl, rfl⟩ := hc
      obtain ⟨h1, _⟩ := h
      have : bl = b := by omega
      rw [this]
    · cases h
  · cases h

/-! ### What UnmodelledOf has gathered -/
/-- One *Unmodelled: its kind; the block it lies in; its field Lines; what that reads as. -/
structure Ent where
  m : ByteArray
  ub : Nat
  v : Value
  ls : List Int

def Ent.data (e : Ent) : ByteArray × List Int := (e.m, e.ls)
def Ent.ptr (e : Ent) : Value := .pointer (some ⟨e.ub, 0, none⟩)

structure St [Inhabited Ent] (n₀ Bm Bk : Nat) (W : World) (bm cnt : Nat) (vk : Value) (D : DataW Unit) (us : List Ent) : Prop where
  boxM : Boxed W Bm 91 (.map (some bm))
  boxK : Boxed W Bk 92 vk
  map : W.ownsMap Try.prog 9 ptrR bm cnt D
  row : W.ownsRow n₀ 93 1 vk us.length (us.map Ent.ptr)
  ent : ∀ i, i < us.length → W.heap[(nth us i).ub]? = some (.cells #[.string (nth us i).m, (nth us i).v] 49 (0, 0)) ∧ W.ownsRow n₀ 3 1 (nth us i).v (nth us i).ls.length ((nth us i).ls.map (Value.int .i64)) ∧ n₀ ≤ (nth us i).ub
  ubs : ∀ i j, i < us.length → j < us.length → i ≠ j → (nth us i).ub ≠ (nth us j).ub
  lbs : ∀ i j r, i < us.length → j < us.length → i ≠ j → (nth us i).v.ownBlock = some r → (nth us j).v.ownBlock ≠ some r
  names : ∀ i j, i < us.length → j < us.length → i ≠ j → (nth us i).m ≠ (nth us j).m
  has : ∀ k : ByteArray, Maps.has D (.string k.data.toList) = true ↔ ∃ i, i < us.length ∧ (nth us i).m = k
  atK : ∀ i, i < us.length → ∀ z, D.atKey (.string (nth us i).m.data.toList) z = .lit (.int .i64 (nth us i).ub)
  bnd : n₀ ≤ Bm ∧ n₀ ≤ Bk ∧ n₀ ≤ bm

theorem heap_kept {W W' : World} {row : Option Nat} {b : Nat} {o : Obj} (hg : W.grownBy W' row) (h : W.heap[b]? = some o) (hne : row ≠ some b) : W'.heap[b]? = some o :=
  (hg.block b (lt_of_heap h) (fun e => hne e.symm)).trans h

/-- A step that turns none of our blocks. -/
theorem St.kept [Inhabited Ent] {n₀ Bm Bk : Nat} {W W' : World} {bm cnt : Nat} {vk : Value} {D : DataW Unit} {us : List Ent} {row : Option Nat} (h : St n₀ Bm Bk W bm cnt vk D us) (hg : W.grownBy W' row)
    (h1 : row ≠ some Bm) (h2 : row ≠ some Bk) (h3 : row ≠ some bm) (h4 : vk.ownBlock = none ∨ vk.ownBlock ≠ row) (h5 : ∀ i, i < us.length → row ≠ some (nth us i).ub ∧ ((nth us i).v.ownBlock = none ∨ (nth us i).v.ownBlock ≠ row)) :
    St n₀ Bm Bk W' bm cnt vk D us where
  boxM := heap_kept hg h.boxM h1
  boxK := heap_kept hg h.boxK h2
  map := h.map.kept hg (fun e => h3 e.symm)
  row := h.row.kept hg h4
  ent i hi := ⟨heap_kept hg (h.ent i hi).1 (h5 i hi).1, (h.ent i hi).2.1.kept hg (h5 i hi).2, (h.ent i hi).2.2⟩
  ubs := h.ubs
  lbs := h.lbs
  names := h.names
  has := h.has
  atK := h.atK
  bnd := h.bnd

theorem St.alloc [Inhabited Ent] {n₀ Bm Bk : Nat} {W : World} {bm cnt : Nat} {vk : Value} {D : DataW Unit} {us : List Ent} (h : St n₀ Bm Bk W bm cnt vk D us) (o : Obj) : St n₀ Bm Bk (W.alloc o) bm cnt vk D us :=
  h.kept (World.grownBy_alloc W o none) (by simp) (by simp) (by simp) (by cases vk.ownBlock <;> simp) (fun i _ => ⟨by simp, by cases (nth us i).v.ownBlock <;> simp⟩)

theorem map_heap {W : World} {k : TypeId} {R : Value → Option (DataW Unit × List MemPlace)} {b n : Nat} {D : DataW Unit} (h : W.ownsMap Try.prog k R b n D) : ∃ es c, W.heap[b]? = some (.map es c) := by
  obtain ⟨es, c, hb, _⟩ := h
  exact ⟨es, c, hb⟩

/-- 'u.Lines = append(u.Lines, line)', u the i-th. -/
theorem St.line [Inhabited Ent] {n₀ Bm Bk : Nat} {W : World} {bm cnt : Nat} {vk : Value} {D : DataW Unit} {us : List Ent} (h : St n₀ Bm Bk W bm cnt vk D us) (hn₀ : n₀ ≤ W.heap.size) (i : Nat) (hi : i < us.length) (z : Int) (tmp : Obj) (W2 : World) (v' : Value)
    (hown : W2.ownsRow n₀ 3 1 v' ((nth us i).ls.length + 1) ((nth us i).ls.map (Value.int .i64) ++ [.int .i64 z])) (hgrow : (W.alloc tmp).grownBy W2 (nth us i).v.ownBlock) (hat : v'.ownBlock = (nth us i).v.ownBlock ∨ v'.ownBlock = some (W.alloc tmp).heap.size) :
    W2.heap[(nth us i).ub]? = some (.cells #[.string (nth us i).m, (nth us i).v] 49 (0, 0)) ∧
    St n₀ Bm Bk (W2.setCell ⟨(nth us i).ub, 1, none⟩ v') bm cnt vk D (us.set i { nth us i with v := v', ls := (nth us i).ls ++ [z] }) ∧
    Below n₀ W (W2.setCell ⟨(nth us i).ub, 1, none⟩ v') ∧ KeepsOthers W (W2.setCell ⟨(nth us i).ub, 1, none⟩ v') := by
  have hA := h.alloc tmp
  -- the row that may have been written is the i-th's own
  have hrow : ∀ r, (nth us i).v.ownBlock = some r → n₀ ≤ r ∧ ∃ cur, (W.alloc tmp).heap[r]? = some (.cells cur 3 (0, 0)) := fun r hr => own_heap (hA.ent i hi).2.1 hr
  have nB : ∀ (b : Nat) (c : Array Value) (t : TypeId) (m : Nat × Nat), t ≠ 3 → (W.alloc tmp).heap[b]? = some (Obj.cells c t m) → (nth us i).v.ownBlock ≠ some b := fun b c t m ht hb e => by
    obtain ⟨_, cur, hc⟩ := hrow b e
    exact ne_of_tag hb hc ht rfl
  have n1 := nB _ _ _ _ (by decide) hA.boxM
  have n2 := nB _ _ _ _ (by decide) hA.boxK
  have n3 : (nth us i).v.ownBlock ≠ some bm := fun e => by
    obtain ⟨_, cur, hc⟩ := hrow bm e
    obtain ⟨es, c, hm⟩ := map_heap hA.map
    rw [hc] at hm; cases hm
  have n4 : vk.ownBlock = none ∨ vk.ownBlock ≠ (nth us i).v.ownBlock := by
    cases hv : vk.ownBlock with
    | none => exact .inl rfl
    | some r =>
      refine .inr fun e => ?_
      obtain ⟨_, cur, hc⟩ := own_heap hA.row hv
      exact nB r _ _ _ (by decide) hc e.symm
  have nU : ∀ j, j < us.length → (nth us i).v.ownBlock ≠ some (nth us j).ub := fun j hj => nB _ _ _ _ (by decide) (hA.ent j hj).1
  have hub : W2.heap[(nth us i).ub]? = some (.cells #[.string (nth us i).m, (nth us i).v] 49 (0, 0)) := heap_kept hgrow (hA.ent i hi).1 (nU i hi)
  have hg3 := grownBy_set W2 ⟨(nth us i).ub, 1, none⟩ v'
  -- a block that W2 holds under another tag than 49 stays behind the store
  have keep3 : ∀ (b : Nat) (c : Array Value) (t : TypeId) (m : Nat × Nat), t ≠ 49 → W2.heap[b]? = some (Obj.cells c t m) → (W2.setCell ⟨(nth us i).ub, 1, none⟩ v').heap[b]? = some (Obj.cells c t m) := fun b c t m ht hb =>
    heap_kept hg3 hb (fun e => by simp at e; exact ne_of_tag hb hub ht e.symm)
  have row3 : ∀ (e : TypeId) (v : Value) (n : Nat) (xs : List Value), e ≠ 49 → W2.ownsRow n₀ e 1 v n xs → (W2.setCell ⟨(nth us i).ub, 1, none⟩ v').ownsRow n₀ e 1 v n xs := fun e v n xs he hv => by
    refine hv.kept hg3 ?_
    cases hr : v.ownBlock with
    | none => exact .inl rfl
    | some r =>
      refine .inr fun e' => ?_
      obtain ⟨_, cur, hc⟩ := own_heap hv hr
      simp at e'
      exact ne_of_tag hc hub he e'
  refine ⟨hub, ?_, ?_, ?_⟩
  · refine ⟨?_, ?_, ?_, ?_, ?_, ?_, ?_, ?_, ?_, ?_, h.bnd⟩
    · exact keep3 _ _ _ _ (by decide) (heap_kept hgrow hA.boxM n1)
    · exact keep3 _ _ _ _ (by decide) (heap_kept hgrow hA.boxK n2)
    · refine (hA.map.kept hgrow (fun e => n3 e.symm)).kept hg3 (fun e => ?_)
      obtain ⟨es, c, hm⟩ := map_heap (hA.map.kept hgrow (fun e => n3 e.symm))
      simp at e
      rw [e, hub] at hm; cases hm
    · have : (us.set i { nth us i with v := v', ls := (nth us i).ls ++ [z] }).map Ent.ptr = us.map Ent.ptr := by
        apply List.ext_getElem
        · simp
        · intro j h1 h2
          simp only [List.getElem_map, List.getElem_set]
          split
          · rename_i e; subst e; rw [nth_eq us i hi]; rfl
          · rfl
      rw [this, List.length_set]
      exact row3 _ _ _ _ (by decide) (hA.row.kept hgrow n4)
    · intro j hj
      rw [List.length_set] at hj
      by_cases e : i = j
      · subst e
        rw [nth_set_same us i _ hi]
        refine ⟨setCell_two hub, ?_, (h.ent i hi).2.2⟩
        have := row3 _ _ _ _ (by decide) hown
        simpa using this
      · rw [nth_set_other us i j _ e]
        have hne : (nth us j).v.ownBlock = none ∨ (nth us j).v.ownBlock ≠ (nth us i).v.ownBlock := by
          cases hv : (nth us j).v.ownBlock with
          | none => exact .inl rfl
          | some r => exact .inr fun e' => h.lbs i j r hi hj e e'.symm hv
        refine ⟨?_, row3 _ _ _ _ (by decide) ((hA.ent j hj).2.1.kept hgrow hne), (h.ent j hj).2.2⟩
        exact heap_kept hg3 (heap_kept hgrow (hA.ent j hj).1 (nU j hj)) (fun e' => by simp at e'; exact h.ubs i j hi hj e e')
    · intro a b ha hb hab
      rw [List.length_set] at ha hb
      have : ∀ j, j < us.length → (nth (us.set i { nth us i with v := v', ls := (nth us i).ls ++ [z] }) j).ub = (nth us j).ub := fun j hj => by
        by_cases e : i = j
        · subst e; rw [nth_set_same us i _ hi]
        · rw [nth_set_other us i j _ e]
      rw [this a ha, this b hb]; exact h.ubs a b ha hb hab
    · intro a b r ha hb hab h1
      rw [List.length_set] at ha hb
      -- the new row is the old one or new
      have fresh : ∀ j, j < us.length → i ≠ j → ∀ r, v'.ownBlock = some r → (nth us j).v.ownBlock ≠ some r := fun j hj e r hr hj' => by
        rcases hat with e1 | e1
        · exact h.lbs i j r hi hj e (e1.symm.trans hr) hj'
        · rw [hr] at e1; simp at e1
          obtain ⟨_, cur, hc⟩ := own_heap (h.ent j hj).2.1 hj'
          have := lt_of_heap hc
          omega
      by_cases ea : i = a
      · subst ea
        rw [nth_set_same us i _ hi] at h1
        rw [nth_set_other us i b _ hab]
        exact fresh b hb hab r h1
      · rw [nth_set_other us i a _ ea] at h1
        by_cases eb : i = b
        · subst eb
          rw [nth_set_same us i _ hi]
          exact fun h2 => fresh a ha ea r h2 h1
        · rw [nth_set_other us i b _ eb]; exact h.lbs a b r ha hb hab h1
    · intro a b ha hb hab
      rw [List.length_set] at ha hb
      have : ∀ j, j < us.length → (nth (us.set i { nth us i with v := v', ls := (nth us i).ls ++ [z] }) j).m = (nth us j).m := fun j hj => by
        by_cases e : i = j
        · subst e; rw [nth_set_same us i _ hi]
        · rw [nth_set_other us i j _ e]
      rw [this a ha, this b hb]; exact h.names a b ha hb hab
    · intro k
      rw [h.has k, List.length_set]
      have : ∀ j, j < us.length → (nth (us.set i { nth us i with v := v', ls := (nth us i).ls ++ [z] }) j).m = (nth us j).m := fun j hj => by
        by_cases e : i = j
        · subst e; rw [nth_set_same us i _ hi]
        · rw [nth_set_other us i j _ e]
      exact ⟨fun ⟨j, hj, hm⟩ => ⟨j, hj, by rw [this j hj]; exact hm⟩, fun ⟨j, hj, hm⟩ => ⟨j, hj, by rw [this j hj] at hm; exact hm⟩⟩
    · intro j hj zd
      rw [List.length_set] at hj
      by_cases e : i = j
      · subst e; rw [nth_set_same us i _ hi]; exact h.atK i hi zd
      · rw [nth_set_other us i j _ e]; exact h.atK j hj zd
  · have hb1 : Below n₀ W W2 := ((Below.refl n₀ W).alloc hn₀ tmp).grown hgrow (by simp; omega) (fun k e => (hrow k e).1)
    exact hb1.setCell (p := ⟨(nth us i).ub, 1, none⟩) (h.ent i hi).2.2 v'
  · refine ((KeepsOthers.alloc W tmp).trans (KeepsOthers.of_grownBy hgrow fun j o ej hj => ?_)).trans (KeepsOthers.setCell _ _ _)
    obtain ⟨_, cur, hc⟩ := hrow j ej
    rw [hc] at hj; cases hj; rfl

end Go.Proofs.Qxb6613730a
