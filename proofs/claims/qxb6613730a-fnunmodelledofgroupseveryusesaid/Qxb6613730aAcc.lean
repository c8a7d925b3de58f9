import Derived.Test.Qxb6613730aZz
import Derived.Test.Qxb6613730aLaw
import Derived.Test.Qxb6613730aBytes
set_option linter.unusedVariables false
namespace Go.Proofs.Qxb6613730a
open Go.RowKit Go.Shelf

theorem info22 : (Try.prog.info? 22).map (fun i => (i.zero, i.size, i.bytes)) = some (some (.slice none 0 0), 1, 24) := by kernel_rfl

section
variable (w : World) {ops : Array Oper} {rest : List Oper} {o : Oper} {a : Act} {Q : Exit → Act → World → Prop}
theorem append43_p (hgd : o.guard = none) (s x : Operand) (ho : o.op = .call { callee := .builtin .append, args := #[s, x], argTypes := #[43, 43] }) (base : Nat)
    (v : Value) (n : Nat) (xs : List Value) (hs : a.eval s = v) (hown : w.ownsRow base 3 1 v n xs) (ad : Nat) (z : Int) (hx : a.eval x = .slice (some ⟨ad, 0, none⟩) 1 1) (hz : w.cell? ⟨ad, 0, none⟩ = some (.int .i64 z)) (hn : n ≤ 33554432) (hbase : base ≤ w.heap.size)
    (h : ∀ g' cap' w', w'.ownsRow base 3 1 (.slice (some ⟨g', 0, none⟩) (n + 1) cap') (n + 1) (xs ++ [.int .i64 z]) → w.grownBy w' v.ownBlock → wpList Try.prog ops Q rest (a.put o.dst (.slice (some ⟨g', 0, none⟩) (n + 1) cap')) w') :
    wpList Try.prog ops Q (o :: rest) a w := by
  obtain ⟨i3, hi3, hz3, hs3, hb3⟩ := info_parts info3
  refine wpList_append_own_at w hgd s x 43 ho base 3 i3 (.int .i64 0) 1 8 Try.underlying43 hi3 hz3 hs3 hb3 rfl (by decide) v n xs hs hown ⟨ad, 0, none⟩ 1 1 [.int .i64 z] hx rfl ?_ (by simp [Value.oneCell']) (by unfold maxLen; omega) (by omega) hbase ?_
  · intro j u hu
    match j, hu with
    | 0, hu => simp at hu; subst hu; exact hz
    | j + 1, hu => simp at hu
  · intro v' w' h1 h2 _ h4
    obtain ⟨g', cap', rfl⟩ := ownsRow_succ h1
    exact h g' cap' w' h1 h2
theorem append35_p (hgd : o.guard = none) (s x : Operand) (ho : o.op = .call { callee := .builtin .append, args := #[s, x], argTypes := #[35, 35] }) (base : Nat)
    (v : Value) (n : Nat) (xs : List Value) (hs : a.eval s = v) (hown : w.ownsRow base 22 1 v n xs) (ad : Nat) (p : Value) (hp : p.oneCell' = true) (hx : a.eval x = .slice (some ⟨ad, 0, none⟩) 1 1) (hz : w.cell? ⟨ad, 0, none⟩ = some p) (hn : n ≤ 33554432) (hbase : base ≤ w.heap.size)
    (h : ∀ g' cap' w', w'.ownsRow base 22 1 (.slice (some ⟨g', 0, none⟩) (n + 1) cap') (n + 1) (xs ++ [p]) → w.grownBy w' v.ownBlock → wpList Try.prog ops Q rest (a.put o.dst (.slice (some ⟨g', 0, none⟩) (n + 1) cap')) w') :
    wpList Try.prog ops Q (o :: rest) a w := by
  obtain ⟨i3, hi3, hz3, hs3, hb3⟩ := info_parts info22
  refine wpList_append_own_at w hgd s x 35 ho base 22 i3 (.slice none 0 0) 1 24 Try.underlying35 hi3 hz3 hs3 hb3 rfl (by decide) v n xs hs hown ⟨ad, 0, none⟩ 1 1 [p] hx rfl ?_ (by simpa using hp) (by unfold maxLen; omega) (by omega) hbase ?_
  · intro j u hu
    match j, hu with
    | 0, hu => simp at hu; subst hu; exact hz
    | j + 1, hu => simp at hu
  · intro v' w' h1 h2 _ h4
    obtain ⟨g', cap', rfl⟩ := ownsRow_succ h1
    exact h g' cap' w' h1 h2
end

/-- The lines that the law has gathered, in blocks at and above B. -/
def AccL (B : Nat) (W : World) (v : Value) (zs : List Int) : Prop := W.ownsRow B 3 1 v zs.length (zs.map (Value.int .i64))
/-- .. the kinds: one slice of one string each. -/
def AccK (B : Nat) (W : World) (v : Value) (ks : List ByteArray) : Prop :=
  ∃ els : List (Nat × ByteArray), els.map Prod.snd = ks ∧ W.ownsRow B 22 1 v ks.length (els.map fun e => Value.slice (some ⟨e.1, 0, none⟩) 1 1) ∧ ∀ e ∈ els, W.heap[e.1]? = some (.cells #[.string e.2] 9 (0, 0))

theorem AccL.alloc {B : Nat} {W : World} {v : Value} {zs : List Int} (h : AccL B W v zs) (o : Obj) : AccL B (W.alloc o) v zs := World.ownsRow.alloc h o
theorem AccK.alloc {B : Nat} {W : World} {v : Value} {ks : List ByteArray} (h : AccK B W v ks) (o : Obj) : AccK B (W.alloc o) v ks := by
  obtain ⟨els, h1, h2, h3⟩ := h
  exact ⟨els, h1, h2.alloc o, fun e he => heap_kept (World.grownBy_alloc W o none) (h3 e he) (by simp)⟩
/-- Behind an append to the lines. -/
theorem AccK.kept {B : Nat} {W W' : World} {v v8 : Value} {ks : List ByteArray} {n : Nat} {xs : List Value} (h : AccK B W v ks) (h8 : W.ownsRow B 3 1 v8 n xs) (hg : W.grownBy W' v8.ownBlock) : AccK B W' v ks := by
  obtain ⟨els, h1, h2, h3⟩ := h
  refine ⟨els, h1, h2.kept hg ?_, fun e he => heap_kept hg (h3 e he) ?_⟩
  · cases hr : v.ownBlock with
    | none => exact .inl rfl
    | some r =>
      refine .inr fun e' => ?_
      obtain ⟨_, c, hc⟩ := own_heap h2 hr
      obtain ⟨_, c', hc'⟩ := own_heap h8 e'.symm
      exact ne_of_tag hc hc' (by decide) rfl
  · intro e'
    obtain ⟨_, c', hc'⟩ := own_heap h8 e'
    exact ne_of_tag (h3 e he) hc' (by decide) rfl
/-- Behind an append to the kinds. -/
theorem AccL.kept {B : Nat} {W W' : World} {v v9 : Value} {zs : List Int} {n : Nat} {xs : List Value} (h : AccL B W v zs) (h9 : W.ownsRow B 22 1 v9 n xs) (hg : W.grownBy W' v9.ownBlock) : AccL B W' v zs := by
  refine World.ownsRow.kept h hg ?_
  cases hr : v.ownBlock with
  | none => exact .inl rfl
  | some r =>
    refine .inr fun e' => ?_
    obtain ⟨_, c, hc⟩ := own_heap h hr
    obtain ⟨_, c', hc'⟩ := own_heap h9 e'.symm
    exact ne_of_tag hc hc' (by decide) rfl
theorem AccL.snoc {B : Nat} {W' : World} {v' : Value} {zs : List Int} {z : Int} (h : W'.ownsRow B 3 1 v' (zs.length + 1) (zs.map (Value.int .i64) ++ [.int .i64 z])) : AccL B W' v' (zs ++ [z]) := by
  unfold AccL; rw [List.length_append, List.map_append]; exact h
/-- One kind more: its string's block, the literal's, the append. -/
theorem AccK.step {B : Nat} {W : World} {v : Value} {ks : List ByteArray} (h : AccK B W v ks) (m : ByteArray) : ∃ xs : List Value,
    ((W.alloc (.cells #[.string m] 9)).alloc (.cells #[.slice (some ⟨W.heap.size, 0, none⟩) 1 1] 22)).ownsRow B 22 1 v ks.length xs ∧
    ∀ v' W', W'.ownsRow B 22 1 v' (ks.length + 1) (xs ++ [.slice (some ⟨W.heap.size, 0, none⟩) 1 1]) → ((W.alloc (.cells #[.string m] 9)).alloc (.cells #[.slice (some ⟨W.heap.size, 0, none⟩) 1 1] 22)).grownBy W' v.ownBlock → AccK B W' v' (ks ++ [m]) := by
  obtain ⟨els, h1, h2, h3⟩ := h
  refine ⟨_, (h2.alloc _).alloc _, fun v' W' hv hg => ⟨els ++ [(W.heap.size, m)], by simp [h1], by rw [List.length_append, List.map_append]; exact hv, fun e he => ?_⟩⟩
  have h2' := (h2.alloc (.cells #[.string m] 9)).alloc (.cells #[.slice (some ⟨W.heap.size, 0, none⟩) 1 1] 22)
  have hh : ((W.alloc (.cells #[.string m] 9)).alloc (.cells #[.slice (some ⟨W.heap.size, 0, none⟩) 1 1] 22)).heap[e.1]? = some (.cells #[.string e.2] 9 (0, 0)) := by
    rcases List.mem_append.1 he with he | he
    · exact heap_kept (World.grownBy_alloc _ _ none) (heap_kept (World.grownBy_alloc W _ none) (h3 e he) (by simp)) (by simp)
    · simp at he; subst he
      refine heap_kept (World.grownBy_alloc _ _ none) ?_ (by simp)
      show (W.heap.push _)[W.heap.size]? = _
      simp
  refine heap_kept hg hh fun e' => ?_
  obtain ⟨_, c', hc'⟩ := own_heap h2' e'
  exact ne_of_tag hh hc' (by decide) rfl

theorem own_ge {W : World} {B : Nat} {e : TypeId} {v : Value} {n : Nat} {xs : List Value} (h : W.ownsRow B e 1 v n xs) : ∀ k, v.ownBlock = some k → B ≤ k := fun k hk => (own_heap h hk).1
theorem acc_line {B : Nat} {W1 wr w2 : World} {s8 s9 v' : Value} {zs : List Int} {ks : List ByteArray} {z : Int} {tmp : Obj} (hB : Below B W1 wr) (hBs : B ≤ wr.heap.size) (hL : AccL B wr s8 zs) (hK : AccK B wr s9 ks)
    (hown : w2.ownsRow B 3 1 v' (zs.length + 1) (zs.map (Value.int .i64) ++ [.int .i64 z])) (hg : (wr.alloc tmp).grownBy w2 s8.ownBlock) : Below B W1 w2 ∧ AccL B w2 v' (zs ++ [z]) ∧ AccK B w2 s9 ks :=
  ⟨(hB.alloc hBs tmp).grown hg (by simp; omega) (own_ge (hL.alloc tmp)), AccL.snoc hown, (hK.alloc tmp).kept (hL.alloc tmp) hg⟩
theorem acc_kind {B : Nat} {W1 w2 : World} {v8 s9 : Value} {zs : List Int} {ks : List ByteArray} (hB : Below B W1 w2) (hBs : B ≤ w2.heap.size) (hL : AccL B w2 v8 zs) (hK : AccK B w2 s9 ks) (m : ByteArray) : ∃ xs : List Value,
    ((w2.alloc (.cells #[.string m] 9)).alloc (.cells #[.slice (some ⟨w2.heap.size, 0, none⟩) 1 1] 22)).ownsRow B 22 1 s9 ks.length xs ∧
    ∀ v' W', W'.ownsRow B 22 1 v' (ks.length + 1) (xs ++ [.slice (some ⟨w2.heap.size, 0, none⟩) 1 1]) → ((w2.alloc (.cells #[.string m] 9)).alloc (.cells #[.slice (some ⟨w2.heap.size, 0, none⟩) 1 1] 22)).grownBy W' s9.ownBlock →
      Below B W1 W' ∧ AccL B W' v8 zs ∧ AccK B W' v' (ks ++ [m]) := by
  obtain ⟨xs, h1, h2⟩ := hK.step m
  exact ⟨xs, h1, fun v' W' hv hg => ⟨((hB.alloc hBs _).alloc (by simp; omega) _).grown hg (by simp; omega) (own_ge h1), ((hL.alloc _).alloc _).kept h1 hg, h2 v' W' hv hg⟩⟩

theorem AccL.ints {B : Nat} {W : World} {v : Value} {zs : List Int} (h : AccL B W v zs) : ∃ p c, v = .slice p zs.length c ∧ IntsIn W W.heap.size p zs := by
  obtain ⟨_, hr⟩ := h
  rcases hr with ⟨rfl, h0⟩ | ⟨g, cap, cur, rfl, hb, hg, h1, h2, h3, h4⟩
  · refine ⟨none, 0, by rw [h0], fun j hj => by omega⟩
  · refine ⟨_, _, rfl, fun j hj => ⟨g, 0, rfl, lt_of_heap hg, ?_⟩⟩
    rw [Nat.zero_add]
    rw [Nat.mul_one] at h4
    exact cells_of_take hg h4 j hj
theorem AccK.strss {B : Nat} {W : World} {v : Value} {ks : List ByteArray} (h : AccK B W v ks) (hs : ∀ m ∈ ks, m.size ≤ maxLen) : ∃ p c, v = .slice p (ks.map fun m => [m]).length c ∧ StrssIn W W.heap.size p (ks.map fun m => [m]) := by
  obtain ⟨els, he, hown, hel⟩ := h
  have hlen : els.length = ks.length := by rw [← he]; simp
  rw [List.length_map]
  rcases hown.2 with ⟨rfl, h0⟩ | ⟨g, cap, cur, rfl, hb, hg, h1, h2, h3, h4⟩
  · refine ⟨none, 0, by rw [h0], fun j hj => by simp at hj; omega⟩
  · refine ⟨_, _, rfl, fun j hj => ?_⟩
    rw [List.length_map] at hj
    have hn : nth (ks.map fun m => [m]) j = [nth ks j] := by rw [nth_eq _ _ (by simpa using hj), List.getElem_map, nth_eq ks j hj]
    have hje : j < els.length := by omega
    have hm : els[j] ∈ els := List.getElem_mem hje
    have hs2 : els[j].2 = nth ks j := by
      rw [nth_eq ks j hj]
      simp only [← he, List.getElem_map]
    have hblk := hel _ hm
    refine ⟨g, 0, some ⟨els[j].1, 0, none⟩, 1, rfl, lt_of_heap hg, ?_, by rw [hn]; simp [maxLen], ?_⟩
    · rw [Nat.zero_add, hn, hown.cellAt j (by omega), List.getElem?_map, List.getElem?_eq_getElem hje]
      rfl
    · rw [hn]
      intro t ht
      have ht0 : t = 0 := by simp at ht; omega
      subst ht0
      refine ⟨els[j].1, 0, rfl, lt_of_heap hblk, ?_, ?_⟩
      · have : nth [nth ks j] 0 = nth ks j := rfl
        rw [this, ← hs2]
        simp [World.cell?, hblk]
      · exact hs _ (nth_mem ks j hj)

/-- The kinds of the answer are kinds that came in. -/
theorem ans_sizes {w : World} {B : Nat} {pk : Option Addr} {zs : List Int} {kk : List (List ByteArray)} {rs : List (ByteArray × List Int)} (hl : zs.length = kk.length) (hk : StrssIn w B pk kk) (h : Ans (groups (zs.zip kk)) rs) : ∀ m ∈ (flatR rs).map Prod.fst, m.size ≤ maxLen := by
  intro m hm
  have h1 : m ∈ names rs := by
    obtain ⟨p, hp, rfl⟩ := List.mem_map.1 hm
    obtain ⟨r, hr, hp⟩ := List.mem_flatMap.1 hp
    obtain ⟨z, _, rfl⟩ := List.mem_map.1 hp
    exact List.mem_map_of_mem hr
  have h2 := (ans_names h).mem_iff.1 h1
  rw [groups_flat, names_mem, flatU_fst zs kk hl] at h2
  obtain ⟨ss, hss, hms⟩ := List.mem_flatten.1 h2
  obtain ⟨k, hk', rfl⟩ := nth_of_mem kk ss hss
  obtain ⟨j, hj', rfl⟩ := nth_of_mem _ m hms
  obtain ⟨_, _, _, _, _, _, _, _, hS⟩ := hk k hk'
  obtain ⟨_, _, _, _, _, h⟩ := hS j hj'
  exact h
end Go.Proofs.Qxb6613730a
