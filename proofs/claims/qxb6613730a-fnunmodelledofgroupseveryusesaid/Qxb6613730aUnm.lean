import Derived.Test.Qxb6613730aSt2
set_option linter.unusedVariables false
namespace Go.Proofs.Qxb6613730a
open Go.RowKit Go.Shelf

attribute [local go_sem] Oper.semAt_some

theorem info93 : (Try.prog.info? 93).map (fun i => (i.zero, i.size, i.bytes)) = some (some (.pointer none), 1, 8) := by kernel_rfl
theorem info3 : (Try.prog.info? 3).map (fun i => (i.zero, i.size, i.bytes)) = some (some (.int .i64 0), 1, 8) := by kernel_rfl

section
variable {F : Fence} {nF : Nat} (w : World) {ops : Array Oper} {rest : List Oper} {o : Oper} {a : Act} {Q : Exit → Act → World → Prop}

/-- 'u, ok := byKind[k]', k being there. -/
theorem lookup_hit (hg : o.guard = none) (m x : Operand) (hop : o.op = Op.lookup 91 m x true) (b n : Nat) (D : DataW Unit)
    (hm : a.eval m = .map (some b)) (hown : w.ownsMap Try.prog 9 ptrR b n D) (k : ByteArray) (hx : a.eval x = .string k) (hk : k.size ≤ maxLen) (ub : Nat)
    (hhas : Maps.has D (.string k.data.toList) = true) (hat : ∀ z, D.atKey (.string k.data.toList) z = .lit (.int .i64 ub))
    (hK : wpListIn F nF Try.prog ops Q rest (a.put o.dst (.tuple #[.pointer (some ⟨ub, 0, none⟩), .bool true])) w) :
    wpListIn F nF Try.prog ops Q (o :: rest) a w :=
  wpListIn_lookup_own_ok w hg m x 91 hop 9 93 (Maps.string_keyed Try.underlying9) Try.underlying91 ptrR (Try.zeroValue93 w) .nil [] rfl b n D hm hown _ _ hx (WideMaps.keyOf_string_mk Try.underlying9 hk) (fun v ps hv => by
    rw [hat] at hv
    obtain rfl := ptrR_inv hv
    rw [hhas]; exact hK)

/-- .. k not being there. -/
theorem lookup_miss (hg : o.guard = none) (m x : Operand) (hop : o.op = Op.lookup 91 m x true) (b n : Nat) (D : DataW Unit)
    (hm : a.eval m = .map (some b)) (hown : w.ownsMap Try.prog 9 ptrR b n D) (k : ByteArray) (hx : a.eval x = .string k) (hk : k.size ≤ maxLen)
    (hhas : Maps.has D (.string k.data.toList) = false)
    (hK : ∀ v, wpListIn F nF Try.prog ops Q rest (a.put o.dst (.tuple #[v, .bool false])) w) :
    wpListIn F nF Try.prog ops Q (o :: rest) a w :=
  wpListIn_lookup_own_ok w hg m x 91 hop 9 93 (Maps.string_keyed Try.underlying9) Try.underlying91 ptrR (Try.zeroValue93 w) .nil [] rfl b n D hm hown _ _ hx (WideMaps.keyOf_string_mk Try.underlying9 hk) (fun v ps hv => by
    rw [hhas]; exact hK v)

/-- 'append(lines, line)'. -/
theorem append43_in (hgd : o.guard = none) (s x : Operand) (ho : o.op = .call { callee := .builtin .append, args := #[s, x], argTypes := #[43, 43] }) (base : Nat)
    (v : Value) (n : Nat) (xs : List Value) (hs : a.eval s = v) (hown : w.ownsRow base 3 1 v n xs) (ad : Nat) (z : Int) (hx : a.eval x = .slice (some ⟨ad, 0, none⟩) 1 1) (hz : w.cell? ⟨ad, 0, none⟩ = some (.int .i64 z)) (hn : n ≤ 33554432) (hbase : base ≤ w.heap.size)
    (h : ∀ g' cap' w', w'.ownsRow base 3 1 (.slice (some ⟨g', 0, none⟩) (n + 1) cap') (n + 1) (xs ++ [.int .i64 z]) → w.grownBy w' v.ownBlock → ((Value.slice (some ⟨g', 0, none⟩) (n + 1) cap').ownBlock = v.ownBlock ∨ (Value.slice (some ⟨g', 0, none⟩) (n + 1) cap').ownBlock = some w.heap.size) → wpListIn F nF Try.prog ops Q rest (a.put o.dst (.slice (some ⟨g', 0, none⟩) (n + 1) cap')) w') :
    wpListIn F nF Try.prog ops Q (o :: rest) a w := by
  obtain ⟨i3, hi3, hz3, hs3, hb3⟩ := info_parts info3
  refine wpListIn_append_own_at w hgd s x 43 ho base 3 i3 (.int .i64 0) 1 8 Try.underlying43 hi3 hz3 hs3 hb3 rfl (by decide) v n xs hs hown ⟨ad, 0, none⟩ 1 1 [.int .i64 z] hx rfl ?_ (by simp [Value.oneCell']) (by unfold maxLen; omega) (by omega) hbase ?_
  · intro j u hu
    match j, hu with
    | 0, hu => simp at hu; subst hu; exact hz
    | j + 1, hu => simp at hu
  · intro v' w' h1 h2 _ h4
    obtain ⟨g', cap', rfl⟩ := ownsRow_succ h1
    exact h g' cap' w' h1 h2 h4

/-- 'append(kinds, u)'. -/
theorem append92_in (hgd : o.guard = none) (s x : Operand) (ho : o.op = .call { callee := .builtin .append, args := #[s, x], argTypes := #[92, 92] }) (base : Nat)
    (v : Value) (n : Nat) (xs : List Value) (hs : a.eval s = v) (hown : w.ownsRow base 93 1 v n xs) (ad : Nat) (p : Value) (hp : p.oneCell' = true) (hx : a.eval x = .slice (some ⟨ad, 0, none⟩) 1 1) (hz : w.cell? ⟨ad, 0, none⟩ = some p) (hn : n ≤ 33554432) (hbase : base ≤ w.heap.size)
    (h : ∀ g' cap' w', w'.ownsRow base 93 1 (.slice (some ⟨g', 0, none⟩) (n + 1) cap') (n + 1) (xs ++ [p]) → w.grownBy w' v.ownBlock → ((Value.slice (some ⟨g', 0, none⟩) (n + 1) cap').ownBlock = v.ownBlock ∨ (Value.slice (some ⟨g', 0, none⟩) (n + 1) cap').ownBlock = some w.heap.size) → wpListIn F nF Try.prog ops Q rest (a.put o.dst (.slice (some ⟨g', 0, none⟩) (n + 1) cap')) w') :
    wpListIn F nF Try.prog ops Q (o :: rest) a w := by
  obtain ⟨i3, hi3, hz3, hs3, hb3⟩ := info_parts info93
  refine wpListIn_append_own_at w hgd s x 92 ho base 93 i3 (.pointer none) 1 8 Try.underlying92 hi3 hz3 hs3 hb3 rfl (by decide) v n xs hs hown ⟨ad, 0, none⟩ 1 1 [p] hx rfl ?_ (by simpa using hp) (by unfold maxLen; omega) (by omega) hbase ?_
  · intro j u hu
    match j, hu with
    | 0, hu => simp at hu; subst hu; exact hz
    | j + 1, hu => simp at hu
  · intro v' w' h1 h2 _ h4
    obtain ⟨g', cap', rfl⟩ := ownsRow_succ h1
    exact h g' cap' w' h1 h2 h4

/-- 'byKind[k] = u'. -/
theorem store91_in (hg : o.guard = none) (m x v : Operand) (hop : o.op = Op.mapUpdate 91 m x v) (b n : Nat) (D : DataW Unit) (hm : a.eval m = .map (some b)) (hown : w.ownsMap Try.prog 9 ptrR b n D) (hn : n ≤ 33554432) (k : ByteArray) (hx : a.eval x = .string k) (hk : k.size ≤ maxLen) (ub : Nat) (hv : a.eval v = .pointer (some ⟨ub, 0, none⟩))
    (hK : ∀ w', w'.ownsMap Try.prog 9 ptrR b (n + 1) (D.put (.string k.data.toList) (.lit (.int .i64 ub))) → w.grownBy w' (some b) → wpListIn F nF Try.prog ops Q rest (a.put o.dst undef) w') :
    wpListIn F nF Try.prog ops Q (o :: rest) a w :=
  wpListIn_mapUpdate_own w hg m x v 91 hop 9 93 (Maps.string_keyed Try.underlying9) Try.underlying91 ptrR b n D hm hown (by unfold maxLen; omega) _ _ _ hx hv (WideMaps.keyOf_string_mk Try.underlying9 hk) _ [] (ptrR_mk ub) hK
end

/-- What the rounds so far have gathered, as data. -/
def gpre [Inhabited Use] (xs : List Use) (pre : List Nat) : List (ByteArray × List Int) := groups (pre.map fun i => ((nth xs (cl xs.length i)).line, (nth xs (cl xs.length i)).ss))

theorem linesN_gpre [Inhabited Use] (xs : List Use) (pre : List Nat) (M : Nat) (h : ∀ i, i < xs.length → (nth xs i).ss.length ≤ M) (h0 : 0 < xs.length) : linesN (gpre xs pre) ≤ pre.length * M := by
  unfold gpre
  rw [linesN_groups]
  induction pre with
  | nil => simp
  | cons p r ih =>
    have := h _ (cl_bnd xs.length p h0)
    simp only [List.map_cons, List.sum_cons, List.length_cons, Nat.add_mul, Nat.one_mul]
    omega

theorem St.own [Inhabited Ent] {n₀ Bm Bk bm B : Nat} (hbm : bm < B) : OwnFrom B (fun (s : List (ByteArray × List Int)) W => ∃ vk D us, St n₀ Bm Bk W bm us.length vk D us ∧ us.map Ent.data = s) := by
  rintro s W W' row ⟨vk, D, us, h, hd⟩ hg hr
  refine ⟨vk, D, us, ?_, hd⟩
  have nC : ∀ (b : Nat) (c : Array Value) (t : TypeId) (m : Nat × Nat), W.heap[b]? = some (Obj.cells c t m) → row ≠ some b := fun b c t m hb e => by
    obtain ⟨_, o, ho, hc⟩ := hr b e
    rw [hb] at ho; cases ho; cases hc
  have nR : ∀ (e : TypeId) (v : Value) (n : Nat) (xs : List Value), W.ownsRow n₀ e 1 v n xs → v.ownBlock = none ∨ v.ownBlock ≠ row := fun e v n xs hv => by
    cases hb : v.ownBlock with
    | none => exact .inl rfl
    | some r =>
      obtain ⟨_, cur, hc⟩ := own_heap hv hb
      exact .inr fun e' => nC _ _ _ _ hc e'.symm
  exact h.kept hg (nC _ _ _ _ h.boxM) (nC _ _ _ _ h.boxK) (fun e => by have := (hr bm e).1; omega) (nR _ _ _ _ h.row) (fun i hi => ⟨nC _ _ _ _ (h.ent i hi).1, nR _ _ _ _ (h.ent i hi).2.1⟩)

end Go.Proofs.Qxb6613730a
