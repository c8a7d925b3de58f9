import Derived.Test.Qxb6613745aBase
import Derived.Maps.AppendAt
import Derived.Laws.AppendOwnNone
import Derived.Laws.OwnMore
set_option linter.unusedVariables false
namespace Go.Proofs.Qxb6613745a
open Go.RowKit

theorem info_parts {t : TypeId} {z : Value} {s b : Nat} (h : (Try.prog.info? t).map (fun i => (i.zero, i.size, i.bytes)) = some (some z, s, b)) : ∃ i, Try.prog.info? t = some i ∧ i.zero = some z ∧ i.size = s ∧ i.bytes = b := by
  cases hi : Try.prog.info? t with
  | none => rw [hi] at h; cases h
  | some i => rw [hi] at h; simp at h; exact ⟨i, rfl, h.1, h.2.1, h.2.2⟩
theorem info43 : (Try.prog.info? 43).map (fun i => (i.zero, i.size, i.bytes)) = some (some (.agg #[.string ⟨#[]⟩, .int .u64 0]), 2, 24) := by kernel_rfl

theorem lt_of_heap {W : World} {a : Nat} {o : Obj} (h : W.heap[a]? = some o) : a < W.heap.size := (Array.getElem?_eq_some_iff.1 h).1

/-- The cells of the answers. -/
def cellsA (an : List (ByteArray × Int)) : List Value := an.flatMap fun a => [.string a.1, .int .u64 a.2]
theorem cellsA_len (an : List (ByteArray × Int)) : (cellsA an).length = an.length * 2 := by
  induction an with
  | nil => rfl
  | cons a an ih => unfold cellsA at ih ⊢; rw [List.flatMap_cons, List.length_append, ih, List.length_cons]; simp; omega
theorem cellsA_get : ∀ (an : List (ByteArray × Int)) (j : Nat), j < an.length → (cellsA an)[j * 2]? = some (.string (nth an j).1) ∧ (cellsA an)[j * 2 + 1]? = some (.int .u64 (nth an j).2)
  | [], j, h => by simp at h
  | a :: an, 0, _ => by simp [cellsA, nth]
  | a :: an, j + 1, h => by
    have ih := cellsA_get an j (by simpa using h)
    have e : nth (a :: an) (j + 1) = nth an j := by simp [nth]
    rw [e]
    unfold cellsA at ih ⊢
    rw [List.flatMap_cons, show (j + 1) * 2 = 2 + j * 2 by omega, show 2 + j * 2 + 1 = 2 + (j * 2 + 1) by omega]
    rw [List.getElem?_append_right (by simp), List.getElem?_append_right (by simp)]
    simpa using ih
theorem cellsA_append (x y : List (ByteArray × Int)) : cellsA (x ++ y) = cellsA x ++ cellsA y := by simp [cellsA]
theorem cellsA_one (an : List (ByteArray × Int)) : ∀ v ∈ cellsA an, v.oneCell' = true := by
  intro v hv
  obtain ⟨a, _, h⟩ := List.mem_flatMap.1 hv
  simp at h
  rcases h with rfl | rfl <;> rfl

/-- Each answer's name has a length, its term fits. -/
def AnsOk (an : List (ByteArray × Int)) : Prop := ∀ a ∈ an, a.1.size ≤ maxLen ∧ 0 ≤ a.2 ∧ a.2 ≤ 18446744073709551615
theorem AnsOk.append {x y : List (ByteArray × Int)} (hx : AnsOk x) (hy : AnsOk y) : AnsOk (x ++ y) := fun a ha => (List.mem_append.1 ha).elim (hx a) (hy a)
theorem nth_of_mem {α : Type} [Inhabited α] (l : List α) (x : α) (h : x ∈ l) : ∃ i, i < l.length ∧ nth l i = x := by
  obtain ⟨i, hi, rfl⟩ := List.mem_iff_getElem.1 h
  exact ⟨i, hi, nth_eq l i hi⟩
theorem AnsIn.ok {w : World} {B : Nat} {p : Option Addr} {an : List (ByteArray × Int)} (h : AnsIn w B p an) : AnsOk an := fun a ha => by
  obtain ⟨i, hi, rfl⟩ := nth_of_mem an a ha
  obtain ⟨_, _, _, _, _, _, h1, h2, h3⟩ := h i hi
  exact ⟨h1, h2, h3⟩
theorem AnsIn.src {w : World} {B : Nat} {ad : Addr} {an : List (ByteArray × Int)} (h : AnsIn w B (some ad) an) (W : World) (hB : Below B w W) (j : Nat) (u : Value) (hu : (cellsA an)[j]? = some u) : W.cell? (ad.add j) = some u := by
  have hj : j < an.length * 2 := by rw [← cellsA_len]; exact (List.getElem?_eq_some_iff.1 hu).1
  obtain ⟨b, off, e, hb, h1, h2, _, _, _⟩ := h (j / 2) (by omega)
  cases e
  rw [Addr.add_lit, hB.cell (p := ⟨b, off + j, none⟩) hb]
  have hg := cellsA_get an (j / 2) (by omega)
  rcases Nat.mod_two_eq_zero_or_one j with hm | hm
  · have ej : j = j / 2 * 2 := by omega
    rw [ej, hg.1] at hu
    rw [ej, h1]; exact hu
  · have ej : j = j / 2 * 2 + 1 := by omega
    rw [ej, hg.2] at hu
    rw [ej, ← Nat.add_assoc, h2]; exact hu
theorem ansIn_own {W : World} {base g cap : Nat} {an : List (ByteArray × Int)} (h : W.ownsRow base 43 2 (.slice (some ⟨g, 0, none⟩) an.length cap) an.length (cellsA an)) (ok : AnsOk an) : AnsIn W W.heap.size (some ⟨g, 0, none⟩) an := by
  intro j hj
  have hg : g < W.heap.size := by
    rcases h.2 with ⟨h', _⟩ | ⟨g', cap', cur, h', _, hg, _⟩
    · simp at h'
    · cases h'; exact lt_of_heap hg
  have hc := cellsA_get an j hj
  refine ⟨g, 0, rfl, hg, ?_, ?_, (ok _ (nth_mem an j hj)).1, (ok _ (nth_mem an j hj)).2.1, (ok _ (nth_mem an j hj)).2.2⟩
  · rw [Nat.zero_add, h.cellAt (j * 2) (by omega)]; exact hc.1
  · rw [Nat.zero_add, h.cellAt (j * 2 + 1) (by omega)]; exact hc.2

theorem own_base {W : World} {base : Nat} {e : TypeId} {size g n cap : Nat} {xs : List Value} (h : W.ownsRow base e size (.slice (some ⟨g, 0, none⟩) n cap) n xs) : base ≤ g := by
  rcases h.2 with ⟨h', _⟩ | ⟨g', cap', cur, h', hb, _⟩
  · simp at h'
  · cases h'; exact hb

section
variable (w : World) {ops : Array Oper} {rest : List Oper} {o : Oper} {a : Act} {Q : Exit → Act → World → Prop}
/-- 'append(out, an...)', out the call's own. -/
theorem appendA (hgd : o.guard = none) (s x : Operand) (ho : o.op = .call { callee := .builtin .append, args := #[s, x], argTypes := #[31, 31] }) (base : Nat)
    (g n cap : Nat) (xs : List Value) (hs : a.eval s = .slice (some ⟨g, 0, none⟩) n cap) (hown : w.ownsRow base 43 2 (.slice (some ⟨g, 0, none⟩) n cap) n xs) (p : Option Addr) (c : Nat) (an : List (ByteArray × Int)) (hnil : p = none → an = [] ∧ c = 0)
    (hx : a.eval x = .slice p an.length c) (B : Nat) (w0 : World) (hA : AnsIn w0 B p an) (hB : Below B w0 w) (hn : n ≤ 16384) (hm : an.length ≤ 16384) (hbase : base ≤ w.heap.size)
    (h : ∀ g' cap' w', w'.ownsRow base 43 2 (.slice (some ⟨g', 0, none⟩) (n + an.length) cap') (n + an.length) (xs ++ cellsA an) → w.grownBy w' (some g) → wpList Try.prog ops Q rest (a.put o.dst (.slice (some ⟨g', 0, none⟩) (n + an.length) cap')) w') :
    wpList Try.prog ops Q (o :: rest) a w := by
  obtain ⟨i, hi, hz, hsz, hb⟩ := info_parts info43
  cases p with
  | none =>
    obtain ⟨rfl, rfl⟩ := hnil rfl
    refine wpList_append_own_none hgd s x 31 ho base 43 i 2 Try.underlying31 hi _ n xs hs hown hx ?_
    exact h g cap w (by simpa [cellsA] using hown) ⟨rfl, rfl, rfl, Nat.le_refl _, fun _ _ _ => rfl⟩
  | some ad =>
    refine wpList_append_own_at w hgd s x 31 ho base 43 i _ 2 24 Try.underlying31 hi hz hsz hb rfl (by decide) _ n xs hs hown ad an.length c (cellsA an) hx (cellsA_len an) (fun j u hu => hA.src w hB j u hu) (cellsA_one an) (by unfold maxLen; omega) (by omega) hbase ?_
    intro v' w' h1 h2 h3 _
    rcases h1.2 with ⟨hv, h0⟩ | ⟨g', cap', cur, hv, _⟩
    · exact absurd ((h3.1 hv).1) (by simp)
    · subst hv
      exact h g' cap' w' h1 h2
end

/-- A slice of answers of the call's own. -/
def JoinPost (w : World) (an : List (ByteArray × Int)) (e : Ending) (w' : World) : Prop := Below w.heap.size w w' ∧ ∃ g cap, e = .returned (.slice (some ⟨g, 0, none⟩) an.length cap) ∧ AnsIn w' w'.heap.size (some ⟨g, 0, none⟩) an

set_option maxHeartbeats 1000000 in
set_option maxRecDepth 100000 in
/-- zzB1joinAnswers. -/
theorem joinAnswers (p q : Option Addr) (c c2 : Nat) (an mo : List (ByteArray × Int)) (w : World) (hA : AnsIn w w.heap.size p an) (hO : AnsIn w w.heap.size q mo) (n1 : p = none → an = [] ∧ c = 0) (n2 : q = none → mo = [] ∧ c2 = 0) (b1 : an.length ≤ 4096) (b2 : mo.length ≤ 4096) :
    Calls Try.prog 16 #[.slice p an.length c, .slice q mo.length c2] w (JoinPost w (an ++ mo)) := by
  have HA : Hid (AnsIn w w.heap.size p an) := hA
  have HO : Hid (AnsIn w w.heap.size q mo) := hO
  have N1 : Hid (p = none → an = [] ∧ c = 0) := n1
  have N2 : Hid (q = none → mo = [] ∧ c2 = 0) := n2
  clear hA hO n1 n2
  obtain ⟨i, hi, hz, hsz, hb⟩ := info_parts info43
  go_enter Try.func16, Try.ntmps16
  go_wp2_with (first
    | (at_make; refine wpList_make_own w rfl _ _ 31 rfl w.heap.size 43 i _ 2 Try.underlying31 hi hz hsz .i64 .i64 _ (an.length + mo.length) rfl rfl (by go_num) (by rw [hb]; omega) (by unfold maxLen; omega) (Nat.le_refl _) ?_; intro w1 hown1 hg1; have HB1 : Hid (Below w.heap.size w w1) := (Below.refl _ w).grown hg1 (Nat.le_refl _) (by simp); have HO1 : Hid _ := hown1; clear hown1 hg1)
    | (at_builtin; refine appendA _ rfl _ _ rfl w.heap.size w.heap.size 0 (an.length + mo.length) [] rfl HO1.out p c an N1.out rfl w.heap.size w HA.out HB1.out (by omega) (by omega) HB1.out.size ?_; intro g2 cap2 w2 hown2 hg2; have HB2 : Hid (Below w.heap.size w w2) := HB1.out.grown hg2 HB1.out.size (by rintro k h; cases h; exact Nat.le_refl _); have HO2 : Hid (w2.ownsRow w.heap.size 43 2 (.slice (some ⟨g2, 0, none⟩) an.length cap2) an.length (cellsA an)) := (by rw [Nat.zero_add, List.nil_append] at hown2; exact hown2); clear hown2 hg2)
    | (at_builtin; refine appendA _ rfl _ _ rfl w.heap.size g2 an.length cap2 (cellsA an) rfl HO2.out q c2 mo N2.out rfl w.heap.size w HO.out HB2.out (by omega) (by omega) HB2.out.size ?_; intro g3 cap3 w3 hown3 hg3; have HG2 := own_base HO2.out; have HB3 : Hid (Below w.heap.size w w3) := HB2.out.grown hg3 HB2.out.size (by rintro k h; cases h; exact HG2); have HO3 : Hid (w3.ownsRow w.heap.size 43 2 (.slice (some ⟨g3, 0, none⟩) (an ++ mo).length cap3) (an ++ mo).length (cellsA (an ++ mo))) := (by rw [List.length_append, cellsA_append]; exact hown3); clear hown3 hg3 HG2))
  go_ret
  refine ⟨HB3.out, g3, cap3, by rw [List.length_append]; rfl, ansIn_own HO3.out (HA.out.ok.append HO.out.ok)⟩
end Go.Proofs.Qxb6613745a
