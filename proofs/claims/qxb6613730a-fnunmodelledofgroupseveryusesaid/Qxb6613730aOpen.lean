import Derived.Test.Qxb6613730aBase
import Derived.ProofKit
import Derived.OpenShut
import Derived.Deep.Strs
import Derived.Carry
set_option linter.unusedVariables false
namespace Go.Proofs.Qxb6613730a
open Go.ChangeShapes Go.WideShapes Go.ChangeAt Go.RowKit Go.Deep

theorem own : ownKnob Try.prog.godebug = none := by kernel_rfl
theorem laidOut : laidOutB Try.prog = true := by kernel_rfl
theorem cells3 : Try.prog.cellsOf 3 = 1 := by kernel_rfl
theorem cells22 : Try.prog.cellsOf 22 = 1 := by kernel_rfl
theorem cells9 : Try.prog.cellsOf 9 = 1 := by kernel_rfl

theorem cell_lt {w : World} {a : Addr} {v : Value} (h : w.cell? a = some v) : a.block < w.heap.size := by
  by_cases hb : a.block < w.heap.size
  · exact hb
  · unfold World.cell? at h
    rw [Array.getElem?_eq_none (by omega)] at h
    cases h

section
variable {H : Type} {enc : TypeId × Value → H} {W : World}

set_option maxRecDepth 100000 in
/-- An argument []int. -/
theorem open43 {v : Value} {d : DataW H} {ps : List MemPlace} {base : Nat} (hval : Value.okWide Try.prog W .any base 43 v) (h : DataW.Trod enc Try.prog W 0 (fun _ => true) true 43 v d ps) :
    ∃ (p : Option Addr) (zs : List Int) (c : Nat), v = .slice p zs.length c ∧ zs.length ≤ maxLen ∧ IntsIn W W.heap.size p zs := by
  obtain ⟨a0, len, cap, rfl⟩ := okWide_slice Try.underlying43 hval
  obtain ⟨fuel, hf⟩ := h
  rcases open_ints Try.underlying43 Try.underlying3 cells3 hf with ⟨hcs, _⟩ | ⟨a, len', cap', zs, hcs, _, hl, hm, hz, _, hcell, _⟩
  · simp [Value.cells] at hcs
    obtain ⟨rfl, rfl, rfl⟩ := hcs
    exact ⟨none, [], 0, rfl, Nat.zero_le _, fun j hj => absurd hj (Nat.not_lt_zero _)⟩
  · simp [Value.cells] at hcs
    obtain ⟨rfl, rfl, rfl⟩ := hcs
    simp only [if_true] at hz
    have hlen : (zs.take len).length = len := by rw [List.length_take]; omega
    refine ⟨some a, zs.take len, cap, by rw [hlen], by omega, fun j hj => ?_⟩
    rw [hlen] at hj
    have hc := hcell j (by omega)
    have hnth : nth (zs.take len) j = zs.getD j 0 := by
      rw [nth_eq _ _ (by omega), List.getElem_take]
      simp [List.getD, List.getElem?_eq_getElem (show j < zs.length by omega)]
    obtain ⟨b, off, spot⟩ := a
    have hspot : spot = none := by simpa [Addr.add] using World.cell?_spot (hcell 0 (by omega))
    subst hspot
    rw [Addr.add_lit] at hc
    exact ⟨b, off, rfl, cell_lt hc, by rw [hnth]; exact hc⟩

/-- An element []string, where it lies. -/
theorem open22 {v : Value} {x : DataW H × List MemPlace} {n : Nat} (h : DataW.trod enc Try.prog W 0 (fun _ => true) true n 22 [v] = some x) :
    ∃ (p : Option Addr) (ss : List ByteArray) (c : Nat), v = .slice p ss.length c ∧ ss.length ≤ maxLen ∧ StrsIn W W.heap.size p ss := by
  rcases open_strs Try.underlying22 Try.underlying9 cells9 h with ⟨hcs, _⟩ | ⟨a, len, cap, m, Sx, hcs, _, hl, hm, hz, _, hcell⟩
  · simp at hcs
    subst hcs
    exact ⟨none, [], 0, rfl, Nat.zero_le _, fun j hj => absurd hj (Nat.not_lt_zero _)⟩
  · simp at hcs
    subst hcs
    simp only [if_true] at hz
    have hlen : ((List.range len).map Sx).length = len := by simp
    refine ⟨some a, (List.range len).map Sx, cap, by rw [hlen], by omega, fun j hj => ?_⟩
    rw [hlen] at hj
    obtain ⟨hc, hs⟩ := hcell j (by omega)
    have hnth : nth ((List.range len).map Sx) j = Sx j := by
      rw [nth_eq _ _ (by rw [hlen]; exact hj)]; simp
    obtain ⟨b, off, spot⟩ := a
    have hspot : spot = none := by simpa [Addr.add] using World.cell?_spot (hcell 0 (by omega)).1
    subst hspot
    rw [Addr.add_lit] at hc
    exact ⟨b, off, rfl, cell_lt hc, by rw [hnth]; exact hc, by rw [hnth]; exact hs⟩

set_option maxRecDepth 100000 in
/-- An argument [][]string. -/
theorem open35 {v : Value} {d : DataW H} {ps : List MemPlace} {base : Nat} (hval : Value.okWide Try.prog W .any base 35 v) (h : DataW.Trod enc Try.prog W 0 (fun _ => true) true 35 v d ps) :
    ∃ (p : Option Addr) (kk : List (List ByteArray)) (c : Nat), v = .slice p kk.length c ∧ kk.length ≤ maxLen ∧ StrssIn W W.heap.size p kk := by
  obtain ⟨a0, len, cap, rfl⟩ := okWide_slice Try.underlying35 hval
  obtain ⟨fuel, hf⟩ := h
  rcases open_slice1 Try.underlying35 cells22 hf with ⟨hcs, _⟩ | ⟨a, len', cap', m, n, V, D, Pl, hcs, _, hl, hm, hz, _, hcell⟩
  · simp [Value.cells] at hcs
    obtain ⟨rfl, rfl, rfl⟩ := hcs
    exact ⟨none, [], 0, rfl, Nat.zero_le _, fun j hj => absurd hj (Nat.not_lt_zero _)⟩
  · simp [Value.cells] at hcs
    obtain ⟨rfl, rfl, rfl⟩ := hcs
    simp only [if_true] at hz
    have hex : ∀ i, ∃ ss : List ByteArray, i < len → ∃ (p : Option Addr) (c : Nat), V i = .slice p ss.length c ∧ ss.length ≤ maxLen ∧ StrsIn W W.heap.size p ss := fun i => by
      by_cases hi : i < len
      · obtain ⟨p, ss, c, h1, h2, h3⟩ := open22 (hcell i (by omega)).2
        exact ⟨ss, fun _ => ⟨p, c, h1, h2, h3⟩⟩
      · exact ⟨[], fun h => absurd h hi⟩
    obtain ⟨K, hK⟩ := Classical.axiomOfChoice hex
    have hlen : ((List.range len).map K).length = len := by simp
    refine ⟨some a, (List.range len).map K, cap, by rw [hlen], by omega, fun j hj => ?_⟩
    rw [hlen] at hj
    have hc := (hcell j (by omega)).1
    obtain ⟨q, c, e1, e2, e3⟩ := hK j hj
    have hnth : nth ((List.range len).map K) j = K j := by
      rw [nth_eq _ _ (by rw [hlen]; exact hj)]; simp
    obtain ⟨b, off, spot⟩ := a
    have hspot : spot = none := by simpa [Addr.add] using World.cell?_spot (hcell 0 (by omega)).1
    subst hspot
    rw [Addr.add_lit] at hc
    exact ⟨b, off, q, c, rfl, cell_lt hc, by rw [hnth, hc, e1], by rw [hnth]; exact e2, by rw [hnth]; exact e3⟩
end
end Go.Proofs.Qxb6613730a
