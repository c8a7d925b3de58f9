import Derived.Test.Qxb6613745aBase
import Derived.ProofKit
import Derived.OpenShut
import Derived.Deep.Strs
import Derived.Deep.SlicePairs
import Derived.Carry
set_option linter.unusedVariables false
namespace Go.Proofs.Qxb6613745a
open Go.ChangeShapes Go.WideShapes Go.ChangeAt Go.RowKit Go.Deep

theorem own : ownKnob Try.prog.godebug = none := by kernel_rfl
theorem laidOut : laidOutB Try.prog = true := by kernel_rfl
theorem cells27 : Try.prog.cellsOf 27 = 2 := by kernel_rfl
theorem cells43 : Try.prog.cellsOf 43 = 2 := by kernel_rfl
theorem cells9 : Try.prog.cellsOf 9 = 1 := by kernel_rfl
theorem cells30 : Try.prog.cellsOf 30 = 1 := by kernel_rfl

theorem cell_lt' {w : World} {a : Addr} {v : Value} (h : w.cell? a = some v) : a.block < w.heap.size := by
  by_cases hb : a.block < w.heap.size
  · exact hb
  · unfold World.cell? at h
    rw [Array.getElem?_eq_none (Nat.le_of_not_lt hb)] at h
    cases h

section
variable {H : Type} {enc : TypeId × Value → H} {W : World}

set_option maxRecDepth 100000 in
/-- An argument []Member. -/
theorem open22 {v : Value} {d : DataW H} {ps : List MemPlace} {base : Nat} (hval : Value.okWide Try.prog W .any base 22 v) (h : DataW.Trod enc Try.prog W 0 (fun _ => true) true 22 v d ps) :
    ∃ (p : Option Addr) (ms : List (ByteArray × ByteArray)) (c : Nat), v = .slice p ms.length c ∧ ms.length ≤ maxLen ∧ (p = none → ms = [] ∧ c = 0) ∧ MemIn W W.heap.size p ms := by
  obtain ⟨a0, len, cap, rfl⟩ := okWide_slice Try.underlying22 hval
  obtain ⟨fuel, hf⟩ := h
  rcases open_slice_pairs Try.underlying22 Try.underlying27 cells27 rfl rfl cells9 cells9 hf with ⟨hcs, _⟩ | ⟨a, len', cap', m, n, V0, V1, D0, D1, P0, P1, hcs, _, hl, hm, hz, _, hcell⟩
  · simp [Value.cells] at hcs
    obtain ⟨rfl, rfl, rfl⟩ := hcs
    exact ⟨none, [], 0, rfl, Nat.zero_le _, fun _ => ⟨rfl, rfl⟩, fun j hj => absurd hj (Nat.not_lt_zero _)⟩
  · simp [Value.cells] at hcs
    obtain ⟨rfl, rfl, rfl⟩ := hcs
    simp only [if_true] at hz
    have hex : ∀ i, ∃ x : ByteArray × ByteArray, i < len → V0 i = .string x.1 ∧ V1 i = .string x.2 ∧ x.1.size ≤ maxLen ∧ x.2.size ≤ maxLen := fun i => by
      by_cases hi : i < len
      · obtain ⟨_, _, t0, t1⟩ := hcell i (by omega)
        obtain ⟨s0, e0, _, z0⟩ := DataW.trod_string Try.underlying9 t0
        obtain ⟨s1, e1, _, z1⟩ := DataW.trod_string Try.underlying9 t1
        exact ⟨(s0, s1), fun _ => ⟨by simpa using e0, by simpa using e1, z0, z1⟩⟩
      · exact ⟨(⟨#[]⟩, ⟨#[]⟩), fun h => absurd h hi⟩
    obtain ⟨K, hK⟩ := Classical.axiomOfChoice hex
    have hlen : ((List.range len).map K).length = len := by simp
    refine ⟨some a, (List.range len).map K, cap, by rw [hlen], by omega, fun h => absurd h (by simp), fun j hj => ?_⟩
    rw [hlen] at hj
    obtain ⟨c0, c1, _, _⟩ := hcell j (by omega)
    obtain ⟨e0, e1, z0, z1⟩ := hK j hj
    have hnth : nth ((List.range len).map K) j = K j := by
      rw [nth_eq _ _ (by rw [hlen]; exact hj)]; simp
    obtain ⟨b, off, spot⟩ := a
    have hspot : spot = none := by simpa [Addr.add] using World.cell?_spot (hcell 0 (by omega)).1
    subst hspot
    rw [Addr.add_lit] at c0 c1
    rw [hnth]
    exact ⟨b, off, rfl, cell_lt' c0, by rw [c0, e0], by rw [← Nat.add_assoc] at c1; rw [c1, e1], z0, z1⟩

set_option maxRecDepth 100000 in
/-- An argument []Answer. -/
theorem open31 {v : Value} {d : DataW H} {ps : List MemPlace} {base : Nat} (hval : Value.okWide Try.prog W .any base 31 v) (h : DataW.Trod enc Try.prog W 0 (fun _ => true) true 31 v d ps) :
    ∃ (p : Option Addr) (an : List (ByteArray × Int)) (c : Nat), v = .slice p an.length c ∧ an.length ≤ maxLen ∧ (p = none → an = [] ∧ c = 0) ∧ AnsIn W W.heap.size p an := by
  obtain ⟨a0, len, cap, rfl⟩ := okWide_slice Try.underlying31 hval
  obtain ⟨fuel, hf⟩ := h
  rcases open_slice_pairs Try.underlying31 Try.underlying43 cells43 rfl rfl cells9 cells30 hf with ⟨hcs, _⟩ | ⟨a, len', cap', m, n, V0, V1, D0, D1, P0, P1, hcs, _, hl, hm, hz, _, hcell⟩
  · simp [Value.cells] at hcs
    obtain ⟨rfl, rfl, rfl⟩ := hcs
    exact ⟨none, [], 0, rfl, Nat.zero_le _, fun _ => ⟨rfl, rfl⟩, fun j hj => absurd hj (Nat.not_lt_zero _)⟩
  · simp [Value.cells] at hcs
    obtain ⟨rfl, rfl, rfl⟩ := hcs
    simp only [if_true] at hz
    have hex : ∀ i, ∃ x : ByteArray × Int, i < len → V0 i = .string x.1 ∧ V1 i = .int .u64 x.2 ∧ x.1.size ≤ maxLen ∧ 0 ≤ x.2 ∧ x.2 ≤ 18446744073709551615 := fun i => by
      by_cases hi : i < len
      · obtain ⟨_, _, t0, t1⟩ := hcell i (by omega)
        obtain ⟨s0, e0, _, z0⟩ := DataW.trod_string Try.underlying9 t0
        obtain ⟨s1, e1, _, z1⟩ := DataW.trod_int Try.underlying30 t1
        have m1 : IntKind.min .u64 = 0 := by decide
        have m2 : IntKind.max .u64 = 18446744073709551615 := by decide
        simp only [Lit.wf, m1, m2, Bool.and_eq_true, decide_eq_true_eq] at z1
        exact ⟨(s0, s1), fun _ => ⟨by simpa using e0, by simpa using e1, z0, z1.1, z1.2⟩⟩
      · exact ⟨(⟨#[]⟩, 0), fun h => absurd h hi⟩
    obtain ⟨K, hK⟩ := Classical.axiomOfChoice hex
    have hlen : ((List.range len).map K).length = len := by simp
    refine ⟨some a, (List.range len).map K, cap, by rw [hlen], by omega, fun h => absurd h (by simp), fun j hj => ?_⟩
    rw [hlen] at hj
    obtain ⟨c0, c1, _, _⟩ := hcell j (by omega)
    obtain ⟨e0, e1, z0, z1, z2⟩ := hK j hj
    have hnth : nth ((List.range len).map K) j = K j := by
      rw [nth_eq _ _ (by rw [hlen]; exact hj)]; simp
    obtain ⟨b, off, spot⟩ := a
    have hspot : spot = none := by simpa [Addr.add] using World.cell?_spot (hcell 0 (by omega)).1
    subst hspot
    rw [Addr.add_lit] at c0 c1
    rw [hnth]
    exact ⟨b, off, rfl, cell_lt' c0, by rw [c0, e0], by rw [← Nat.add_assoc] at c1; rw [c1, e1], z0, z1, z2⟩
end
end Go.Proofs.Qxb6613745a
