import Derived.Test.Qxb6613730aLp2
set_option linter.unusedVariables false
namespace Go.Proofs.Qxb6613730a
open Go.RowKit Go.Shelf Go.Sort

set_option maxRecDepth 100000 in
set_option maxHeartbeats 1000000 in
theorem insertion_nil (sv fv : Value) (W : World) : Calls Try.prog 70 #[sv, .int .i64 0, .int .i64 0, fv] W fun e W' => e = .returned (.tuple #[]) ∧ W' = W := by
  go_enter Try.func70, Try.ntmps70
  go_wp2
  go_loopw [8] (fun s8 wr => s8 = .int .i64 1 ∧ wr = W) (fun _ _ => 0)
  case atStart => exact ⟨rfl, rfl⟩
  case round =>
    obtain ⟨rfl, rfl⟩ := hrel
    go_wp2
    go_end0
    exact ⟨rfl, rfl⟩

set_option maxRecDepth 100000 in
set_option maxHeartbeats 1000000 in
theorem stable_nil (sv fv : Value) (W : World) : Calls Try.prog 53 #[sv, .int .i64 0, fv] W fun e W' => e = .returned (.tuple #[]) ∧ W' = W := by
  have hc := insertion_nil sv fv W
  go_enter Try.func53, Try.ntmps53
  go_wp2
  go_loopw [7, 8] (fun s7 s8 wr => s7 = .int .i64 0 ∧ s8 = .int .i64 20 ∧ wr = W) (fun _ _ _ => 0)
  case atStart => exact ⟨rfl, rfl, rfl⟩
  case round =>
    obtain ⟨rfl, rfl, rfl⟩ := hrel
    go_wp2_with fail
    refine hc.mono ?_
    rintro _ w9 ⟨rfl, rfl⟩
    go_wp2
    go_loopw [6] (fun s6 w2 => s6 = .int .i64 20 ∧ w2 = w9) (fun _ _ => 0)
    case atStart => exact ⟨rfl, rfl⟩
    case round =>
      obtain ⟨rfl, rfl⟩ := hrel
      go_wp2
      go_end0
      exact ⟨rfl, rfl⟩

set_option maxRecDepth 100000 in
set_option maxHeartbeats 1000000 in
theorem sortStable_nil (p : Option Addr) (cap : Nat) (fv : Value) (W : World) : Calls Try.prog 44 #[.slice p 0 cap, fv] W fun e W' => e = .returned (.tuple #[]) ∧ W' = W := by
  have hc := stable_nil (.slice p 0 cap) fv W
  go_enter Try.func44, Try.ntmps44
  go_wp2_with fail
  refine hc.mono ?_
  rintro _ _ ⟨rfl, rfl⟩
  go_wp2
  go_end0
  exact ⟨rfl, rfl⟩

/-- Be there groups or none. -/
theorem unm_sorted [Inhabited Ent] {n₀ fb D0 : Nat} {w W : World} {vk : Value} {us : List Ent} (h : Lp n₀ fb D0 w W vk us us.length) (hne : ∀ j, j < us.length → (nth us j).ls ≠ []) (hsz : us.length ≤ 16777216) :
    Calls Try.prog 44 #[.slice (some ⟨fb, 0, none⟩) us.length us.length, .func (.func 45) #[] #[]] W fun e W' => e = .returned (.tuple #[]) ∧ W'.heap[D0]? = some (.deferred (some [])) ∧ Below n₀ w W' ∧ ∃ rs, Ans (us.map Ent.data) rs ∧ rs.length = us.length ∧ Laid n₀ W' fb rs := by
  by_cases h0 : 0 < us.length
  · exact unm_sort h hne h0 hsz
  · have e : us = [] := List.length_eq_zero_iff.1 (by omega)
    subst e
    refine (sortStable_nil _ _ _ _).mono ?_
    rintro _ _ ⟨rfl, rfl⟩
    obtain ⟨F, hF, _⟩ := h.found
    exact ⟨rfl, h.defer, h.below, [], ⟨[], by simp, rfl, List.Pairwise.nil⟩, rfl, h.fbne.1, lt_of_heap hF, fun j hj => absurd hj (Nat.not_lt_zero _)⟩
end Go.Proofs.Qxb6613730a
