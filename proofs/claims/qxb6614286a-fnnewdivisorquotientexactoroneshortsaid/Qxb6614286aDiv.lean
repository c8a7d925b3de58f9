import Derived.Test.Qxb6614286aMul
import Derived.BigQuiet
import Derived.Laws.Rows
set_option linter.unusedVariables false
namespace Go.Proofs.Qxb6614286a
open Go.RowKit Go.Lib

set_option maxHeartbeats 400000 in
/-- newDivisor. -/
theorem newDivisor_w (n : Nat) (h1 : 1 ≤ n) (h2 : n ≤ 9223372036854775807) (w : World) :
    Calls Try.prog 19 #[.int .i64 n] w fun e w' => e = .returned (.agg #[.int .u64 n, .int .u64 (18446744073709551615 / (n : Int))]) ∧ ∃ c, w' = w.alloc (.cells c 46) := by
  go_enter Try.func19, Try.ntmps19
  go_wp2
  refine bodyPost_ret (results_cell_row rfl _ _ w.heap.size 46 #[.int .u64 n, .int .u64 (18446744073709551615 / (n : Int))] (0, 0) _ rfl (heap_alloc_new _ _) Try.underlying46 rfl (by kernel_rfl)) rfl ?_
  exact ⟨rfl, _, rfl⟩

set_option maxHeartbeats 400000 in
/-- ZZnewDivisor. -/
theorem zznew_w (n : Nat) (h1 : 1 ≤ n) (h2 : n ≤ 9223372036854775807) (w : World) :
    Calls Try.prog 7 #[.int .i64 n] w fun e w' => e = .returned (.tuple #[.int .u64 n, .int .u64 (18446744073709551615 / (n : Int))]) ∧ Grown w w' := by
  have hcall := newDivisor_w n h1 h2 w
  go_enter Try.func7, Try.ntmps7
  go_wp2_with (go_at_call 19; refine hcall.mono ?_; rintro e w' ⟨rfl, c, rfl⟩)
  go_quiet (fail)
  go_wp2
  refine bodyPost_ret (results_tmp2 rfl _ _ _) rfl ?_
  exact ⟨rfl, Grown.drew (((Grown.refl _).alloc _ _).alloc _ _)⟩

set_option maxHeartbeats 400000 in
set_option maxRecDepth 100000 in
theorem walkQ (n x m hi lo q : Nat) (h1 : 1 ≤ n) (h2 : n ≤ 9223372036854775807) (hx : x < 18446744073709551616) (hq : (x : Int) / (n : Int) = (q : Int)) (hlq : hi = q ∨ hi + 1 = q) (hqx : q < 18446744073709551616) (w : World)
    (hc1 : Calls Try.prog 7 #[.int .i64 n] w fun e w' => e = .returned (.tuple #[.int .u64 n, .int .u64 m]) ∧ Grown w w')
    (hc2 : ∀ w', Calls Try.prog 8 #[.int .u64 x, .int .u64 m] w' fun e w'' => e = .returned (.tuple #[.int .u64 hi, .int .u64 lo]) ∧ w'' = w') :
    Calls Try.prog 3 #[.int .i64 n, .int .u64 x] w fun e w' => e = .returned (.bool true) ∧ Grown w w' := by
  rcases hlq with rfl | rfl
  · go_enter Try.func3, Try.ntmps3
    go_wp2_with (first | (go_at_call 7; refine hc1.mono ?_; rintro e w' ⟨rfl, hg⟩) | (go_at_call 8; refine (hc2 _).mono ?_; rintro e w' ⟨rfl, rfl⟩))
    go_ret
    exact ⟨rfl, hg⟩
  · go_enter Try.func3, Try.ntmps3
    go_wp2_with (first | (go_at_call 7; refine hc1.mono ?_; rintro e w' ⟨rfl, hg⟩) | (go_at_call 8; refine (hc2 _).mono ?_; rintro e w' ⟨rfl, rfl⟩))
    go_ret
    exact ⟨rfl, hg⟩

theorem walkN (n x : Nat) (h1 : 1 ≤ n) (h2 : n ≤ 9223372036854775807) (hx : x < 18446744073709551616) (w : World) :
    Calls Try.prog 3 #[.int .i64 n, .int .u64 x] w fun e w' => e = .returned (.bool true) ∧ Grown w w' := by
  have hc1 := zznew_w n h1 h2 w
  have hd : (18446744073709551615 : Int) / (n : Int) = ((18446744073709551615 / n : Nat) : Int) := (Int.natCast_ediv 18446744073709551615 n).symm
  have hm : 18446744073709551615 / n < 18446744073709551616 := Nat.lt_of_le_of_lt (Nat.div_le_self _ _) (by decide)
  rw [hd] at hc1
  exact walkQ n x _ _ _ (x / n) h1 h2 hx (Int.natCast_ediv x n).symm (quot_law x n hx h1) (Nat.lt_of_le_of_lt (Nat.div_le_self _ _) hx) w hc1 (fun w' => mul_w x _ hx hm w')

set_option maxHeartbeats 400000 in
theorem walkS (a x : Int) (h : a < 1) (w : World) :
    Calls Try.prog 3 #[.int .i64 a, .int .u64 x] w fun e w' => e = .returned (.bool true) ∧ Grown w w' := by
  go_enter Try.func3, Try.ntmps3
  go_wp2
  go_ret
  exact ⟨rfl, Grown.refl _⟩
end Go.Proofs.Qxb6614286a
