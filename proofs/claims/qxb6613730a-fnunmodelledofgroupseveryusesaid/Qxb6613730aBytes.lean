import Derived.Test.Qxb6613730aBase
namespace Go.Proofs.Qxb6613730a
open Go.RowKit

/-- Some bool. -/
def SomeBool (e : Ending) : Prop := e = .returned (.bool true) ∨ e = .returned (.bool false)

set_option maxHeartbeats 800000 in
set_option maxRecDepth 100000 in
theorem bytes27 (B : Nat) (pl : Option Addr) (n cl : Nat) (p : Option Addr) (c : Nat) (kk : List (List ByteArray)) (w : World) (hS : StrssIn w B p kk) (hl : n ≤ maxLen) (hn : kk.length ≤ maxLen) :
    Calls Try.prog 27 #[.slice pl n cl, .slice p kk.length c] w fun e w' => SomeBool e ∧ w' = w := by
  unfold maxLen at hl hn
  by_cases h0 : 1048576 < n
  · have h0' : (1048576 : Int) < n := by omega
    go_enter Try.func27, Try.ntmps27
    go_wp2
    go_ret
    exact ⟨.inr rfl, rfl⟩
  have h0' : ¬ (1048576 : Int) < n := by omega
  by_cases h1 : 1048576 < kk.length
  · have h1' : (1048576 : Int) < kk.length := by omega
    go_enter Try.func27, Try.ntmps27
    go_wp2
    go_ret
    exact ⟨.inr rfl, rfl⟩
  have h1' : ¬ (1048576 : Int) < kk.length := by omega
  by_cases h2 : 1048576 < n + kk.length
  · have h2' : (1048576 : Int) < n + kk.length := by omega
    go_enter Try.func27, Try.ntmps27
    go_wp2
    go_ret
    exact ⟨.inr rfl, rfl⟩
  have h2' : ¬ (1048576 : Int) < n + kk.length := by omega
  go_enter Try.func27, Try.ntmps27
  go_wp2
  go_loop [5, 6] (fun t i => ∃ k : Nat, k ≤ kk.length ∧ i = .int .i64 k ∧ ∃ z, t = .int .i64 z) (fun _ i => kk.length - (intOf i).toNat)
  case atStart => exact ⟨0, Nat.zero_le _, rfl, _, rfl⟩
  case round =>
    obtain ⟨k, hk, rfl, z, rfl⟩ := hrel
    by_cases hlt : k < kk.length
    · obtain ⟨b, off, q, d, rfl, _, hc, hb, hq⟩ := hS k hlt
      unfold maxLen at hb
      go_wp2
      · go_ret
        exact ⟨.inr rfl, rfl⟩
      · go_ret
        exact ⟨.inr rfl, rfl⟩
      · go_loop [5, 7] (fun t i => ∃ j : Nat, j ≤ (nth kk k).length ∧ i = .int .i64 j ∧ ∃ z, t = .int .i64 z) (fun _ i => (nth kk k).length - (intOf i).toNat)
        case atStart => exact ⟨0, Nat.zero_le _, rfl, _, rfl⟩
        case round =>
          obtain ⟨j, hj, rfl, z', rfl⟩ := hrel
          by_cases hlt' : j < (nth kk k).length
          · obtain ⟨b', off', rfl, _, hc', _⟩ := hq j hlt'
            go_wp2
            · go_ret
              exact ⟨.inr rfl, rfl⟩
            · go_ret
              exact ⟨.inr rfl, rfl⟩
            · go_round
              case rel => exact ⟨j + 1, by omega, by go_num, _, rfl⟩
              case measure => simp [intOf]; omega
          · go_wp2
            go_round
            case rel => exact ⟨k + 1, by omega, by go_num, _, rfl⟩
            case measure => simp [intOf]; omega
    · go_wp2
      go_ret
      exact ⟨.inl rfl, rfl⟩

end Go.Proofs.Qxb6613730a
