import Derived.Test.Qxb6613730aBase
namespace Go.Proofs.Qxb6613730a
open Go.RowKit

/-- What zzUsesOut's answer says. -/
def UsesOk (n : Nat) (kk : List (List ByteArray)) (e : Ending) : Prop := e = .returned (.bool true) ∨ (e = .returned (.bool false) ∧ n = kk.length ∧ kk.length ≤ 4096 ∧ pairsN kk ≤ 4096)

set_option maxHeartbeats 800000 in
set_option maxRecDepth 100000 in
/-- zzUsesOut: where it answers 'no' the lengths are one, at most 4096, and there are at most 4096 uses. -/
theorem usesOut (B : Nat) (pl : Option Addr) (n cl : Nat) (p : Option Addr) (c : Nat) (kk : List (List ByteArray)) (w : World) (hS : StrssIn w B p kk) (hl : n ≤ maxLen) (hn : kk.length ≤ maxLen) :
    Calls Try.prog 21 #[.slice pl n cl, .slice p kk.length c] w fun e w' => UsesOk n kk e ∧ w' = w := by
  unfold maxLen at hl
  have hcall := ssbytes B p c kk w hS hn
  unfold maxLen at hn
  by_cases h0 : 4096 < n
  · have h0' : (4096 : Int) < n := by omega
    go_enter Try.func21, Try.ntmps21
    go_wp2
    go_ret
    exact ⟨.inl rfl, rfl⟩
  have h0' : ¬ (4096 : Int) < n := by omega
  by_cases h1 : 4096 < kk.length
  · have h1' : (4096 : Int) < kk.length := by omega
    go_enter Try.func21, Try.ntmps21
    go_wp2
    go_ret
    exact ⟨.inl rfl, rfl⟩
  have h1' : ¬ (4096 : Int) < kk.length := by omega
  by_cases h2 : n ≠ kk.length
  · have h2' : ((n : Int) != kk.length) = true := by rw [bne_iff_ne]; omega
    go_enter Try.func21, Try.ntmps21
    go_wp2
    go_ret
    exact ⟨.inl rfl, rfl⟩
  have h2' : n = kk.length := by omega
  subst h2'
  clear h2
  go_enter Try.func21, Try.ntmps21
  go_wp2_with (go_at_call 15; refine hcall.mono ?_; rintro e w' ⟨⟨t, rfl⟩, rfl⟩)
  · go_ret
    exact ⟨.inl rfl, rfl⟩
  clear hcall
  go_loop [6, 31] (fun t i => ∃ k : Nat, k ≤ kk.length ∧ i = .int .i64 k ∧ pairsN (kk.take k) ≤ 4096 ∧ t = .int .i64 (pairsN (kk.take k) : Nat)) (fun _ i => kk.length - (intOf i).toNat)
  case atStart => exact ⟨0, Nat.zero_le _, rfl, by simp [pairsN], rfl⟩
  case round =>
    obtain ⟨k, hk, rfl, hp, rfl⟩ := hrel
    by_cases hlt : k < kk.length
    · obtain ⟨b, off, q, d, rfl, _, hc, hb, hq⟩ := hS k hlt
      have HS : Hid (pairsN (kk.take (k + 1)) = pairsN (kk.take k) + (nth kk k).length) := pairsN_take_succ kk k hlt
      unfold maxLen at hb
      by_cases h3 : 4096 - pairsN (kk.take k) < (nth kk k).length
      · go_wp2
        go_ret
        exact ⟨.inl rfl, rfl⟩
      · go_wp2
        go_round
        case rel => exact ⟨k + 1, by omega, by go_num, by rw [HS.out]; omega, by rw [HS.out]; go_num⟩
        case measure => simp [intOf]; omega
    · rw [List.take_of_length_le (by omega)] at hp
      go_wp2
      go_ret
      exact ⟨.inr ⟨rfl, rfl, by omega, hp⟩, rfl⟩

end Go.Proofs.Qxb6613730a
