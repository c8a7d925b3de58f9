import Derived.Test.Qxb6613745aBase
set_option linter.unusedVariables false
namespace Go.Proofs.Qxb6613745a
open Go.RowKit

set_option maxHeartbeats 4000000 in
set_option maxRecDepth 100000 in
theorem bytes13 (B : Nat) (id : ByteArray) (t : Int) (p q r : Option Addr) (c c2 c3 : Nat) (ms : List (ByteArray × ByteArray)) (an mo : List (ByteArray × Int)) (w : World) (hM : MemIn w B p ms) (hA : AnsIn w B q an) (hO : AnsIn w B r mo) (b1 : ms.length ≤ maxLen) (b2 : an.length ≤ maxLen) (b3 : mo.length ≤ maxLen) :
    Calls Try.prog 13 #[.string id, .int .u64 t, .slice p ms.length c, .slice q an.length c2, .slice r mo.length c3] w fun e w' => SomeBool e ∧ w' = w := by
  have HM : Hid (MemIn w B p ms) := hM
  have HA : Hid (AnsIn w B q an) := hA
  have HO : Hid (AnsIn w B r mo) := hO
  unfold maxLen at b1 b2 b3
  clear hM hA hO
  go_enter Try.func13, Try.ntmps13
  go_wp2
  any_goals (go_ret; exact ⟨.inr rfl, rfl⟩)
  go_loop [11, 12] (fun s11 s12 => ∃ (k : Nat) (z : Int), k ≤ ms.length ∧ s12 = .int .i64 k ∧ s11 = .int .i64 z) (fun _ s12 => ms.length - (intOf s12).toNat)
  case atStart => exact ⟨0, _, Nat.zero_le _, rfl, rfl⟩
  case round =>
    obtain ⟨k, z, hk, rfl, rfl⟩ := hrel
    by_cases hlt : k < ms.length
    · obtain ⟨b, off, rfl, _, h1, h2, _, _⟩ := HM.out k hlt
      have hkz : (k : Int) < (ms.length : Int) := by omega
      go_wp2
      any_goals (go_ret; exact ⟨.inr rfl, rfl⟩)
      go_round
      case rel => exact ⟨k + 1, _, by omega, by go_num, rfl⟩
      case measure => simp [intOf]; omega
    · have hkz : ¬ (k : Int) < (ms.length : Int) := by omega
      go_wp2
      any_goals (go_ret; exact ⟨.inr rfl, rfl⟩)
      go_loop [11, 13] (fun s11 s12 => ∃ (k : Nat) (z : Int), k ≤ an.length ∧ s12 = .int .i64 k ∧ s11 = .int .i64 z) (fun _ s12 => an.length - (intOf s12).toNat)
      case atStart => exact ⟨0, _, Nat.zero_le _, rfl, rfl⟩
      case round =>
        clear hk hkz hlt
        obtain ⟨k, z, hk, rfl, rfl⟩ := hrel
        by_cases hlt : k < an.length
        · obtain ⟨b, off, rfl, _, h1, h2, _, _, _⟩ := HA.out k hlt
          have hkz : (k : Int) < (an.length : Int) := by omega
          go_wp2
          any_goals (go_ret; exact ⟨.inr rfl, rfl⟩)
          go_round
          case rel => exact ⟨k + 1, _, by omega, by go_num, rfl⟩
          case measure => simp [intOf]; omega
        · have hkz : ¬ (k : Int) < (an.length : Int) := by omega
          go_wp2
          any_goals (go_ret; exact ⟨.inr rfl, rfl⟩)
          go_loop [11, 14] (fun s11 s12 => ∃ (k : Nat) (z : Int), k ≤ mo.length ∧ s12 = .int .i64 k ∧ s11 = .int .i64 z) (fun _ s12 => mo.length - (intOf s12).toNat)
          case atStart => exact ⟨0, _, Nat.zero_le _, rfl, rfl⟩
          case round =>
            clear hk hkz hlt
            obtain ⟨k, z, hk, rfl, rfl⟩ := hrel
            by_cases hlt : k < mo.length
            · obtain ⟨b, off, rfl, _, h1, h2, _, _, _⟩ := HO.out k hlt
              have hkz : (k : Int) < (mo.length : Int) := by omega
              go_wp2
              any_goals (go_ret; exact ⟨.inr rfl, rfl⟩)
              go_round
              case rel => exact ⟨k + 1, _, by omega, by go_num, rfl⟩
              case measure => simp [intOf]; omega
            · have hkz : ¬ (k : Int) < (mo.length : Int) := by omega
              go_wp2
              go_ret
              exact ⟨.inl rfl, rfl⟩

set_option maxHeartbeats 4000000 in
set_option maxRecDepth 100000 in
theorem bytes20 (B : Nat) (id : ByteArray) (t : Int) (p q : Option Addr) (c c2 : Nat) (t2 : Int) (ms : List (ByteArray × ByteArray)) (an : List (ByteArray × Int)) (w : World) (hM : MemIn w B p ms) (hA : AnsIn w B q an) (b1 : ms.length ≤ maxLen) (b2 : an.length ≤ maxLen) :
    Calls Try.prog 20 #[.string id, .int .u64 t, .slice p ms.length c, .slice q an.length c2, .int .u64 t2] w fun e w' => SomeBool e ∧ w' = w := by
  have HM : Hid (MemIn w B p ms) := hM
  have HA : Hid (AnsIn w B q an) := hA
  unfold maxLen at b1 b2
  clear hM hA
  go_enter Try.func20, Try.ntmps20
  go_wp2
  any_goals (go_ret; exact ⟨.inr rfl, rfl⟩)
  go_loop [11, 12] (fun s11 s12 => ∃ (k : Nat) (z : Int), k ≤ ms.length ∧ s12 = .int .i64 k ∧ s11 = .int .i64 z) (fun _ s12 => ms.length - (intOf s12).toNat)
  case atStart => exact ⟨0, _, Nat.zero_le _, rfl, rfl⟩
  case round =>
    obtain ⟨k, z, hk, rfl, rfl⟩ := hrel
    by_cases hlt : k < ms.length
    · obtain ⟨b, off, rfl, _, h1, h2, _, _⟩ := HM.out k hlt
      have hkz : (k : Int) < (ms.length : Int) := by omega
      go_wp2
      any_goals (go_ret; exact ⟨.inr rfl, rfl⟩)
      go_round
      case rel => exact ⟨k + 1, _, by omega, by go_num, rfl⟩
      case measure => simp [intOf]; omega
    · have hkz : ¬ (k : Int) < (ms.length : Int) := by omega
      go_wp2
      any_goals (go_ret; exact ⟨.inr rfl, rfl⟩)
      go_loop [11, 13] (fun s11 s12 => ∃ (k : Nat) (z : Int), k ≤ an.length ∧ s12 = .int .i64 k ∧ s11 = .int .i64 z) (fun _ s12 => an.length - (intOf s12).toNat)
      case atStart => exact ⟨0, _, Nat.zero_le _, rfl, rfl⟩
      case round =>
        clear hk hkz hlt
        obtain ⟨k, z, hk, rfl, rfl⟩ := hrel
        by_cases hlt : k < an.length
        · obtain ⟨b, off, rfl, _, h1, h2, _, _, _⟩ := HA.out k hlt
          have hkz : (k : Int) < (an.length : Int) := by omega
          go_wp2
          any_goals (go_ret; exact ⟨.inr rfl, rfl⟩)
          go_round
          case rel => exact ⟨k + 1, _, by omega, by go_num, rfl⟩
          case measure => simp [intOf]; omega
        · have hkz : ¬ (k : Int) < (an.length : Int) := by omega
          go_wp2
          go_ret
          exact ⟨.inl rfl, rfl⟩
end Go.Proofs.Qxb6613745a
