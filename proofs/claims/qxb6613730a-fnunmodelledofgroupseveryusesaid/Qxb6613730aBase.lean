import Derived.Test.Qxb6613730aRows
import Derived.WalkKit
import Derived.WalkSpells
import Derived.WalkLawsBesides
namespace Go.Proofs.Qxb6613730a
open Go.RowKit

/-- The i-th element, behind a name that the walk does not open. -/
def nth {α : Type} [Inhabited α] (l : List α) (i : Nat) : α := l[i]?.getD default

theorem nth_eq {α : Type} [Inhabited α] (l : List α) (i : Nat) (h : i < l.length) : nth l i = l[i] := by
  unfold nth; simp [h]
theorem nth_mem {α : Type} [Inhabited α] (l : List α) (i : Nat) (h : i < l.length) : nth l i ∈ l := by
  rw [nth_eq l i h]; exact List.getElem_mem h
theorem take_nth {α : Type} [Inhabited α] (l : List α) (k : Nat) (h : k < l.length) : l.take (k + 1) = l.take k ++ [nth l k] := by
  rw [List.take_succ_eq_append_getElem h, nth_eq l k h]

theorem bytesNe {x y : ByteArray} (h : x ≠ y) : (x.toList == y.toList) = false := by
  rw [beq_eq_false_iff_ne, ByteArray.toList_eq, ByteArray.toList_eq]
  exact fun e => h (ByteArray.ext (Array.toList_inj.1 e))
theorem bytesEq {x y : ByteArray} (h : x = y) : (x.toList == y.toList) = true := by simp [h]

/-- The slice value at 'p' reads, in blocks below B, as the strings ss. -/
def StrsIn (w : World) (B : Nat) (p : Option Addr) (ss : List ByteArray) : Prop :=
  ∀ j, j < ss.length → ∃ b off, p = some ⟨b, off, none⟩ ∧ b < B ∧ w.cell? ⟨b, off + j, none⟩ = some (.string (nth ss j)) ∧ (nth ss j).size ≤ maxLen
def IntsIn (w : World) (B : Nat) (p : Option Addr) (zs : List Int) : Prop :=
  ∀ j, j < zs.length → ∃ b off, p = some ⟨b, off, none⟩ ∧ b < B ∧ w.cell? ⟨b, off + j, none⟩ = some (.int .i64 (nth zs j))
def StrssIn (w : World) (B : Nat) (p : Option Addr) (kk : List (List ByteArray)) : Prop :=
  ∀ j, j < kk.length → ∃ b off q d, p = some ⟨b, off, none⟩ ∧ b < B ∧ w.cell? ⟨b, off + j, none⟩ = some (.slice q (nth kk j).length d) ∧ (nth kk j).length ≤ maxLen ∧ StrsIn w B q (nth kk j)

/-- How many uses there are in all. -/
def pairsN (kk : List (List ByteArray)) : Nat := kk.flatten.length

theorem pairsN_take_succ (kk : List (List ByteArray)) (k : Nat) (h : k < kk.length) : pairsN (kk.take (k + 1)) = pairsN (kk.take k) + (nth kk k).length := by
  unfold pairsN
  rw [take_nth kk k h]
  simp

theorem pairsN_take_le (kk : List (List ByteArray)) (k : Nat) : pairsN (kk.take k) ≤ pairsN kk := by
  unfold pairsN
  conv => rhs; rw [← List.take_append_drop k kk]
  rw [List.flatten_append, List.length_append]
  omega

set_option maxHeartbeats 400000 in
theorem sbytes (B : Nat) (p : Option Addr) (c : Nat) (ss : List ByteArray) (w : World) (hS : StrsIn w B p ss) (hn : ss.length ≤ maxLen) :
    Calls Try.prog 10 #[.slice p ss.length c] w fun e w' => (∃ t, e = .returned (.int .i64 t)) ∧ w' = w := by
  unfold maxLen at hn
  by_cases h0 : 65536 < ss.length
  · go_enter Try.func10, Try.ntmps10
    go_wp2
    go_ret
    exact ⟨⟨_, rfl⟩, rfl⟩
  · go_enter Try.func10, Try.ntmps10
    go_wp2
    go_loop [3, 13] (fun t i => ∃ k : Nat, k ≤ ss.length ∧ i = .int .i64 k ∧ ∃ z, t = .int .i64 z) (fun _ i => ss.length - (intOf i).toNat)
    case atStart => exact ⟨0, Nat.zero_le _, rfl, _, rfl⟩
    case round =>
      obtain ⟨k, hk, rfl, z, rfl⟩ := hrel
      by_cases hlt : k < ss.length
      · obtain ⟨b, off, rfl, _, hc, _⟩ := hS k hlt
        go_wp2
        · go_ret
          exact ⟨⟨_, rfl⟩, rfl⟩
        · go_round
          case rel => exact ⟨k + 1, by omega, by go_num, _, rfl⟩
          case measure => simp [intOf]; omega
      · go_wp2
        go_ret
        exact ⟨⟨_, rfl⟩, rfl⟩

set_option maxHeartbeats 400000 in
set_option maxRecDepth 100000 in
theorem ssbytes (B : Nat) (p : Option Addr) (c : Nat) (kk : List (List ByteArray)) (w : World) (hS : StrssIn w B p kk) (hn : kk.length ≤ maxLen) :
    Calls Try.prog 15 #[.slice p kk.length c] w fun e w' => (∃ t, e = .returned (.int .i64 t)) ∧ w' = w := by
  unfold maxLen at hn
  by_cases h0 : 65536 < kk.length
  · go_enter Try.func15, Try.ntmps15
    go_wp2
    go_ret
    exact ⟨⟨_, rfl⟩, rfl⟩
  · by_cases h1 : 1048576 < 24 * kk.length
    · go_enter Try.func15, Try.ntmps15
      go_wp2
      go_ret
      exact ⟨⟨_, rfl⟩, rfl⟩
    · go_enter Try.func15, Try.ntmps15
      go_wp2
      go_loop [3, 16] (fun t i => ∃ k : Nat, k ≤ kk.length ∧ i = .int .i64 k ∧ ∃ z, t = .int .i64 z) (fun _ i => kk.length - (intOf i).toNat)
      case atStart => exact ⟨0, Nat.zero_le _, rfl, _, rfl⟩
      case round =>
        obtain ⟨k, hk, rfl, z, rfl⟩ := hrel
        by_cases hlt : k < kk.length
        · obtain ⟨b, off, q, d, rfl, _, hc, hb, hq⟩ := hS k hlt
          have hcall := sbytes B q d (nth kk k) w hq hb
          clear hq hb hS
          go_wp2_with (go_at_call 10; refine hcall.mono ?_; rintro e w' ⟨⟨t, rfl⟩, rfl⟩)
          · go_ret
            exact ⟨⟨_, rfl⟩, rfl⟩
          · go_round
            case rel => exact ⟨k + 1, by omega, by go_num, _, rfl⟩
            case measure => simp [intOf]; omega
        · go_wp2
          go_ret
          exact ⟨⟨_, rfl⟩, rfl⟩

set_option maxHeartbeats 400000 in
theorem pairs_any (B : Nat) (p : Option Addr) (c : Nat) (kk : List (List ByteArray)) (w : World) (hS : StrssIn w B p kk) (hn : kk.length ≤ maxLen) (hp : pairsN kk ≤ 4096) :
    Calls Try.prog 26 #[.slice p kk.length c] w fun e w' => e = .returned (.int .i64 (pairsN kk : Nat)) ∧ w' = w := by
  unfold maxLen at hn
  go_enter Try.func26, Try.ntmps26
  go_wp2
  go_loop [3, 7] (fun t i => ∃ k : Nat, k ≤ kk.length ∧ i = .int .i64 k ∧ t = .int .i64 (pairsN (kk.take k) : Nat)) (fun _ i => kk.length - (intOf i).toNat)
  case atStart => exact ⟨0, Nat.zero_le _, rfl, rfl⟩
  case round =>
    obtain ⟨k, hk, rfl, rfl⟩ := hrel
    by_cases hlt : k < kk.length
    · obtain ⟨b, off, q, d, rfl, _, hc, _, hq⟩ := hS k hlt
      have hs := pairsN_take_succ kk k hlt
      have hs1 := pairsN_take_le kk (k + 1)
      have HS : Hid (pairsN (kk.take (k + 1)) = pairsN (kk.take k) + (nth kk k).length) := hs
      have hle : pairsN (kk.take k) + (nth kk k).length ≤ 4096 := by omega
      clear hs hs1
      go_wp2
      go_round
      case rel => exact ⟨k + 1, by omega, by go_num, by rw [HS.out]; go_num⟩
      case measure => simp [intOf]; omega
    · go_wp2
      go_ret
      rw [List.take_of_length_le (by omega)]
      exact ⟨rfl, rfl⟩

end Go.Proofs.Qxb6613730a
