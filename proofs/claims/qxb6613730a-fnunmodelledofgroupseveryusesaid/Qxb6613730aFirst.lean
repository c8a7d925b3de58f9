import Derived.Test.Qxb6613730aBase
namespace Go.Proofs.Qxb6613730a
open Go.RowKit

/-- The place of the first m in l. -/
def firstAt (m : ByteArray) : List ByteArray → Option Nat
  | [] => none
  | x :: r => if x = m then some 0 else (firstAt m r).map (· + 1)
/-- .. or -1. -/
def firstUse (l : List ByteArray) (m : ByteArray) : Int :=
  match firstAt m l with
  | some i => (i : Nat)
  | none => -1

theorem firstAt_none : ∀ (l : List ByteArray) (m : ByteArray), m ∉ l → firstAt m l = none
  | [], _, _ => rfl
  | x :: r, m, h => by
    have hx : x ≠ m := fun e => h (by simp [e])
    simp [firstAt, hx, firstAt_none r m (fun e => h (by simp [e]))]
theorem firstAt_hit : ∀ (l r : List ByteArray) (m : ByteArray), m ∉ l → firstAt m (l ++ m :: r) = some l.length
  | [], _, _, _ => by simp [firstAt]
  | x :: l, r, m, h => by
    have hx : x ≠ m := fun e => h (by simp [e])
    simp [firstAt, hx, firstAt_hit l r m (fun e => h (by simp [e]))]
theorem firstUse_none (l : List ByteArray) (m : ByteArray) (h : m ∉ l) : firstUse l m = -1 := by simp [firstUse, firstAt_none l m h]
theorem firstUse_hit (l r : List ByteArray) (m : ByteArray) (h : m ∉ l) : firstUse (l ++ m :: r) m = (l.length : Nat) := by
  simp [firstUse, firstAt_hit l r m h]

/-- What the flattened list is, cut at row k, place j. -/
theorem flatten_cut (kk : List (List ByteArray)) (k j : Nat) (hk : k < kk.length) (hj : j < (nth kk k).length) :
    kk.flatten = ((kk.take k).flatten ++ (nth kk k).take j) ++ nth (nth kk k) j :: ((nth kk k).drop (j + 1) ++ (kk.drop (k + 1)).flatten) := by
  have h1 : kk = kk.take k ++ nth kk k :: kk.drop (k + 1) := by
    rw [nth_eq kk k hk]; simp
  have h2 : nth kk k = (nth kk k).take j ++ nth (nth kk k) j :: (nth kk k).drop (j + 1) := by
    rw [nth_eq (nth kk k) j hj]; simp
  conv => lhs; rw [h1]
  rw [List.flatten_append, List.flatten_cons]
  conv => lhs; rw [h2]
  simp

theorem flatten_take_row (kk : List (List ByteArray)) (k : Nat) (hk : k < kk.length) : (kk.take (k + 1)).flatten = (kk.take k).flatten ++ (nth kk k).take (nth kk k).length := by
  rw [take_nth kk k hk]; simp

theorem flatten_take_len (kk : List (List ByteArray)) (k : Nat) : ((kk.take k).flatten).length ≤ pairsN kk := pairsN_take_le kk k

set_option maxHeartbeats 800000 in
set_option maxRecDepth 100000 in
theorem firstUse_any (B : Nat) (p : Option Addr) (c : Nat) (kk : List (List ByteArray)) (m : ByteArray) (w : World) (hS : StrssIn w B p kk) (hn : kk.length ≤ maxLen) (hp : pairsN kk ≤ 4096) :
    Calls Try.prog 25 #[.slice p kk.length c, .string m] w fun e w' => e = .returned (.int .i64 (firstUse kk.flatten m)) ∧ w' = w := by
  unfold maxLen at hn
  go_enter Try.func25, Try.ntmps25
  go_wp2
  go_loop [5, 10] (fun t i => ∃ k : Nat, k ≤ kk.length ∧ i = .int .i64 k ∧ m ∉ (kk.take k).flatten ∧ t = .int .i64 ((kk.take k).flatten.length : Nat)) (fun _ i => kk.length - (intOf i).toNat)
  case atStart => exact ⟨0, Nat.zero_le _, rfl, by simp, rfl⟩
  case round =>
    obtain ⟨k, hk, rfl, hno, rfl⟩ := hrel
    have HNO : Hid (m ∉ (kk.take k).flatten) := hno
    clear hno
    by_cases hlt : k < kk.length
    · obtain ⟨b, off, q, d, rfl, _, hc, hb, hq⟩ := hS k hlt
      have hrow := pairsN_take_le kk (k + 1)
      rw [pairsN_take_succ kk k hlt] at hrow
      have hfl : ((kk.take k).flatten).length + (nth kk k).length ≤ 4096 := Nat.le_trans hrow hp
      generalize hfg : ((kk.take k).flatten).length = fl at *
      have HF : Hid (((kk.take k).flatten).length = fl) := hfg
      clear hfg hrow
      go_wp2
      go_loop [5, 18] (fun t i => ∃ j : Nat, j ≤ (nth kk k).length ∧ i = .int .i64 j ∧ m ∉ (kk.take k).flatten ++ (nth kk k).take j ∧ t = .int .i64 (fl + j : Nat)) (fun _ i => (nth kk k).length - (intOf i).toNat)
      case atStart => exact ⟨0, Nat.zero_le _, rfl, by simpa using HNO.out, rfl⟩
      case round =>
        obtain ⟨j, hj, rfl, hno, rfl⟩ := hrel
        have HNJ : Hid (m ∉ (kk.take k).flatten ++ (nth kk k).take j) := hno
        clear hno
        by_cases hlt' : j < (nth kk k).length
        · obtain ⟨b', off', rfl, _, hc', _⟩ := hq j hlt'
          by_cases heq : nth (nth kk k) j = m
          · have hfin : Hid (firstUse kk.flatten m = ((fl + j : Nat) : Int)) := by
              refine (?_ : firstUse kk.flatten m = ((fl + j : Nat) : Int))
              rw [flatten_cut kk k j hlt hlt', heq, firstUse_hit _ _ _ HNJ.out, List.length_append, HF.out, List.length_take, Nat.min_eq_left hj]
            rw [heq] at hc'
            clear heq
            go_wp2
            go_ret
            rw [hfin.out]
            exact ⟨by go_num, rfl⟩
          · have hne : Hid (m ∉ (kk.take k).flatten ++ (nth kk k).take (j + 1)) := by
              refine (?_ : m ∉ (kk.take k).flatten ++ (nth kk k).take (j + 1))
              rw [take_nth _ j hlt', ← List.append_assoc, List.mem_append]
              exact fun h => h.elim HNJ.out (fun h => heq (List.mem_singleton.1 h).symm)
            have hbf : ((nth (nth kk k) j).toList == m.toList) = false := (bytesNe heq)
            clear heq
            go_wp2
            go_round
            case rel => exact ⟨j + 1, by omega, by go_num, hne.out, by go_num⟩
            case measure => simp [intOf]; omega
        · have hjj : j = (nth kk k).length := by omega
          have hrel' : Hid (m ∉ (kk.take (k + 1)).flatten ∧ fl + j = ((kk.take (k + 1)).flatten).length) := by
            refine (?_ : m ∉ (kk.take (k + 1)).flatten ∧ fl + j = ((kk.take (k + 1)).flatten).length)
            rw [flatten_take_row kk k hlt, ← hjj]
            exact ⟨HNJ.out, by rw [List.length_append, HF.out, List.length_take]; omega⟩
          clear hjj
          go_wp2
          go_round
          case rel => exact ⟨k + 1, by omega, by go_num, hrel'.out.1, by rw [← hrel'.out.2]⟩
          case measure => simp [intOf]; omega
    · have hkk : kk.take k = kk := List.take_of_length_le (by omega)
      have hfin : Hid (firstUse kk.flatten m = -1) := firstUse_none _ _ (by have := HNO.out; rwa [hkk] at this)
      clear hkk
      go_wp2
      go_ret
      rw [hfin.out]
      exact ⟨rfl, rfl⟩

end Go.Proofs.Qxb6613730a
