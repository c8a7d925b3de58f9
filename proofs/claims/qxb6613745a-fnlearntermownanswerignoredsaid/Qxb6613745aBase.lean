import Derived.Test.Qxb6613745aRows
import Derived.WalkKit
import Derived.WalkSpells
import Derived.WalkLawsBesides
import Derived.Deep.QuietTactic
import Derived.BigQuiet
set_option linter.unusedVariables false
namespace Go.Proofs.Qxb6613745a
open Go.RowKit

/-- The i-th element, behind a name that the walk does not open. -/
def nth {α : Type} [Inhabited α] (l : List α) (i : Nat) : α := l[i]?.getD default

theorem nth_eq {α : Type} [Inhabited α] (l : List α) (i : Nat) (h : i < l.length) : nth l i = l[i] := by
  unfold nth; simp [h]
theorem nth_mem {α : Type} [Inhabited α] (l : List α) (i : Nat) (h : i < l.length) : nth l i ∈ l := by
  rw [nth_eq l i h]; exact List.getElem_mem h
theorem take_nth {α : Type} [Inhabited α] (l : List α) (k : Nat) (h : k < l.length) : l.take (k + 1) = l.take k ++ [nth l k] := by
  rw [List.take_succ_eq_append_getElem h, nth_eq l k h]
theorem bytesNe {x y : ByteArray} (h : x ≠ y) : (x.toList == y.toList) = false := by
  rw [beq_eq_false_iff_ne, ByteArray.toList_eq, ByteArray.toList_eq]
  exact fun e => h (ByteArray.ext (Array.toList_inj.1 e))
theorem bytesEq {x y : ByteArray} (h : x = y) : (x.toList == y.toList) = true := by simp [h]

/-- The slice at 'p' reads, in blocks below B, as the members ms: two strings each. -/
def MemIn (w : World) (B : Nat) (p : Option Addr) (ms : List (ByteArray × ByteArray)) : Prop :=
  ∀ j, j < ms.length → ∃ b off, p = some ⟨b, off, none⟩ ∧ b < B ∧ w.cell? ⟨b, off + j * 2, none⟩ = some (.string (nth ms j).1) ∧ w.cell? ⟨b, off + j * 2 + 1, none⟩ = some (.string (nth ms j).2) ∧ (nth ms j).1.size ≤ maxLen ∧ (nth ms j).2.size ≤ maxLen
/-- .. as the answers: a string and a uint64 each. -/
def AnsIn (w : World) (B : Nat) (p : Option Addr) (an : List (ByteArray × Int)) : Prop :=
  ∀ j, j < an.length → ∃ b off, p = some ⟨b, off, none⟩ ∧ b < B ∧ w.cell? ⟨b, off + j * 2, none⟩ = some (.string (nth an j).1) ∧ w.cell? ⟨b, off + j * 2 + 1, none⟩ = some (.int .u64 (nth an j).2) ∧ (nth an j).1.size ≤ maxLen ∧ 0 ≤ (nth an j).2 ∧ (nth an j).2 ≤ 18446744073709551615

def SomeInt (e : Ending) : Prop := ∃ t, e = .returned (.int .i64 t)
def SomeBool (e : Ending) : Prop := e = .returned (.bool true) ∨ e = .returned (.bool false)

set_option maxHeartbeats 400000 in
/-- zzB1add. -/
theorem add_any (a n : Int) (w : World) : Calls Try.prog 8 #[.int .i64 a, .int .i64 n] w fun e w' => SomeInt e ∧ w' = w := by
  by_cases h : 1048576 < a
  · go_enter Try.func8, Try.ntmps8
    go_wp2
    go_ret
    exact ⟨⟨_, rfl⟩, rfl⟩
  · go_enter Try.func8, Try.ntmps8
    go_wp2
    · go_ret
      exact ⟨⟨_, rfl⟩, rfl⟩
    · go_ret
      exact ⟨⟨_, rfl⟩, rfl⟩

set_option maxHeartbeats 400000 in
set_option maxRecDepth 100000 in
/-- zzB1membersSize. -/
theorem membersSize (B : Nat) (p : Option Addr) (c : Nat) (ms : List (ByteArray × ByteArray)) (a : Int) (w : World) (hM : MemIn w B p ms) (hn : ms.length ≤ 4096) :
    Calls Try.prog 9 #[.int .i64 a, .slice p ms.length c] w fun e w' => SomeInt e ∧ w' = w := by
  have hcall := fun x y => add_any x y w
  go_enter Try.func9, Try.ntmps9
  go_wp2_with (go_at_call 8; refine (hcall _ _).mono ?_; rintro e w' ⟨⟨t, rfl⟩, rfl⟩)
  go_loop [0, 5] (fun s0 s5 => ∃ (k : Nat) (z : Int), k ≤ ms.length ∧ s5 = .int .i64 k ∧ s0 = .int .i64 z) (fun _ s5 => ms.length - (intOf s5).toNat)
  case atStart => exact ⟨0, t, Nat.zero_le _, rfl, rfl⟩
  case round =>
    obtain ⟨k, z, hk, rfl, rfl⟩ := hrel
    by_cases hlt : k < ms.length
    · obtain ⟨b, off, rfl, _, h1, h2, _, _⟩ := hM k hlt
      have hkz : (k : Int) < (ms.length : Int) := by omega
      by_cases hz : 1048576 < z
      · go_wp2
        go_ret
        exact ⟨⟨_, rfl⟩, rfl⟩
      · go_wp2_with (go_at_call 8; refine (hcall _ _).mono ?_; rintro e w' ⟨⟨t, rfl⟩, rfl⟩)
        go_round
        case rel => exact ⟨k + 1, _, by omega, by go_num, rfl⟩
        case measure => simp [intOf]; omega
    · have hkz : ¬ (k : Int) < (ms.length : Int) := by omega
      go_wp2
      go_ret
      exact ⟨⟨_, rfl⟩, rfl⟩

set_option maxHeartbeats 400000 in
set_option maxRecDepth 100000 in
/-- zzB1answersSize. -/
theorem answersSize (B : Nat) (p : Option Addr) (c : Nat) (an : List (ByteArray × Int)) (a : Int) (w : World) (hM : AnsIn w B p an) (hn : an.length ≤ 8192) :
    Calls Try.prog 14 #[.int .i64 a, .slice p an.length c] w fun e w' => SomeInt e ∧ w' = w := by
  have hcall := fun x y => add_any x y w
  go_enter Try.func14, Try.ntmps14
  go_wp2_with (go_at_call 8; refine (hcall _ _).mono ?_; rintro e w' ⟨⟨t, rfl⟩, rfl⟩)
  go_loop [0, 5] (fun s0 s5 => ∃ (k : Nat) (z : Int), k ≤ an.length ∧ s5 = .int .i64 k ∧ s0 = .int .i64 z) (fun _ s5 => an.length - (intOf s5).toNat)
  case atStart => exact ⟨0, t, Nat.zero_le _, rfl, rfl⟩
  case round =>
    obtain ⟨k, z, hk, rfl, rfl⟩ := hrel
    by_cases hlt : k < an.length
    · obtain ⟨b, off, rfl, _, h1, h2, _, _, _⟩ := hM k hlt
      have hkz : (k : Int) < (an.length : Int) := by omega
      by_cases hz : 1048576 < z
      · go_wp2
        go_ret
        exact ⟨⟨_, rfl⟩, rfl⟩
      · go_wp2_with (go_at_call 8; refine (hcall _ _).mono ?_; rintro e w' ⟨⟨t, rfl⟩, rfl⟩)
        go_round
        case rel => exact ⟨k + 1, _, by omega, by go_num, rfl⟩
        case measure => simp [intOf]; omega
    · have hkz : ¬ (k : Int) < (an.length : Int) := by omega
      go_wp2
      go_ret
      exact ⟨⟨_, rfl⟩, rfl⟩

set_option maxHeartbeats 400000 in
set_option maxRecDepth 100000 in
/-- zzB1allAtMost. -/
theorem allAtMost (B : Nat) (p : Option Addr) (c : Nat) (an : List (ByteArray × Int)) (t : Int) (w : World) (hM : AnsIn w B p an) (hn : an.length ≤ 8192) :
    Calls Try.prog 15 #[.slice p an.length c, .int .u64 t] w fun e w' => e = .returned (.bool (decide (∀ a ∈ an, a.2 ≤ t))) ∧ w' = w := by
  go_enter Try.func15, Try.ntmps15
  go_wp2
  go_loop [5] (fun s5 => ∃ (k : Nat), k ≤ an.length ∧ s5 = .int .i64 k ∧ ∀ a ∈ an.take k, a.2 ≤ t) (fun s5 => an.length - (intOf s5).toNat)
  case atStart => exact ⟨0, Nat.zero_le _, rfl, fun a ha => absurd ha (by simp)⟩
  case round =>
    obtain ⟨k, hk, rfl, hall⟩ := hrel
    have HA : Hid (∀ a ∈ an.take k, a.2 ≤ t) := hall
    clear hall
    by_cases hlt : k < an.length
    · obtain ⟨b, off, rfl, _, h1, h2, _, _, _⟩ := hM k hlt
      have hkz : (k : Int) < (an.length : Int) := by omega
      have HT : Hid (an.take (k + 1) = an.take k ++ [nth an k]) := take_nth an k hlt
      by_cases hz : t < (nth an k).2
      · have HF : Hid (decide (∀ a ∈ an, a.2 ≤ t) = false) := decide_eq_false (fun h => by have := h _ (nth_mem an k hlt); omega)
        go_wp2
        go_ret
        exact ⟨congrArg (fun b => Ending.returned (Value.bool b)) HF.out.symm, rfl⟩
      · have HN : Hid (∀ a ∈ an.take (k + 1), a.2 ≤ t) := fun a ha => by
          rw [HT.out] at ha
          rcases List.mem_append.1 ha with h | h
          · exact HA.out a h
          · simp at h; subst h; omega
        go_wp2
        go_round
        case rel => exact ⟨k + 1, by omega, by go_num, HN.out⟩
        case measure => simp [intOf]; omega
    · have hkz : ¬ (k : Int) < (an.length : Int) := by omega
      have HF : Hid (decide (∀ a ∈ an, a.2 ≤ t) = true) := decide_eq_true (by have := HA.out; rwa [List.take_of_length_le (by omega)] at this)
      go_wp2
      go_ret
      exact ⟨congrArg (fun b => Ending.returned (Value.bool b)) HF.out.symm, rfl⟩

def ids (an : List (ByteArray × Int)) : List ByteArray := an.map Prod.fst
/-- Is there an answer of id? -/
def isIn (id : ByteArray) : List ByteArray → Bool
  | [] => false
  | x :: r => if x = id then true else isIn id r
theorem isIn_iff (id : ByteArray) : ∀ l, isIn id l = true ↔ id ∈ l
  | [] => by simp [isIn]
  | x :: r => by
    unfold isIn
    by_cases h : x = id
    · simp [h]
    · have h' : ¬ id = x := fun e => h e.symm
      simp [h, h', isIn_iff id r]

set_option maxHeartbeats 400000 in
set_option maxRecDepth 100000 in
/-- zzB1answered. -/
theorem answered (B : Nat) (p : Option Addr) (c : Nat) (an : List (ByteArray × Int)) (id : ByteArray) (w : World) (hM : AnsIn w B p an) (hn : an.length ≤ 8192) :
    Calls Try.prog 29 #[.string id, .slice p an.length c] w fun e w' => e = .returned (.bool (isIn id (ids an))) ∧ w' = w := by
  go_enter Try.func29, Try.ntmps29
  go_wp2
  go_loop [5] (fun s5 => ∃ (k : Nat), k ≤ an.length ∧ s5 = .int .i64 k ∧ id ∉ ids (an.take k)) (fun s5 => an.length - (intOf s5).toNat)
  case atStart => exact ⟨0, Nat.zero_le _, rfl, by simp [ids]⟩
  case round =>
    obtain ⟨k, hk, rfl, hall⟩ := hrel
    have HA : Hid (id ∉ ids (an.take k)) := hall
    clear hall
    by_cases hlt : k < an.length
    · obtain ⟨b, off, rfl, _, h1, h2, _, _, _⟩ := hM k hlt
      have hkz : (k : Int) < (an.length : Int) := by omega
      have HT : Hid (an.take (k + 1) = an.take k ++ [nth an k]) := take_nth an k hlt
      by_cases he : (nth an k).1 = id
      · have hb := bytesEq he
        have HF : Hid (isIn id (ids an) = true) := (isIn_iff _ _).2 (by rw [← he]; exact List.mem_map_of_mem (nth_mem an k hlt))
        rw [he] at h1
        clear he hb
        go_wp2
        go_ret
        exact ⟨congrArg (fun b => Ending.returned (Value.bool b)) HF.out.symm, rfl⟩
      · have hb := bytesNe he
        have HN : Hid (id ∉ ids (an.take (k + 1))) := by
          refine (?_ : ¬ _)
          rw [HT.out]
          unfold ids
          rw [List.map_append, List.mem_append]
          rintro (h | h)
          · exact HA.out h
          · simp at h; exact he h.symm
        clear he
        go_wp2
        go_round
        case rel => exact ⟨k + 1, by omega, by go_num, HN.out⟩
        case measure => simp [intOf]; omega
    · have hkz : ¬ (k : Int) < (an.length : Int) := by omega
      have HF : Hid (isIn id (ids an) = false) := by
        refine (?_ : _ = _)
        rw [Bool.eq_false_iff]
        intro h
        have := (isIn_iff _ _).1 h
        have h2 := HA.out
        rw [List.take_of_length_le (by omega)] at h2
        exact h2 this
      go_wp2
      go_ret
      exact ⟨congrArg (fun b => Ending.returned (Value.bool b)) HF.out.symm, rfl⟩

/-- How many of the members of other names there are; how many of them have answered. -/
def othersN (id : ByteArray) : List (ByteArray × ByteArray) → Nat
  | [] => 0
  | m :: r => (if m.1 = id then 0 else 1) + othersN id r
def countN (id : ByteArray) (ks : List ByteArray) : List (ByteArray × ByteArray) → Nat
  | [] => 0
  | m :: r => (if m.1 = id then 0 else if isIn m.1 ks then 1 else 0) + countN id ks r
theorem othersN_append (id : ByteArray) : ∀ l r, othersN id (l ++ r) = othersN id l + othersN id r
  | [], r => by simp [othersN]
  | m :: l, r => by rw [List.cons_append, othersN, othersN, othersN_append id l r]; omega
theorem countN_append (id : ByteArray) (ks : List ByteArray) : ∀ l r, countN id ks (l ++ r) = countN id ks l + countN id ks r
  | [], r => by simp [countN]
  | m :: l, r => by rw [List.cons_append, countN, countN, countN_append id ks l r]; omega
theorem othersN_le (id : ByteArray) : ∀ l, othersN id l ≤ l.length
  | [] => Nat.le_refl _
  | m :: l => by have := othersN_le id l; rw [othersN, List.length_cons]; split <;> omega
theorem countN_le (id : ByteArray) (ks : List ByteArray) : ∀ l, countN id ks l ≤ othersN id l
  | [] => Nat.le_refl _
  | m :: l => by have := countN_le id ks l; rw [countN, othersN]; split <;> (try split) <;> omega
/-- zzB1enough's answer. -/
def enoughB (id : ByteArray) (ks : List ByteArray) (ms : List (ByteArray × ByteArray)) : Bool := decide (ms.length ≤ 2 * countN id ks ms ∨ countN id ks ms = othersN id ms)

set_option maxHeartbeats 1000000 in
set_option maxRecDepth 100000 in
/-- zzB1enough. -/
theorem enough (B : Nat) (p q : Option Addr) (c c2 : Nat) (an : List (ByteArray × Int)) (ms : List (ByteArray × ByteArray)) (id : ByteArray) (w : World) (hM : MemIn w B p ms) (hA : AnsIn w B q an) (hm : ms.length ≤ 4096) (hn : an.length ≤ 8192) :
    Calls Try.prog 19 #[.string id, .slice p ms.length c, .slice q an.length c2] w fun e w' => e = .returned (.bool (enoughB id (ids an) ms)) ∧ w' = w := by
  have HM : Hid (MemIn w B p ms) := hM
  have HA : Hid (AnsIn w B q an) := hA
  clear hM hA
  go_enter Try.func19, Try.ntmps19
  go_wp2
  go_loop [7, 8, 9] (fun s7 s8 s9 => ∃ (k : Nat), k ≤ ms.length ∧ s9 = .int .i64 k ∧ s7 = .int .i64 (othersN id (ms.take k) : Nat) ∧ s8 = .int .i64 (countN id (ids an) (ms.take k) : Nat)) (fun _ _ s9 => ms.length - (intOf s9).toNat)
  case atStart => exact ⟨0, Nat.zero_le _, rfl, rfl, rfl⟩
  case round =>
    obtain ⟨k, hk, rfl, rfl, rfl⟩ := hrel
    have b1 := othersN_le id (ms.take k)
    have b2 := countN_le id (ids an) (ms.take k)
    rw [List.length_take] at b1
    by_cases hlt : k < ms.length
    · have hkz : (k : Int) < (ms.length : Int) := by omega
      obtain ⟨b, off, rfl, _, h1, h2, _, _⟩ := HM.out k hlt
      have HT : Hid (ms.take (k + 1) = ms.take k ++ [nth ms k]) := take_nth ms k hlt
      by_cases he : (nth ms k).1 = id
      · have HO : Hid (othersN id (ms.take (k + 1)) = othersN id (ms.take k)) := by
          refine (?_ : _ = _)
          rw [HT.out, othersN_append]; simp [othersN, he]
        have HC : Hid (countN id (ids an) (ms.take (k + 1)) = countN id (ids an) (ms.take k)) := by
          refine (?_ : _ = _)
          rw [HT.out, countN_append]; simp [countN, he]
        rw [he] at h1
        clear he
        go_wp2
        go_round
        case rel => exact ⟨k + 1, by omega, by go_num, by rw [HO.out], by rw [HC.out]⟩
        case measure => simp [intOf]; omega
      · have hb := bytesNe he
        have HO : Hid (othersN id (ms.take (k + 1)) = othersN id (ms.take k) + 1) := by
          refine (?_ : _ = _)
          rw [HT.out, othersN_append]; simp [othersN, he]
        cases hi : isIn (nth ms k).1 (ids an) with
        | true =>
          have HC : Hid (countN id (ids an) (ms.take (k + 1)) = countN id (ids an) (ms.take k) + 1) := by
            refine (?_ : _ = _)
            rw [HT.out, countN_append]; simp [countN, he, hi]
          have HI : Hid (isIn (nth ms k).1 (ids an) = true) := hi
          clear he hi
          go_wp2_with (go_at_call 29; refine (answered B q c2 an (nth ms k).1 w HA.out hn).mono ?_; rintro _ w9 ⟨rfl, hw9⟩; have hw9 := hw9.symm; subst hw9; rw [HI.out])
          go_round
          case rel => exact ⟨k + 1, by omega, by go_num, by rw [HO.out]; go_num, by rw [HC.out]; go_num⟩
          case measure => simp [intOf]; omega
        | false =>
          have HC : Hid (countN id (ids an) (ms.take (k + 1)) = countN id (ids an) (ms.take k)) := by
            refine (?_ : _ = _)
            rw [HT.out, countN_append]; simp [countN, he, hi]
          have HI : Hid (isIn (nth ms k).1 (ids an) = false) := hi
          clear he hi
          go_wp2_with (go_at_call 29; refine (answered B q c2 an (nth ms k).1 w HA.out hn).mono ?_; rintro _ w9 ⟨rfl, hw9⟩; have hw9 := hw9.symm; subst hw9; rw [HI.out])
          go_round
          case rel => exact ⟨k + 1, by omega, by go_num, by rw [HO.out]; go_num, by rw [HC.out]⟩
          case measure => simp [intOf]; omega
    · have hkz : ¬ (k : Int) < (ms.length : Int) := by omega
      rw [List.take_of_length_le (by omega)] at *
      have HE : Hid (enoughB id (ids an) ms = decide (ms.length ≤ 2 * countN id (ids an) ms ∨ countN id (ids an) ms = othersN id ms)) := (rfl : _ = _)
      generalize countN id (ids an) ms = cn at *
      generalize othersN id ms = on at *
      by_cases h1 : ms.length ≤ 2 * cn
      · have h1z : (ms.length : Int) ≤ 2 * (cn : Int) := by omega
        go_wp2
        go_ret
        exact ⟨congrArg (fun b => Ending.returned (Value.bool b)) (HE.out.trans (decide_eq_true (.inl h1))).symm, rfl⟩
      · have h1z : ¬ (ms.length : Int) ≤ 2 * (cn : Int) := by omega
        by_cases h2 : cn = on
        · subst h2
          go_wp2
          go_ret
          exact ⟨congrArg (fun b => Ending.returned (Value.bool b)) (HE.out.trans (decide_eq_true (by simp))).symm, rfl⟩
        · have h2z : ((cn : Int) == (on : Int)) = false := by rw [beq_eq_false_iff_ne]; omega
          go_wp2
          go_ret
          exact ⟨congrArg (fun b => Ending.returned (Value.bool b)) (HE.out.trans (decide_eq_false (by omega))).symm, rfl⟩
end Go.Proofs.Qxb6613745a
