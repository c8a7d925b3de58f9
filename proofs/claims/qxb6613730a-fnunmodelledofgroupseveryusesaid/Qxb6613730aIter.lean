import Derived.RangeFuncNested
import Derived.RangeFuncBound
import Derived.RangeFuncCalls
import Derived.RangeFuncLeaves
import Derived.Shelf.Abstract
import Derived.Shelf.RegionOpen
import Derived.WalkKit
import Derived.OwnWalkIn
import Derived.TacticsInMore
import Derived.LoopNIn
import Derived.LoopIn
import Derived.Test.Qxb6613730aBase
set_option linter.unusedVariables false
namespace Go.Proofs.Qxb6613730a
open Go.RowKit Go.Shelf

attribute [local go_sem] Oper.semAt_some

/-- One pair that the iterator yields: the line; the slice of its kinds (where it lies, its capacity, what it reads as). -/
structure Use where
  line : Int
  q : Option Addr
  d : Nat
  ss : List ByteArray

/-- What the iterator reads, in blocks below n₀. -/
def UsesIn [Inhabited Use] (W : World) (n₀ : Nat) (pl pk : Option Addr) (xs : List Use) : Prop :=
  ∀ i, i < xs.length → (∃ b off, pl = some ⟨b, off, none⟩ ∧ b < n₀ ∧ W.cell? ⟨b, off + i, none⟩ = some (.int .i64 (nth xs i).line)) ∧
    (∃ b off, pk = some ⟨b, off, none⟩ ∧ b < n₀ ∧ W.cell? ⟨b, off + i, none⟩ = some (.slice (nth xs i).q (nth xs i).ss.length (nth xs i).d))

theorem UsesIn.below [Inhabited Use] {A B : World} {n₀ : Nat} {pl pk : Option Addr} {xs : List Use} (h : Below n₀ A B) (hu : UsesIn A n₀ pl pk xs) : UsesIn B n₀ pl pk xs := fun i hi => by
  obtain ⟨⟨b, off, h1, h2, h3⟩, b', off', h4, h5, h6⟩ := hu i hi
  exact ⟨⟨b, off, h1, h2, (h.cell (p := ⟨b, off + i, none⟩) h2).trans h3⟩, b', off', h4, h5, (h.cell (p := ⟨b', off' + i, none⟩) h5).trans h6⟩

/-- Within the length, or the first. -/
def cl (n i : Nat) : Nat := if i < n then i else 0
theorem cl_lt (n i : Nat) (h : i < n) : cl n i = i := if_pos h
theorem cl_bnd (n i : Nat) (h : 0 < n) : cl n i < n := by unfold cl; split <;> omega
/-- What the i-th round is handed. -/
def handed [Inhabited Use] (xs : List Use) (i : Nat) : Array Value := #[.int .i64 (nth xs (cl xs.length i)).line, .slice (nth xs (cl xs.length i)).q (nth xs (cl xs.length i)).ss.length (nth xs (cl xs.length i)).d]

/-- How a round went. -/
def Went (J Jx : List Nat → World → Prop) (n₀ : Nat) (pre : List Nat) (x : Nat) (W : World) (r : Bool) (W' : World) : Prop :=
  (r = true → J (pre ++ [x]) W' ∧ Below n₀ W W') ∧ (r = false → Jx (pre ++ [x]) W')

set_option maxRecDepth 100000 in
set_option maxHeartbeats 2000000 in
/-- ZZUnmodelledOf's closure: the pairs (lines[i], kinds[i]) in order. -/
theorem iter_in [Inhabited Use] (n : Nat) (hn : 1 ≤ n) (l BL BK n₀ : Nat) (pl pk : Option Addr) (cl nk ck : Nat) (xs : List Use) (hlen : xs.length ≤ nk) (hnk : nk ≤ maxLen) (J Jx : List Nat → World → Prop) (BJ : Nat) (hAb : AbidesFrom BJ J)
    (hY : ∀ pre x W, J pre W → pre.length < xs.length → YieldAt Fence.wide (n - 1) Try.prog l (handed xs x) W fun e W' =>
      (e = .returned (.bool true) ∧ J (pre ++ [x]) W' ∧ Below n₀ W W') ∨ (e = .returned (.bool false) ∧ Jx (pre ++ [x]) W'))
    (W : World) (hBL : W.cell? ⟨BL, 0, none⟩ = some (.slice pl xs.length cl)) (hBK : W.cell? ⟨BK, 0, none⟩ = some (.slice pk nk ck)) (bL : BL < n₀) (bK : BK < n₀) (hU : UsesIn W n₀ pl pk xs) (h0 : J [] W) :
    CallsIn Fence.wide n Try.prog 39 #[.func (.yield l) #[] #[], .pointer (some ⟨BL, 0, none⟩), .pointer (some ⟨BK, 0, none⟩)] W fun e W' => (∃ v, e = .returned v) ∧
      ((∃ ys, ys = List.range xs.length ∧ J ys W') ∨ (∃ pre, pre <+: List.range xs.length ∧ Jx pre W')) := by
  unfold maxLen at hnk
  have h39 : Fence.wide.fn 39 := trivial
  refine callsIn_of_wp Try.func39 rfl h39 ?_ rfl
  simp only [Try.ntmps39, List.size_toArray, List.length_cons, List.length_nil, Nat.reduceAdd, Nat.reduceSub, Array.replicate_succ, Array.replicate_zero, List.push_toArray, List.append_toArray, List.nil_append, List.cons_append]
  gi_wp2
  gi_loopw [7] (fun p wr => ∃ k : Nat, p = .int .i64 k ∧ k ≤ xs.length ∧ Below n₀ W wr ∧ J (List.range k) wr) (fun p _ => xs.length - (intOf p).toNat)
  case atStart => exact ⟨0, rfl, Nat.zero_le _, Below.refl _ _, h0⟩
  case round =>
    obtain ⟨k, rfl, hk, hB, hJ⟩ := hrel
    by_cases hlt : k < xs.length
    · obtain ⟨⟨b, off, rfl, hb, hc⟩, b', off', rfl, hb', hc'⟩ := hU.below hB k hlt
      have hBL' : wr.cell? ⟨BL, 0, none⟩ = some (.slice (some ⟨b, off, none⟩) xs.length cl) := (hB.cell (p := ⟨BL, 0, none⟩) bL).trans hBL
      have hBK' : wr.cell? ⟨BK, 0, none⟩ = some (.slice (some ⟨b', off', none⟩) nk ck) := (hB.cell (p := ⟨BK, 0, none⟩) bK).trans hBK
      have z1 : (k : Int) < (xs.length : Int) := by omega
      have z2 : (k : Int) < (nk : Int) := by omega
      obtain ⟨fn, tmps, assign, body, hy, hR0⟩ := hY (List.range k) k wr.drew (hAb _ _ _ none hJ ⟨rfl, rfl, rfl, Nat.le_refl _, fun _ _ _ => rfl⟩ (fun r e => by cases e)) (by rw [List.length_range]; omega)
      unfold handed at hy
      rw [cl_lt _ _ hlt] at hy
      have hR : RoundIn Fence.wide (n - 1) Try.prog l fn tmps assign body wr.drew fun e W' => ∃ r : Bool, e = .returned (.bool r) ∧ Went J Jx n₀ (List.range k) k wr.drew r W' := hR0.mono fun e W' h => by
        rcases h with ⟨h1, h2, h3⟩ | ⟨h1, h2⟩
        · exact ⟨true, h1, fun _ => ⟨h2, h3⟩, fun h => by cases h⟩
        · exact ⟨false, h1, fun h => (by cases h), fun _ => h2⟩
      clear hR0 hY
      have HT : Hid (List.range (k + 1) = List.range k ++ [k]) := List.range_succ
      have HP : Hid (List.range k ++ [k] <+: List.range xs.length) := by
        refine (?_ : List.range k ++ [k] <+: List.range xs.length)
        rw [← List.range_succ, List.prefix_iff_eq_take, List.take_range, List.length_range, Nat.min_eq_left (by omega)]
      have mixed : Try.prog.follows .mixedOrders = true := by kernel_rfl
      gi_wp2
      gi_region_with_o (refine hR.mono ?_; rintro e W3 ⟨r, rfl, hr⟩)
      all_goals
        cases r
        · have hJx3 := hr.2 rfl
          clear hr hR
          gi_wp2
          refine bodyPost_ret (results_none rfl _ _ _) rfl ?_
          exact ⟨⟨_, rfl⟩, .inr ⟨_, HP.out, hJx3⟩⟩
        · obtain ⟨hJ3, hk3⟩ := hr.1 rfl
          clear hr hR
          gi_wp2
          go_roundw
          case rel => exact ⟨k + 1, by go_num, by omega, hB.trans ((Below.refl n₀ wr).drew.trans hk3), by rw [HT.out]; exact hJ3⟩
          case measure => simp [intOf]; omega
    · gi_wp2
      go_end0
      rw [show k = xs.length by omega] at hJ
      exact ⟨⟨_, rfl⟩, .inl ⟨_, rfl, hJ⟩⟩

/-- ZZUnmodelledOf's closure, as an iterator. -/
theorem iter_stops [Inhabited Use] (n : Nat) (hn : 1 ≤ n) (BL BK n₀ : Nat) (pl pk : Option Addr) (cl nk ck : Nat) (xs : List Use) (hlen : xs.length ≤ nk) (hnk : nk ≤ maxLen) (w : World) (hn₀ : n₀ ≤ w.heap.size)
    (hBL : w.cell? ⟨BL, 0, none⟩ = some (.slice pl xs.length cl)) (hBK : w.cell? ⟨BK, 0, none⟩ = some (.slice pk nk ck)) (bL : BL < n₀) (bK : BK < n₀) (hU : UsesIn w n₀ pl pk xs) :
    SeqStopsK Fence.wide n Try.prog 39 #[.pointer (some ⟨BL, 0, none⟩), .pointer (some ⟨BK, 0, none⟩)] (handed xs) (Below n₀) (fun ys => ys = List.range xs.length) (fun pre => pre <+: List.range xs.length) xs.length w := fun l J Jx W hW hA _ hY h0 =>
  iter_in n hn l BL BK n₀ pl pk cl nk ck xs hlen hnk J Jx W.heap.size hA hY W ((hW.cell (p := ⟨BL, 0, none⟩) (show BL < w.heap.size by omega)).trans hBL) ((hW.cell (p := ⟨BK, 0, none⟩) (show BK < w.heap.size by omega)).trans hBK) bL bK (hU.below (hW.mono hn₀)) h0

end Go.Proofs.Qxb6613730a
