import Derived.Test.Qxb6613745aCnt
import Derived.RangeFuncMany
import Derived.RangeFuncNested
import Derived.RangeFuncBound
import Derived.RangeFuncCalls
import Derived.RangeFuncLeaves
import Derived.RangeFuncBox
import Derived.Sort.MapsRangeIn
import Derived.Sort.KeysCollected
import Derived.OwnWalkIn
import Derived.TacticsInMore
import Derived.LoopNIn
import Derived.LoopIn
import Derived.Shelf.Abstract
import Derived.Shelf.RegionOpen
import Derived.Maps.OwnIn
set_option linter.unusedVariables false
namespace Go.Proofs.Qxb6613745a
open Go.RowKit Go.Maps Go.Sort Go.Shelf

attribute [local go_sem] Oper.semAt_some

/-- The pair's second is the map's value at its first. -/
def ValAt (D0 : DataW Unit) (p : List UInt8 × Int) : Prop := ∀ zd, D0.atKey (.string p.1) zd = .lit (.int .u64 p.2)
/-- All values have come. -/
def AllV (D0 : DataW Unit) (xs : List Int) : Prop := ∃ ps : List (List UInt8 × Int), (∀ x, x ∈ ps.map (·.1) ↔ Maps.has D0 (.string x) = true) ∧ (∀ p ∈ ps, ValAt D0 p) ∧ xs = ps.map (·.2)

set_option maxRecDepth 100000 in
set_option maxHeartbeats 1000000 in
/-- maps.Values's iterator at map[string]uint64, for every loop body. -/
theorem values1 (F : Fence) (n : Nat) (h8 : F.fn 45) (hro : F.round = none) (hn : 1 ≤ n) (l Bm b nn : Nat) (D0 : DataW Unit) (J Jx : List Int → World → Prop)
    (hY : ∀ pre x W, J pre W → pre.length < Maps.size D0 → YieldAt F (n - 1) Try.prog l #[.int .u64 x] W fun e W' =>
      (e = .returned (.bool true) ∧ J (pre ++ [x]) W' ∧ KeepsWalks W W') ∨ (e = .returned (.bool false) ∧ Jx (pre ++ [x]) W'))
    (W : World) (hJ : AbidesFrom W.heap.size J) (hm : W.cell? ⟨Bm, 0, none⟩ = some (.map (some b))) (hown : W.ownsMap Try.prog 9 (plainElem Try.prog 30) b nn D0) (h0 : J [] W) :
    CallsIn F n Try.prog 45 #[.func (.yield l) #[] #[], .pointer (some ⟨Bm, 0, none⟩)] W fun e W' => (∃ v, e = .returned v) ∧
      ((∃ xs, AllV D0 xs ∧ J xs W') ∨ (∃ pre, True ∧ Jx pre W')) := by
  refine callsIn_of_wp Try.func45 rfl h8 ?_ hro
  simp only [Try.ntmps45, List.size_toArray, List.length_cons, List.length_nil, Nat.reduceAdd, Nat.reduceSub, Array.replicate_succ, Array.replicate_zero, List.push_toArray, List.append_toArray, List.nil_append, List.cons_append]
  gi_wp2_with (first
    | (gi_at_range; refine wpListIn_range_own _ rfl _ 36 rfl 9 30 keyed9 Try.underlying36 _ b nn _ rfl hown ?_; intro w0 hrg0 hg0 hs0)
    | gi_in)
  go_frame
  gi_loopw [4] (fun _ wr => ∃ (left : Lit → Bool) (cnt : Nat) (ps : List (List UInt8 × Int)), wr.ranges Try.prog 9 (plainElem Try.prog 30) b W.heap.size nn D0 left cnt ∧ ps.length + cnt ≤ Maps.size D0 ∧ Collected D0 left (ps.map (·.1)) ∧ (∀ p ∈ ps, ValAt D0 p) ∧ J (ps.map (·.2)) wr)
    (fun _ wr => wr.rangeLeft b W.heap.size)
  case atStart =>
    exact ⟨_, _, [], hrg0, by simp, Collected.start D0, by simp, hJ [] W w0 none h0 hg0 (fun r e => by cases e)⟩
  case round =>
    obtain ⟨left, cnt, ps, hrg, hcs, hC, hV, hJs⟩ := hrel
    gi_wp2_with (first
      | (gi_at_next; refine wpListIn_next_ranges _ rfl _ rfl 9 keyed9 (plainElem Try.prog 30) encStr (Value.int .u64) (fun key kl hk => by obtain ⟨x, hx, _⟩ := Maps.keyOf_str Try.underlying9 hk; exact ⟨x, hx⟩) (fun v y hv => by obtain ⟨c, rfl, _⟩ := plainElem_int_inv Try.underlying30 hv; exact ⟨c, rfl⟩) b W.heap.size nn _ _ _ rfl hrg ?_ ?_)
      | gi_in)
    · intro hc0 hl0
      gi_wp2
      go_end0
      exact ⟨⟨_, rfl⟩, .inl ⟨_, ⟨ps, fun x => by rw [hC.2 x, hl0]; simp, hV, rfl⟩, hJs⟩⟩
    · intro x c kl yd yp w2 cnt2 hkey hlk hv hat hrg2 hlt hg2 hs2 hen
      obtain ⟨x', ex, rfl, _⟩ := Maps.keyOf_str Try.underlying9 hkey
      obtain rfl : x = x' := encStr_inj ex
      obtain ⟨c', ec, ez, _⟩ := plainElem_int_inv Try.underlying30 hv
      obtain rfl : c = c' := by simpa using ec
      obtain rfl : yd = .lit (.int .u64 c) := (Prod.mk.inj ez).1
      have hJ2 : J (ps.map (·.2)) w2 := hJ _ wr w2 (some W.heap.size) hJs hg2 (fun r e => by cases e; exact ⟨Nat.le_refl _, hrg.iter_walk⟩)
      obtain ⟨fn, tmps, assign, body, hy, hR⟩ := hY (ps.map (·.2)) c w2 hJ2 (by simp; omega)
      clear hs2
      gi_wp2
      refine hR.mono ?_
      have hC2 : Collected D0 (fun z => left z && !z.sameKey (.string x)) ((ps ++ [(x, c)]).map (·.1)) := by simpa using hC.step hlk hat
      have hV2 : ∀ p ∈ ps ++ [(x, c)], ValAt D0 p := fun p hp => (List.mem_append.1 hp).elim (hV p) (fun e => by simp at e; subst e; exact hat)
      rintro e W3 (⟨rfl, hJ3, hk3⟩ | ⟨rfl, hJx3⟩)
      · gi_wp2
        have hrg3 := hrg2.of_walks hk3
        go_roundw
        case rel => exact ⟨_, cnt2, ps ++ [(x, c)], hrg3, by simp; omega, hC2, hV2, by simpa using hJ3⟩
        case measure => rw [hrg3.left_eq, hrg.left_eq]; exact hlt
      · gi_wp2
        refine bodyPost_ret (results_none rfl _ _ _) rfl ?_
        exact ⟨⟨_, rfl⟩, .inr ⟨_, trivial, hJx3⟩⟩

theorem values_stops (F : Fence) (n : Nat) (h7 : F.fn 45) (hro : F.round = none) (hn : 1 ≤ n) (Bm b nn : Nat) (D0 : DataW Unit) (w : World) (hBm : Bm < w.heap.size)
    (hm : w.cell? ⟨Bm, 0, none⟩ = some (.map (some b))) (hown : w.ownsMap Try.prog 9 (plainElem Try.prog 30) b nn D0) :
    SeqStopsK F n Try.prog 45 #[.pointer (some ⟨Bm, 0, none⟩)] (fun c : Int => #[Value.int .u64 c]) KeepsWalks (AllV D0) (fun _ => True) (Maps.size D0) w := fun l J Jx W hW hJ _ hY h0 => by
  have hown' : W.ownsMap Try.prog 9 (plainElem Try.prog 30) b nn D0 := by
    have hbl := hown.lt
    obtain ⟨es, clock, hb, Ft, hs, hD⟩ := hown
    exact ⟨es, clock, (hW.block b hbl).trans hb, Ft, hs, hD⟩
  exact values1 F n h7 hro hn l Bm b nn D0 J Jx hY W hJ ((hW.cell (p := ⟨Bm, 0, none⟩) hBm).trans hm) hown' h0

set_option maxHeartbeats 1000000 in
/-- maps.Values. -/
theorem values40 (b : Nat) (w : World) : Calls Try.prog 40 #[.map (some b)] w fun e w' => e = .returned (.func (.func 45) #[] #[.pointer (some ⟨w.heap.size, 0, none⟩)]) ∧ w' = w.alloc (.cells #[.map (some b)] 36) := by
  go_enter Try.func40, Try.ntmps40
  go_wp2
  go_ret
  exact ⟨rfl, rfl⟩
end Go.Proofs.Qxb6613745a
