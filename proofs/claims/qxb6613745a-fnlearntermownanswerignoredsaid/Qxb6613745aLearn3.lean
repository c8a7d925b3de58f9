import Derived.Test.Qxb6613745aLearn2
set_option linter.unusedVariables false
namespace Go.Proofs.Qxb6613745a
open Go.RowKit Go.Maps

set_option maxHeartbeats 1000000 in
set_option maxRecDepth 100000 in
theorem learn26 (cb : Nat) (w : World) (Q : World → Prop) (h : Calls Try.prog 31 #[.pointer (some ⟨cb, 0, none⟩)] w fun e w' => e = .returned (.tuple #[]) ∧ Q w') : Calls Try.prog 26 #[.pointer (some ⟨cb, 0, none⟩)] w fun e w' => e = .returned (.tuple #[]) ∧ Q w' := by
  go_enter Try.func26, Try.ntmps26
  go_wp2_with fail
  refine h.mono ?_
  rintro _ w1 ⟨rfl, hq⟩
  have HQ : Hid (Q w1) := hq
  clear hq h
  go_wp2
  go_end0
  exact ⟨rfl, HQ.out⟩

/-- What zzB1learn answers. -/
def L17 (w : World) (id : ByteArray) (t : Int) (an : List (ByteArray × Int)) (ms : List (ByteArray × ByteArray)) (e : Ending) (w' : World) : Prop :=
  RowKit.Below w.heap.size w w' ∧ ((enoughB id (ids an) ms = true ∧ e = .returned (.tuple #[.bool true, .int .u64 t, .map none])) ∨
    (enoughB id (ids an) ms = false ∧ ∃ b, e = .returned (.tuple #[.bool false, .int .u64 t, .map (some b)]) ∧ AMap w' b an ∧ b < w'.heap.size))

theorem eql_map (m : Option Nat) (w : World) : (binOp .eql 36 (.map m) (.map none)).run Try.prog w = .ok (.bool m.isNone) w := by
  simp only [binOp]
  simp [run_equal_map_nil w 36 9 30 m Try.underlying36]

set_option maxHeartbeats 4000000 in
set_option maxRecDepth 100000 in
theorem learn17 (id : ByteArray) (t : Int) (p q : Option Addr) (c c2 : Nat) (ms : List (ByteArray × ByteArray)) (an : List (ByteArray × Int)) (w : World) (hM : MemIn w w.heap.size p ms) (hA : AnsIn w w.heap.size q an) (n1 : p = none → ms = [] ∧ c = 0) (hT : ∀ a ∈ an, a.2 ≤ t) (b1 : ms.length ≤ 4096) (b2 : an.length ≤ 8192) :
    Calls Try.prog 17 #[.string id, .int .u64 t, .slice p ms.length c, .slice q an.length c2] w (L17 w id t an ms) := by
  have HM : Hid (MemIn w w.heap.size p ms) := hM
  have HA : Hid (AnsIn w w.heap.size q an) := hA
  have HT : Hid (∀ a ∈ an, a.2 ≤ t) := hT
  have N1 : Hid (p = none → ms = [] ∧ c = 0) := n1
  clear hM hA n1 hT
  go_enter Try.func17, Try.ntmps17
  go_wp2_with fail
  refine (toCluster p c ms w HM.out N1.out b1).mono ?_
  rintro _ W1 ⟨hB1, p1, c1, rfl, hn1, hM1⟩
  have HB1 : Hid (RowKit.Below w.heap.size w W1) := hB1
  have HM1 : Hid (MemIn W1 W1.heap.size p1 ms) := hM1
  have HN1 : Hid (p1 = none → ms = [] ∧ c1 = 0) := hn1
  clear hB1 hM1 hn1
  go_wp2_with fail
  refine (answerMap q c2 an W1 ((HA.out.below HB1.out).mono HB1.out.size) b2).mono ?_
  rintro _ W2 ⟨hB2, b, rfl, hb2, hbl2, hA2⟩
  have HB2 : Hid (RowKit.Below W1.heap.size W1 W2) := hB2
  have HA2 : Hid (AMap W2 b an) := hA2
  clear hB2 hA2
  go_wp2_with fail
  refine (newCore id t p1 ms.length c1 b W2).mono ?_
  rintro _ W3 ⟨rfl, hB3, hC3⟩
  have HB3 : Hid (RowKit.Below W2.heap.size W2 W3) := hB3
  have HC3 : Hid (CoreAt W3 W2.heap.size id t p1 ms.length c1 (.map (some b))) := hC3
  have HM3 : Hid (MemIn W3 W3.heap.size p1 ms) := (((HM1.out.below HB2.out).mono HB2.out.size).below HB3.out).mono HB3.out.size
  have HA3 : Hid (AMap W3 b an) := HA2.out.below HB3.out
  have HBW : Hid (RowKit.Below w.heap.size w W3) := HB1.out.trans ((HB2.out.mono HB1.out.size).trans (HB3.out.mono (Nat.le_trans HB1.out.size HB2.out.size)))
  have hw2 : w.heap.size ≤ W2.heap.size := Nat.le_trans HB1.out.size HB2.out.size
  clear hB3 hC3
  go_wp2_with fail
  refine (learn26 W2.heap.size W3 _ (learnTerm W2.heap.size b id t p1 c1 ms an W3 HC3.out HM3.out HN1.out HA3.out HA.out.ok HT.out b1 b2)).mono ?_
  rintro _ W4 ⟨rfl, h4⟩
  rcases h4 with ⟨hE, hB4⟩ | ⟨hE, w9, hB9, hw9⟩
  · have HE : Hid (enoughB id (ids an) ms = false) := hE
    have HB4 : Hid (RowKit.Below W3.heap.size W3 W4) := hB4
    have HC4 : Hid (CoreAt W4 W2.heap.size id t p1 ms.length c1 (.map (some b))) := HC3.out.below hB4
    have HP : Hid (L17 w id t an ms (.returned (.tuple #[.bool false, .int .u64 t, .map (some b)])) W4) := ⟨HBW.out.trans (hB4.mono HBW.out.size), .inr ⟨hE, b, rfl, HA3.out.below hB4, World.ownsMap.lt (HA3.out.below hB4)⟩⟩
    have heq := eql_map (some b) W4
    clear hE hB4
    go_wp2_with fail
    refine (answers27 W2.heap.size id t p1 ms.length c1 (.map (some b)) (.inr ⟨b, rfl⟩) W4 HC4.out).mono ?_
    rintro _ W5 ⟨rfl, hw5⟩
    have hw5 := hw5.symm
    subst hw5
    go_wp2_with fail
    refine (term28 W2.heap.size id t p1 ms.length c1 (.map (some b)) W4 HC4.out).mono ?_
    rintro _ W5 ⟨rfl, hw5⟩
    have hw5 := hw5.symm
    subst hw5
    go_wp2
    refine bodyPost_ret (results_tmp3 rfl _ _ _) rfl ?_
    exact HP.out
  · replace hw9 := hw9.symm
    have HC9 : Hid (CoreAt W4 W2.heap.size id t p1 ms.length c1 (.map none)) := by
      refine (?_ : CoreAt _ _ _ _ _ _ _ _)
      rw [← hw9]; exact (HC3.out.below hB9).clear
    have HP : Hid (L17 w id t an ms (.returned (.tuple #[.bool true, .int .u64 t, .map none])) W4) := by
      refine ⟨?_, .inl ⟨hE, rfl⟩⟩
      rw [← hw9]
      exact (HBW.out.trans (hB9.mono HBW.out.size)).setCell hw2 _
    have heq := eql_map none W4
    clear hE hB9 hw9
    go_wp2_with fail
    refine (answers27 W2.heap.size id t p1 ms.length c1 (.map none) (.inl rfl) W4 HC9.out).mono ?_
    rintro _ W5 ⟨rfl, hw5⟩
    have hw5 := hw5.symm
    subst hw5
    go_wp2_with fail
    refine (term28 W2.heap.size id t p1 ms.length c1 (.map none) W4 HC9.out).mono ?_
    rintro _ W5 ⟨rfl, hw5⟩
    have hw5 := hw5.symm
    subst hw5
    go_wp2
    refine bodyPost_ret (results_tmp3 rfl _ _ _) rfl ?_
    exact HP.out
end Go.Proofs.Qxb6613745a
