import Derived.Test.Qxb6613745aMore
set_option linter.unusedVariables false
namespace Go.Proofs.Qxb6613745a
open Go.RowKit Go.Maps

theorem one_answer (W : World) (id : ByteArray) (t : Int) (hs : id.size ≤ maxLen) (h0 : 0 ≤ t) (h1 : t ≤ 18446744073709551615) : AnsIn (W.alloc (.cells #[.string id, .int .u64 t] 43)) (W.alloc (.cells #[.string id, .int .u64 t] 43)).heap.size (some ⟨W.heap.size, 0, none⟩) [(id, t)] := by
  intro j hj
  have : j = 0 := by simp at hj; omega
  subst this
  exact ⟨W.heap.size, 0, rfl, by simp, by simp [nth], by simp [nth], hs, h0, h1⟩

set_option maxHeartbeats 16000000 in
set_option maxRecDepth 100000 in
theorem own_w (id : ByteArray) (t : Int) (p q : Option Addr) (c c2 : Nat) (t2 : Int) (ms : List (ByteArray × ByteArray)) (an : List (ByteArray × Int)) (w : World) (hM : MemIn w w.heap.size p ms) (hA : AnsIn w w.heap.size q an)
    (n1 : p = none → ms = [] ∧ c = 0) (n2 : q = none → an = [] ∧ c2 = 0) (b1 : ms.length ≤ maxLen) (b2 : an.length ≤ maxLen) (hid : id.size ≤ maxLen) (ht0 : 0 ≤ t2) (ht1 : t2 ≤ 18446744073709551615) :
    Calls Try.prog 6 #[.string id, .int .u64 t, .slice p ms.length c, .slice q an.length c2, .int .u64 t2] w fun e w' => e = .returned (.bool true) ∧ RowKit.Below w.heap.size w w' := by
  have HM : Hid (MemIn w w.heap.size p ms) := hM
  have HA : Hid (AnsIn w w.heap.size q an) := hA
  have N1 : Hid (p = none → ms = [] ∧ c = 0) := n1
  have N2 : Hid (q = none → an = [] ∧ c2 = 0) := n2
  have B1 : Hid (ms.length ≤ maxLen) := b1
  have B2 : Hid (an.length ≤ maxLen) := b2
  have HID : Hid (id.size ≤ maxLen) := hid
  have HT0 : Hid (0 ≤ t2) := ht0
  have HT1 : Hid (t2 ≤ 18446744073709551615) := ht1
  unfold maxLen at b1 b2
  clear hM hA n1 n2 hid ht0 ht1
  by_cases h1 : 4096 < ms.length
  · have h1z : (4096 : Int) < ms.length := by omega
    go_enter Try.func6, Try.ntmps6
    go_wp2_with fail
    refine (bytes20 w.heap.size id t p q c c2 t2 ms an w HM.out HA.out B1.out B2.out).mono ?_
    rintro _ _ ⟨rfl | rfl, rfl⟩ <;> (go_wp2; go_ret; exact ⟨rfl, Below.refl _ _⟩)
  have h1z : ¬ (4096 : Int) < ms.length := by omega
  by_cases h2 : 4096 < an.length
  · have h2z : (4096 : Int) < an.length := by omega
    go_enter Try.func6, Try.ntmps6
    go_wp2_with fail
    refine (bytes20 w.heap.size id t p q c c2 t2 ms an w HM.out HA.out B1.out B2.out).mono ?_
    rintro _ _ ⟨rfl | rfl, rfl⟩ <;> (go_wp2; go_ret; exact ⟨rfl, Below.refl _ _⟩)
  have h2z : ¬ (4096 : Int) < an.length := by omega
  go_enter Try.func6, Try.ntmps6
  go_wp2_with fail
  refine (bytes20 w.heap.size id t p q c c2 t2 ms an w HM.out HA.out B1.out B2.out).mono ?_
  rintro _ w1 ⟨hbb, hw1⟩
  replace hw1 := hw1.symm
  subst hw1
  rcases hbb with rfl | rfl
  rotate_left 1
  · go_wp2
    go_ret
    exact ⟨rfl, Below.refl _ _⟩
  go_wp2_with fail
  refine (add_any _ _ w).mono ?_
  rintro _ w1 ⟨⟨s1, rfl⟩, hw1⟩
  replace hw1 := hw1.symm
  subst hw1
  go_wp2_with fail
  refine (membersSize w.heap.size p c ms s1 w HM.out (by omega)).mono ?_
  rintro _ w1 ⟨⟨s2, rfl⟩, hw1⟩
  replace hw1 := hw1.symm
  subst hw1
  go_wp2_with fail
  refine (answersSize w.heap.size q c2 an s2 w HA.out (by omega)).mono ?_
  rintro _ w1 ⟨⟨s4, rfl⟩, hw1⟩
  replace hw1 := hw1.symm
  subst hw1
  by_cases hs4 : 1048576 < s4
  · go_wp2
    go_ret
    exact ⟨rfl, Below.refl _ _⟩
  by_cases hts : t < t2
  · go_wp2
    go_ret
    exact ⟨rfl, Below.refl _ _⟩
  go_wp2_with fail
  refine (allAtMost w.heap.size q c2 an t w HA.out (by omega)).mono ?_
  rintro _ w1 ⟨rfl, hw1⟩
  replace hw1 := hw1.symm
  subst hw1
  by_cases hta : ∀ a ∈ an, a.2 ≤ t
  rotate_left 1
  · rw [decide_eq_false hta]
    clear hta
    go_wp2
    go_ret
    exact ⟨rfl, Below.refl _ _⟩
  rw [decide_eq_true hta]
  have HTA : Hid (∀ a ∈ an, a.2 ≤ t) := hta
  have HTB : Hid (∀ a ∈ an ++ [(id, t2)], a.2 ≤ t) := fun a ha => (List.mem_append.1 ha).elim (HTA.out a) (fun h => by simp at h; subst h; exact hts)
  have HB0 : Hid (RowKit.Below w.heap.size w (w.alloc (.cells #[.string id, .int .u64 t2] 43))) := (Below.refl _ w).alloc (Nat.le_refl _) _
  clear hta
  go_wp2_with fail
  refine (joinAnswers q (some ⟨w.heap.size, 0, none⟩) c2 1 an [(id, t2)] _ ((HA.out.below HB0.out).mono HB0.out.size) (one_answer w id t2 HID.out HT0.out HT1.out) N2.out (fun h => absurd h (by simp)) (by omega) (by simp)).mono ?_
  rintro _ W1 ⟨hB1, g, cap, rfl, hAll⟩
  have HB1 : Hid (RowKit.Below w.heap.size w W1) := HB0.out.trans (hB1.mono HB0.out.size)
  have HAll : Hid (AnsIn W1 W1.heap.size (some ⟨g, 0, none⟩) (an ++ [(id, t2)])) := hAll
  have hal : (an ++ [(id, t2)]).length ≤ 8192 := by rw [List.length_append, List.length_singleton]; omega
  clear hB1 hAll
  have HIA : Hid (ids (an ++ [(id, t2)]) = ids an ++ [id]) := ids_append an [(id, t2)]
  generalize hall : an ++ [(id, t2)] = al at *
  clear hall
  go_wp2_with fail
  refine (learn17 id t p q c c2 ms an W1 ((HM.out.below HB1.out).mono HB1.out.size) ((HA.out.below HB1.out).mono HB1.out.size) N1.out HTA.out (by omega) (by omega)).mono ?_
  rintro _ W2 ⟨hB2, h17⟩
  have HB2 : Hid (RowKit.Below w.heap.size w W2) := HB1.out.trans (hB2.mono HB1.out.size)
  have HAll2 : Hid (AnsIn W2 W2.heap.size (some ⟨g, 0, none⟩) al) := (HAll.out.below hB2).mono hB2.size
  clear hB2
  rcases h17 with ⟨hE1, rfl⟩ | ⟨hE1, m1, rfl, hA1, hm1⟩
  · go_wp2_with fail
    refine (learn17 id t p (some ⟨g, 0, none⟩) c cap ms al W2 ((HM.out.below HB2.out).mono HB2.out.size) HAll2.out N1.out HTB.out (by omega) hal).mono ?_
    rintro _ W3 ⟨hB3, h17⟩
    rcases h17 with ⟨hE2, rfl⟩ | ⟨hE2, m2, rfl, hA2, hm2⟩
    rotate_left 1
    · rw [HIA.out, enough_self id _ ms, hE1] at hE2
      cases hE2
    have HB3 : Hid (RowKit.Below w.heap.size w W3) := HB2.out.trans (hB3.mono HB2.out.size)
    have HE1 : Hid (enoughB id (ids an) ms = true) := hE1
    clear hE1 hE2 hB3
    go_wp2_with fail
    refine (enough W3.heap.size p q c c2 an ms id W3 ((HM.out.below HB3.out).mono HB3.out.size) ((HA.out.below HB3.out).mono HB3.out.size) (by omega) (by omega)).mono ?_
    rintro _ W6 ⟨rfl, hw6⟩
    replace hw6 := hw6.symm
    subst hw6
    rw [HE1.out]
    go_wp2
    go_ret
    exact ⟨rfl, HB3.out⟩
  · go_wp2_with fail
    refine (learn17 id t p (some ⟨g, 0, none⟩) c cap ms al W2 ((HM.out.below HB2.out).mono HB2.out.size) HAll2.out N1.out HTB.out (by omega) hal).mono ?_
    rintro _ W3 ⟨hB3, h17⟩
    rcases h17 with ⟨hE2, rfl⟩ | ⟨hE2, m2, rfl, hA2, hm2⟩
    · rw [HIA.out, enough_self id _ ms, hE1] at hE2
      cases hE2
    have HB3 : Hid (RowKit.Below w.heap.size w W3) := HB2.out.trans (hB3.mono HB2.out.size)
    have HAll3 : Hid (AnsIn W3 W3.heap.size (some ⟨g, 0, none⟩) al) := (HAll2.out.below hB3).mono hB3.size
    have HE1 : Hid (enoughB id (ids an) ms = false) := hE1
    have HA1 : Hid (AMap W3 m1 an) := hA1.below hB3
    have HA2 : Hid (AMap W3 m2 al) := hA2
    clear hE1 hE2 hB3 hA1 hA2
    go_wp2_with fail
    refine (sameAnswers w.heap.size m1 q c2 an W3 (HA.out.below HB3.out) HA1.out (by omega)).mono ?_
    rintro _ W4 ⟨rfl, nq4, hw4⟩
    subst hw4
    go_wp2_with fail
    refine (sameAnswers W3.heap.size m2 (some ⟨g, 0, none⟩) cap al (W3.drewN nq4) HAll3.out HA2.out hal).mono ?_
    rintro _ W5 ⟨rfl, nq5, hw5⟩
    subst hw5
    go_wp2_with fail
    refine (enough W3.heap.size p q c c2 an ms id (W3.drewN (nq4 + nq5)) ((HM.out.below HB3.out).mono HB3.out.size) ((HA.out.below HB3.out).mono HB3.out.size) (by omega) (by omega)).mono ?_
    rintro _ W6 ⟨rfl, hw6⟩
    replace hw6 := hw6.symm
    subst hw6
    rw [HE1.out]
    go_wp2
    go_ret
    exact ⟨rfl, Below.drewN HB3.out _⟩
end Go.Proofs.Qxb6613745a
