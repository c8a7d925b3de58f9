import Derived.Test.Qxb6613745aLearn3
import Derived.Test.Qxb6613745aBytes
set_option linter.unusedVariables false
namespace Go.Proofs.Qxb6613745a
open Go.RowKit Go.Maps

theorem countN_mono (id : ByteArray) (ks ks' : List ByteArray) : ∀ ms, countN id ks ms ≤ countN id (ks ++ ks') ms
  | [] => Nat.le_refl _
  | m :: ms => by
    have := countN_mono id ks ks' ms
    rw [countN, countN, isIn_append]
    split
    · omega
    · cases h : isIn m.1 ks <;> simp <;> omega
theorem enough_mono (id : ByteArray) (ks ks' : List ByteArray) (ms : List (ByteArray × ByteArray)) (h : enoughB id ks ms = true) : enoughB id (ks ++ ks') ms = true := by
  unfold enoughB at h ⊢
  rw [decide_eq_true_iff] at h ⊢
  have h1 := countN_mono id ks ks' ms
  have h2 := countN_le id (ks ++ ks') ms
  omega
theorem countN_self (id : ByteArray) (ks : List ByteArray) : ∀ ms, countN id (ks ++ [id]) ms = countN id ks ms
  | [] => rfl
  | m :: ms => by
    have := countN_self id ks ms
    rw [countN, countN, this]
    by_cases h : m.1 = id
    · simp [h]
    · rw [isIn_snoc]
      have h' : ¬ id = m.1 := fun e => h e.symm
      simp [h, h']
theorem enough_self (id : ByteArray) (ks : List ByteArray) (ms : List (ByteArray × ByteArray)) : enoughB id (ks ++ [id]) ms = enoughB id ks ms := by
  unfold enoughB; rw [countN_self]
theorem ids_append (x y : List (ByteArray × Int)) : ids (x ++ y) = ids x ++ ids y := by simp [ids]

set_option maxHeartbeats 16000000 in
set_option maxRecDepth 100000 in
theorem more_w (id : ByteArray) (t : Int) (p q r : Option Addr) (c c2 c3 : Nat) (ms : List (ByteArray × ByteArray)) (an mo : List (ByteArray × Int)) (w : World) (hM : MemIn w w.heap.size p ms) (hA : AnsIn w w.heap.size q an) (hO : AnsIn w w.heap.size r mo)
    (n1 : p = none → ms = [] ∧ c = 0) (n2 : q = none → an = [] ∧ c2 = 0) (n3 : r = none → mo = [] ∧ c3 = 0) (b1 : ms.length ≤ maxLen) (b2 : an.length ≤ maxLen) (b3 : mo.length ≤ maxLen) :
    Calls Try.prog 5 #[.string id, .int .u64 t, .slice p ms.length c, .slice q an.length c2, .slice r mo.length c3] w fun e w' => e = .returned (.bool true) ∧ RowKit.Below w.heap.size w w' := by
  have HM : Hid (MemIn w w.heap.size p ms) := hM
  have HA : Hid (AnsIn w w.heap.size q an) := hA
  have HO : Hid (AnsIn w w.heap.size r mo) := hO
  have N1 : Hid (p = none → ms = [] ∧ c = 0) := n1
  have N2 : Hid (q = none → an = [] ∧ c2 = 0) := n2
  have N3 : Hid (r = none → mo = [] ∧ c3 = 0) := n3
  have B1 : Hid (ms.length ≤ maxLen) := b1
  have B2 : Hid (an.length ≤ maxLen) := b2
  have B3 : Hid (mo.length ≤ maxLen) := b3
  unfold maxLen at b1 b2 b3
  clear hM hA hO n1 n2 n3
  by_cases h1 : 4096 < ms.length
  · have h1z : (4096 : Int) < ms.length := by omega
    go_enter Try.func5, Try.ntmps5
    go_wp2_with fail
    refine (bytes13 w.heap.size id t p q r c c2 c3 ms an mo w HM.out HA.out HO.out B1.out B2.out B3.out).mono ?_
    rintro _ _ ⟨rfl | rfl, rfl⟩ <;> (go_wp2; go_ret; exact ⟨rfl, Below.refl _ _⟩)
  have h1z : ¬ (4096 : Int) < ms.length := by omega
  by_cases h2 : 4096 < an.length
  · have h2z : (4096 : Int) < an.length := by omega
    go_enter Try.func5, Try.ntmps5
    go_wp2_with fail
    refine (bytes13 w.heap.size id t p q r c c2 c3 ms an mo w HM.out HA.out HO.out B1.out B2.out B3.out).mono ?_
    rintro _ _ ⟨rfl | rfl, rfl⟩ <;> (go_wp2; go_ret; exact ⟨rfl, Below.refl _ _⟩)
  have h2z : ¬ (4096 : Int) < an.length := by omega
  by_cases h3 : 4096 < mo.length
  · have h3z : (4096 : Int) < mo.length := by omega
    go_enter Try.func5, Try.ntmps5
    go_wp2_with fail
    refine (bytes13 w.heap.size id t p q r c c2 c3 ms an mo w HM.out HA.out HO.out B1.out B2.out B3.out).mono ?_
    rintro _ _ ⟨rfl | rfl, rfl⟩ <;> (go_wp2; go_ret; exact ⟨rfl, Below.refl _ _⟩)
  have h3z : ¬ (4096 : Int) < mo.length := by omega
  go_enter Try.func5, Try.ntmps5
  go_wp2_with fail
  refine (bytes13 w.heap.size id t p q r c c2 c3 ms an mo w HM.out HA.out HO.out B1.out B2.out B3.out).mono ?_
  rintro _ w1 ⟨hbb, hw1⟩
  replace hw1 := hw1.symm
  subst hw1
  rcases hbb with rfl | rfl
  rotate_left 1
  · go_wp2
    go_ret
    exact ⟨rfl, Below.refl _ _⟩
  go_wp2_with fail
  refine (add_any _ _ w).mono ?_
  rintro _ w1 ⟨⟨s1, rfl⟩, hw1⟩
  replace hw1 := hw1.symm
  subst hw1
  go_wp2_with fail
  refine (membersSize w.heap.size p c ms s1 w HM.out (by omega)).mono ?_
  rintro _ w1 ⟨⟨s2, rfl⟩, hw1⟩
  replace hw1 := hw1.symm
  subst hw1
  go_wp2_with fail
  refine (answersSize w.heap.size q c2 an s2 w HA.out (by omega)).mono ?_
  rintro _ w1 ⟨⟨s3, rfl⟩, hw1⟩
  replace hw1 := hw1.symm
  subst hw1
  go_wp2_with fail
  refine (answersSize w.heap.size r c3 mo s3 w HO.out (by omega)).mono ?_
  rintro _ w1 ⟨⟨s4, rfl⟩, hw1⟩
  replace hw1 := hw1.symm
  subst hw1
  by_cases hs4 : 1048576 < s4
  · go_wp2
    go_ret
    exact ⟨rfl, Below.refl _ _⟩
  go_wp2_with fail
  refine (allAtMost w.heap.size q c2 an t w HA.out (by omega)).mono ?_
  rintro _ w1 ⟨rfl, hw1⟩
  replace hw1 := hw1.symm
  subst hw1
  by_cases hta : ∀ a ∈ an, a.2 ≤ t
  rotate_left 1
  · rw [decide_eq_false hta]
    clear hta
    go_wp2
    go_ret
    exact ⟨rfl, Below.refl _ _⟩
  rw [decide_eq_true hta]
  have HTA : Hid (∀ a ∈ an, a.2 ≤ t) := hta
  clear hta
  go_wp2_with fail
  refine (allAtMost w.heap.size r c3 mo t w HO.out (by omega)).mono ?_
  rintro _ w1 ⟨rfl, hw1⟩
  replace hw1 := hw1.symm
  subst hw1
  by_cases htm : ∀ a ∈ mo, a.2 ≤ t
  rotate_left 1
  · rw [decide_eq_false htm]
    clear htm
    go_wp2
    go_ret
    exact ⟨rfl, Below.refl _ _⟩
  rw [decide_eq_true htm]
  have HTB : Hid (∀ a ∈ an ++ mo, a.2 ≤ t) := fun a ha => (List.mem_append.1 ha).elim (HTA.out a) (htm a)
  clear htm
  go_wp2_with fail
  refine (joinAnswers q r c2 c3 an mo w HA.out HO.out N2.out N3.out (by omega) (by omega)).mono ?_
  rintro _ W1 ⟨hB1, g, cap, rfl, hAll⟩
  have HB1 : Hid (RowKit.Below w.heap.size w W1) := hB1
  have HAll : Hid (AnsIn W1 W1.heap.size (some ⟨g, 0, none⟩) (an ++ mo)) := hAll
  have hal : (an ++ mo).length ≤ 8192 := by rw [List.length_append]; omega
  clear hB1 hAll
  have HIA : Hid (ids (an ++ mo) = ids an ++ ids mo) := ids_append an mo
  generalize hall : an ++ mo = al at *
  clear hall
  go_wp2_with fail
  refine (learn17 id t p q c c2 ms an W1 ((HM.out.below HB1.out).mono HB1.out.size) ((HA.out.below HB1.out).mono HB1.out.size) N1.out HTA.out (by omega) (by omega)).mono ?_
  rintro _ W2 ⟨hB2, h17⟩
  have HB2 : Hid (RowKit.Below w.heap.size w W2) := HB1.out.trans (hB2.mono HB1.out.size)
  have HAll2 : Hid (AnsIn W2 W2.heap.size (some ⟨g, 0, none⟩) al) := (HAll.out.below hB2).mono hB2.size
  clear hB2
  rcases h17 with ⟨hE1, rfl⟩ | ⟨hE1, m1, rfl, hA1, hm1⟩
  · go_wp2_with fail
    refine (learn17 id t p (some ⟨g, 0, none⟩) c cap ms al W2 ((HM.out.below HB2.out).mono HB2.out.size) HAll2.out N1.out HTB.out (by omega) hal).mono ?_
    rintro _ W3 ⟨hB3, h17⟩
    rcases h17 with ⟨hE2, rfl⟩ | ⟨hE2, m2, rfl, hA2, hm2⟩
    rotate_left 1
    · rw [HIA.out, enough_mono id _ _ ms hE1] at hE2
      cases hE2
    have HB3 : Hid (RowKit.Below w.heap.size w W3) := HB2.out.trans (hB3.mono HB2.out.size)
    have HAll3 : Hid (AnsIn W3 W3.heap.size (some ⟨g, 0, none⟩) al) := (HAll2.out.below hB3).mono hB3.size
    have HE2 : Hid (enoughB id (ids al) ms = true) := hE2
    clear hE1 hE2 hB3  
    go_wp2_with fail
    refine (enough W3.heap.size p (some ⟨g, 0, none⟩) c cap al ms id W3 ((HM.out.below HB3.out).mono HB3.out.size) HAll3.out (by omega) hal).mono ?_
    rintro _ W6 ⟨rfl, hw6⟩
    replace hw6 := hw6.symm
    subst hw6
    rw [HE2.out]
    go_wp2
    go_ret
    exact ⟨rfl, HB3.out⟩
  · go_wp2_with fail
    refine (learn17 id t p (some ⟨g, 0, none⟩) c cap ms al W2 ((HM.out.below HB2.out).mono HB2.out.size) HAll2.out N1.out HTB.out (by omega) hal).mono ?_
    rintro _ W3 ⟨hB3, h17⟩
    rcases h17 with ⟨hE2, rfl⟩ | ⟨hE2, m2, rfl, hA2, hm2⟩
    · have HB3 : Hid (RowKit.Below w.heap.size w W3) := HB2.out.trans (hB3.mono HB2.out.size)
      have HAll3 : Hid (AnsIn W3 W3.heap.size (some ⟨g, 0, none⟩) al) := (HAll2.out.below hB3).mono hB3.size
      have HE2 : Hid (enoughB id (ids al) ms = true) := hE2
      have HA1 : Hid (AMap W3 m1 an) := hA1.below hB3
      clear hE1 hE2 hB3 hA1 
      go_wp2_with fail
      refine (sameAnswers w.heap.size m1 q c2 an W3 (HA.out.below HB3.out) HA1.out (by omega)).mono ?_
      rintro _ W4 ⟨rfl, nq4, hw4⟩
      subst hw4
      go_wp2_with fail
      refine (enough W3.heap.size p (some ⟨g, 0, none⟩) c cap al ms id (W3.drewN nq4) ((HM.out.below HB3.out).mono HB3.out.size) HAll3.out (by omega) hal).mono ?_
      rintro _ W6 ⟨rfl, hw6⟩
      replace hw6 := hw6.symm
      subst hw6
      rw [HE2.out]
      go_wp2
      go_ret
      exact ⟨rfl, Below.drewN HB3.out _⟩
    · have HB3 : Hid (RowKit.Below w.heap.size w W3) := HB2.out.trans (hB3.mono HB2.out.size)
      have HAll3 : Hid (AnsIn W3 W3.heap.size (some ⟨g, 0, none⟩) al) := (HAll2.out.below hB3).mono hB3.size
      have HE2 : Hid (enoughB id (ids al) ms = false) := hE2
      have HA1 : Hid (AMap W3 m1 an) := hA1.below hB3
      have HA2 : Hid (AMap W3 m2 al) := hA2
      clear hE1 hE2 hB3 hA1 hA2
      go_wp2_with fail
      refine (sameAnswers w.heap.size m1 q c2 an W3 (HA.out.below HB3.out) HA1.out (by omega)).mono ?_
      rintro _ W4 ⟨rfl, nq4, hw4⟩
      subst hw4
      go_wp2_with fail
      refine (sameAnswers W3.heap.size m2 (some ⟨g, 0, none⟩) cap al (W3.drewN nq4) HAll3.out HA2.out hal).mono ?_
      rintro _ W5 ⟨rfl, nq5, hw5⟩
      subst hw5
      go_wp2_with fail
      refine (enough W3.heap.size p (some ⟨g, 0, none⟩) c cap al ms id (W3.drewN (nq4 + nq5)) ((HM.out.below HB3.out).mono HB3.out.size) HAll3.out (by omega) hal).mono ?_
      rintro _ W6 ⟨rfl, hw6⟩
      replace hw6 := hw6.symm
      subst hw6
      rw [HE2.out]
      go_wp2
      go_ret
      exact ⟨rfl, Below.drewN HB3.out _⟩
end Go.Proofs.Qxb6613745a
