import Derived.Test.Qxb6613730aHas
set_option linter.unusedVariables false
namespace Go.Proofs.Qxb6613730a
open Go.RowKit Go.Shelf

theorem ans_order {zs : List Int} {kk : List (List ByteArray)} {rs : List (ByteArray × List Int)} (hl : zs.length = kk.length) (h : Ans (groups (zs.zip kk)) rs) (i : Nat) (hi : i + 1 < rs.length) :
    nth (nth rs i).2 0 < nth (nth rs (i + 1)).2 0 ∨ (nth (nth rs i).2 0 = nth (nth rs (i + 1)).2 0 ∧ firstUse kk.flatten (nth rs i).1 < firstUse kk.flatten (nth rs (i + 1)).1) := by
  obtain ⟨σ, hp, rfl, hs⟩ := h
  rw [List.length_map] at hi
  have hn : ∀ i (h : i < σ.length), nth (σ.map (fun i => ((nth (groups (zs.zip kk)) i).1, srt (nth (groups (zs.zip kk)) i).2))) i = ((nth (groups (zs.zip kk)) σ[i]).1, srt (nth (groups (zs.zip kk)) σ[i]).2) := fun i h => by
    rw [nth_eq _ _ (by simpa using h), List.getElem_map]
  rw [hn i (by omega), hn (i + 1) hi]
  have hlt : ∀ j (h : j < σ.length), σ[j] < (groups (zs.zip kk)).length := fun j h => List.mem_range.1 (hp.mem_iff.1 (List.getElem_mem h))
  rcases (List.pairwise_iff_getElem.1 hs) i (i + 1) (by omega) hi (by omega) with h | ⟨h, h'⟩
  · exact .inl h
  · refine .inr ⟨h, ?_⟩
    have ho := names_order (flatU (zs.zip kk))
    rw [flatU_fst zs kk hl, ← groups_flat] at ho
    have := (List.pairwise_iff_getElem.1 ho) σ[i] σ[i + 1] (by simpa [names] using hlt i (by omega)) (by simpa [names] using hlt (i + 1) hi) h'
    simp only [names, List.getElem_map] at this
    rw [nth_eq _ _ (hlt i (by omega)), nth_eq _ _ (hlt (i + 1) hi)]
    exact this

/-! ### The insertion sort: plain -/
theorem srt_unique {L acc : List Int} (hp : L.Perm acc) (hs : L.Pairwise (· ≤ ·)) : L = srt acc := by
  refine List.Perm.eq_of_pairwise (le := (· ≤ ·)) (fun a b _ _ h1 h2 => by omega) hs ?_ (hp.trans (srt_perm acc).symm)
  have := List.pairwise_mergeSort (le := fun x y : Int => decide (x ≤ y)) (fun a b c h1 h2 => by simp at *; omega) (fun a b => by simp; omega) acc
  rw [List.pairwise_iff_getElem] at this ⊢
  intro i j hi hj hij
  have := this i j hi hj hij
  exact of_decide_eq_true this

theorem set_mid (y v : Int) (T : List Int) : ∀ (A : List Int), (A ++ y :: T).set A.length v = A ++ v :: T
  | [] => rfl
  | a :: A => by simp [set_mid y v T A]

/-- In the midst of an insertion: A and C are what was sorted, C lies one on; y is what the gap holds. -/
def Mid (L0 L : List Int) (i j : Nat) (x : Int) : Prop := ∃ A C R y, L = A ++ y :: (C ++ R) ∧ A.length = j ∧ A ++ C = L0.take i ∧ R = L0.drop (i + 1) ∧ (∀ c ∈ C, x < c) ∧ nth L0 i = x
theorem Mid.start (L0 : List Int) (i : Nat) (hi : i < L0.length) : Mid L0 L0 i i (nth L0 i) := by
  refine ⟨L0.take i, [], L0.drop (i + 1), nth L0 i, ?_, by rw [List.length_take]; omega, by simp, rfl, by simp, rfl⟩
  rw [nth_eq L0 i hi]
  simp
theorem Mid.len {L0 L : List Int} {i j : Nat} {x : Int} (h : Mid L0 L i j x) (hi : i < L0.length) : L.length = L0.length ∧ j ≤ i := by
  obtain ⟨A, C, R, y, rfl, rfl, h1, rfl, _, _⟩ := h
  have := congrArg List.length h1
  simp at this ⊢
  omega
theorem Mid.step {L0 L : List Int} {i j : Nat} {x : Int} (h : Mid L0 L i (j + 1) x) (hx : x < nth L j) : Mid L0 (L.set (j + 1) (nth L j)) i j x := by
  obtain ⟨A, C, R, y, rfl, hA, h1, hR, hC, hn⟩ := h
  obtain ⟨A', a, rfl⟩ : ∃ A' a, A = A' ++ [a] := by
    rcases List.eq_nil_or_concat A with rfl | ⟨A', a, rfl⟩
    · simp at hA
    · exact ⟨A', a, by simp⟩
  have hA' : A'.length = j := by simpa using hA
  have hna : nth ((A' ++ [a]) ++ y :: (C ++ R)) j = a := by
    unfold nth
    rw [List.append_assoc, List.getElem?_append_right (by omega)]
    simp [hA']
  rw [hna] at hx ⊢
  refine ⟨A', a :: C, R, a, ?_, hA', by rw [← h1]; simp, hR, fun c hc => ?_, hn⟩
  · rw [← hA, set_mid]
    simp
  · rcases List.mem_cons.1 hc with rfl | hc
    · exact hx
    · exact hC c hc
theorem Mid.done {L0 L : List Int} {i j : Nat} {x : Int} (h : Mid L0 L i j x) (hi : i < L0.length) (hs : (L0.take i).Pairwise (· ≤ ·)) (hj : j = 0 ∨ ∃ k, j = k + 1 ∧ nth L k ≤ x) :
    (L.set j x).Perm L0 ∧ ((L.set j x).take (i + 1)).Pairwise (· ≤ ·) := by
  obtain ⟨A, C, R, y, rfl, hA, h1, hR, hC, hn⟩ := h
  have hset : (A ++ y :: (C ++ R)).set j x = A ++ x :: (C ++ R) := by
    rw [← hA, set_mid]
  rw [hset]
  have hl0 : L0 = L0.take i ++ x :: L0.drop (i + 1) := by rw [← hn, nth_eq L0 i hi]; simp
  constructor
  · conv => rhs; rw [hl0, ← h1, ← hR]
    rw [List.append_assoc]
    refine List.Perm.append_left A ?_
    exact (List.perm_middle (l₁ := C) (a := x) (l₂ := R)).symm
  · have hl := congrArg List.length h1
    simp at hl
    have ht : (A ++ x :: (C ++ R)).take (i + 1) = A ++ x :: C := by
      rw [show A ++ x :: (C ++ R) = (A ++ x :: C) ++ R by simp, List.take_append_of_le_length (by simp; omega), List.take_of_length_le (by simp; omega)]
    rw [ht]
    rw [← h1, List.pairwise_append] at hs
    obtain ⟨s1, s2, s3⟩ := hs
    rw [List.pairwise_append]
    refine ⟨s1, List.pairwise_cons.2 ⟨fun c hc => by have := hC c hc; omega, s2⟩, fun a ha b hb => ?_⟩
    have hax : a ≤ x := by
      rcases hj with hj | ⟨k, hk, hkx⟩
      · rw [hj] at hA
        rw [List.length_eq_zero_iff.1 hA] at ha
        simp at ha
      · obtain ⟨A', l, rfl⟩ : ∃ A' a, A = A' ++ [a] := by
          rcases List.eq_nil_or_concat A with rfl | ⟨A', a, rfl⟩
          · simp at ha
          · exact ⟨A', a, by simp⟩
        have hA' : A'.length = k := by simp at hA; omega
        have hna : nth ((A' ++ [l]) ++ y :: (C ++ R)) k = l := by
          unfold nth
          rw [List.append_assoc, List.getElem?_append_right (by omega)]
          simp [hA']
        rw [hna] at hkx
        rcases List.mem_append.1 ha with h | h
        · have := (List.pairwise_append.1 s1).2.2 a h l (by simp)
          omega
        · simp at h; subst h; exact hkx
    rcases List.mem_cons.1 hb with rfl | hb
    · exact hax
    · exact s3 a ha b hb

/-! ### zzLinesOf -/
theorem flatU_take (zs : List Int) (kk : List (List ByteArray)) (k : Nat) (hl : zs.length = kk.length) (h : k < kk.length) : flatU ((zs.zip kk).take (k + 1)) = flatU ((zs.zip kk).take k) ++ (nth kk k).map fun m => (m, nth zs k) := by
  have hz : k < (zs.zip kk).length := by rw [List.length_zip]; omega
  rw [take_nth (zs.zip kk) k hz]
  have : nth (zs.zip kk) k = (nth zs k, nth kk k) := by
    rw [nth_eq _ _ hz, List.getElem_zip, nth_eq zs k (by omega), nth_eq kk k h]
  simp [flatU, this]
theorem flatU_len (zs : List Int) (kk : List (List ByteArray)) (hl : zs.length = kk.length) : (flatU (zs.zip kk)).length = pairsN kk := by
  have := congrArg List.length (flatU_fst zs kk hl)
  rw [List.length_map] at this
  exact this
theorem flatU_take_len (xs : List (Int × List ByteArray)) (k : Nat) : (flatU (xs.take k)).length ≤ (flatU xs).length := by
  conv => rhs; rw [← List.take_append_drop k xs]
  unfold flatU
  rw [List.flatMap_append, List.length_append]; omega

theorem acc_one {B : Nat} {W1 wr w2 : World} {s8 v' : Value} {zs : List Int} {z : Int} {tmp : Obj} (hB : Below B W1 wr) (hBs : B ≤ wr.heap.size) (hL : AccL B wr s8 zs)
    (hown : w2.ownsRow B 3 1 v' (zs.length + 1) (zs.map (Value.int .i64) ++ [.int .i64 z])) (hg : (wr.alloc tmp).grownBy w2 s8.ownBlock) : Below B W1 w2 ∧ AccL B w2 v' (zs ++ [z]) :=
  ⟨(hB.alloc hBs tmp).grown hg (by simp; omega) (own_ge (hL.alloc tmp)), AccL.snoc hown⟩

theorem accL_cell {B : Nat} {W : World} {g n c : Nat} {L : List Int} (h : AccL B W (.slice (some ⟨g, 0, none⟩) n c) L) (hl : L.length = n) (t : Nat) (ht : t < n) : W.cell? ⟨g, t, none⟩ = some (.int .i64 (nth L t)) := by
  subst hl
  have := World.ownsRow.cellAt h t (by omega)
  rw [this, List.getElem?_map, List.getElem?_eq_getElem ht, ← nth_eq L t ht]; rfl
theorem accL_frozen {B : Nat} {W : World} {g n c : Nat} {L : List Int} (h : AccL B W (.slice (some ⟨g, 0, none⟩) n c) L) (t : Nat) : W.frozen? ⟨g, t, none⟩ = false := by
  obtain ⟨_, cur, hc⟩ := own_heap h (r := g) rfl
  simp [World.frozen?, hc]
theorem accL_set {B : Nat} {W W1 : World} {g n c : Nat} {L : List Int} (h : AccL B W (.slice (some ⟨g, 0, none⟩) n c) L) (hl : L.length = n) (hB : Below B W1 W) (t : Nat) (z : Int) : AccL B (W.setCell ⟨g, t, none⟩ (.int .i64 z)) (.slice (some ⟨g, 0, none⟩) n c) (L.set t z) ∧ Below B W1 (W.setCell ⟨g, t, none⟩ (.int .i64 z)) := by
  subst hl
  refine ⟨?_, hB.setCell (own_heap h (r := g) rfl).1 _⟩
  have := (World.ownsRow.stored h t (.int .i64 z)).1
  unfold AccL
  rw [List.length_set, List.map_set]
  exact this

set_option maxRecDepth 100000 in
set_option maxHeartbeats 2000000 in
theorem linesOf (B0 : Nat) (pl pk : Option Addr) (cl0 ck : Nat) (zs : List Int) (kk : List (List ByteArray)) (m : ByteArray) (w : World) (hB0 : B0 ≤ w.heap.size) (hz : IntsIn w B0 pl zs) (hk : StrssIn w B0 pk kk) (hl : zs.length = kk.length) (hn : kk.length ≤ 4096) (hp : pairsN kk ≤ 4096) :
    Calls Try.prog 24 #[.slice pl zs.length cl0, .slice pk kk.length ck, .string m] w fun e w' => Below w.heap.size w w' ∧ ∃ v, e = .returned v ∧ AccL w.heap.size w' v (srt (lsOf m (flatU (zs.zip kk)))) := by
  have HZ : Hid (IntsIn w B0 pl zs) := hz
  have HK : Hid (StrssIn w B0 pk kk) := hk
  have HL : Hid (zs.length = kk.length) := hl
  have hzn : zs.length ≤ 4096 := by omega
  clear hz hk hl
  go_enter Try.func24, Try.ntmps24
  go_wp2_with fail
  go_loopw [7, 15] (fun s7 s15 wr => ∃ (k : Nat), s15 = .int .i64 k ∧ k ≤ kk.length ∧ Hid (Below w.heap.size w wr) ∧ Hid (AccL w.heap.size wr s7 (lsOf m (flatU ((zs.zip kk).take k))))) (fun _ s15 _ => kk.length - (intOf s15).toNat)
  case atStart => exact ⟨0, rfl, Nat.zero_le _, Below.refl _ _, World.ownsRow_nil _ _ _ _⟩
  case round =>
    obtain ⟨k, rfl, hkk, HB, HA⟩ := hrel
    by_cases hklt : k < kk.length
    · have hkz : (k : Int) < (kk.length : Int) := by omega
      obtain ⟨b, off, q, d, rfl, hbb, hc, hrow, HR⟩ := HK.out k hklt
      obtain ⟨bz, offz, rfl, hbz, hcz⟩ := HZ.out k (by have := HL.out; omega)
      unfold maxLen at hrow
      have hkz2 : (k : Int) < (zs.length : Int) := by have := HL.out; omega
      have HC : Hid (w.cell? ⟨b, off + k, none⟩ = some (.slice q (nth kk k).length d)) := hc
      have HCZ : Hid (w.cell? ⟨bz, offz + k, none⟩ = some (.int .i64 (nth zs k))) := hcz
      have HR' : Hid (StrsIn w B0 q (nth kk k)) := HR
      have hc : wr.cell? ⟨b, off + k, none⟩ = some (.slice q (nth kk k).length d) := (HB.out.cell (p := ⟨b, off + k, none⟩) (by show b < w.heap.size; omega)).trans hc
      have HFT : Hid (flatU ((zs.zip kk).take (k + 1)) = flatU ((zs.zip kk).take k) ++ (nth kk k).map fun m => (m, nth zs k)) := flatU_take zs kk k HL.out hklt
      have HFL : Hid ((flatU ((zs.zip kk).take k)).length + (nth kk k).length ≤ 4096) := by
        have h1 := flatU_take_len (zs.zip kk) (k + 1)
        rw [HFT.out, flatU_len zs kk HL.out, List.length_append, List.length_map] at h1
        exact (show _ ≤ _ by omega)
      clear HR hcz
      generalize flatU ((zs.zip kk).take k) = ps at *
      generalize nth kk k = row at *
      generalize nth zs k = z at *
      go_wp2_with fail
      go_loopw [7, 23] (fun s7 s23 wv => ∃ (j : Nat), s23 = .int .i64 j ∧ j ≤ row.length ∧ Hid (Below w.heap.size w wv) ∧ Hid (AccL w.heap.size wv s7 (lsOf m (ps ++ (row.take j).map fun m => (m, z))))) (fun _ s23 _ => row.length - (intOf s23).toNat)
      case atStart => exact ⟨0, rfl, Nat.zero_le _, HB.out, by show AccL _ _ _ _; simpa using HA.out⟩
      case round =>
        clear hc HA
        obtain ⟨j, rfl, hj, HB2, HA2⟩ := hrel
        by_cases hjlt : j < row.length
        · have hjz : (j : Int) < (row.length : Int) := by omega
          obtain ⟨b', off', rfl, hb', hcs, _⟩ := HR'.out j hjlt
          have hc : wr.cell? ⟨b, off + k, none⟩ = some (.slice (some ⟨b', off', none⟩) row.length d) := (HB2.out.cell (p := ⟨b, off + k, none⟩) (by show b < w.heap.size; omega)).trans HC.out
          have hcz : wr.cell? ⟨bz, offz + k, none⟩ = some (.int .i64 z) := (HB2.out.cell (p := ⟨bz, offz + k, none⟩) (by show bz < w.heap.size; omega)).trans HCZ.out
          have hcs : wr.cell? ⟨b', off' + j, none⟩ = some (.string (nth row j)) := (HB2.out.cell (p := ⟨b', off' + j, none⟩) (by show b' < w.heap.size; omega)).trans hcs
          have SB := HB2.out.size
          have HTJ : Hid ((ps ++ (row.take (j + 1)).map fun m => (m, z)) = (ps ++ (row.take j).map fun m => (m, z)) ++ [(nth row j, z)]) := by
            refine (?_ : _ = _)
            rw [take_nth row j hjlt]; simp
          have hal : (lsOf m (ps ++ (row.take j).map fun m => (m, z))).length ≤ 4096 := by
            have := lsOf_len m (ps ++ (row.take j).map fun m => (m, z))
            have h2 := HFL.out
            rw [List.length_append, List.length_map, List.length_take] at this
            omega
          by_cases he : nth row j = m
          · have HD : Hid (lsOf m (ps ++ (row.take (j + 1)).map fun m => (m, z)) = lsOf m (ps ++ (row.take j).map fun m => (m, z)) ++ [z]) := by
              refine (?_ : _ = _)
              rw [HTJ.out, lsOf_append, he, lsOf_hit]
            rw [he] at hcs
            clear he
            generalize lsOf m (ps ++ (row.take j).map fun m => (m, z)) = acc at *
            go_wp2_with (at_builtin; refine append43_p _ rfl _ _ rfl w.heap.size _ acc.length (acc.map (Value.int .i64)) rfl (HA2.out.alloc _) wr.heap.size z rfl (by simp) (by omega) (by simp; omega) ?_; intro g2 cap2 w2 hown2 hg2; obtain ⟨hB3, hA3⟩ := acc_one HB2.out SB HA2.out hown2 hg2; have HB3 : Hid (Below w.heap.size w w2) := hB3; have HA3 : Hid _ := hA3; clear hown2 hg2 hB3 hA3)
            go_roundw
            case rel => exact ⟨j + 1, by go_num, by omega, HB3.out, by rw [HD.out]; exact HA3.out⟩
            case measure => simp [intOf]; omega
          · have hb := bytesNe he
            have HD : Hid (lsOf m (ps ++ (row.take (j + 1)).map fun m => (m, z)) = lsOf m (ps ++ (row.take j).map fun m => (m, z))) := by
              refine (?_ : _ = _)
              rw [HTJ.out, lsOf_append, lsOf_miss _ _ _ he, List.append_nil]
            clear he
            go_wp2_with fail
            go_roundw
            case rel => exact ⟨j + 1, by go_num, by omega, HB2.out, by rw [HD.out]; exact HA2.out⟩
            case measure => simp [intOf]; omega
        · have hjz : ¬ (j : Int) < (row.length : Int) := by omega
          have hje : j = row.length := by omega
          have HD : Hid (lsOf m (flatU ((zs.zip kk).take (k + 1))) = lsOf m (ps ++ (row.take j).map fun m => (m, z))) := by
            refine (?_ : _ = _)
            rw [HFT.out, hje, List.take_length]
          go_wp2_with fail
          go_roundw
          case rel => exact ⟨k + 1, by go_num, by omega, HB2.out, by rw [HD.out]; exact HA2.out⟩
          case measure => simp [intOf]; omega
    · have hkz : ¬ (k : Int) < (kk.length : Int) := by omega
      rw [List.take_of_length_le (by rw [List.length_zip]; omega)] at HA
      have hal : (lsOf m (flatU (zs.zip kk))).length ≤ 4096 := by
        have := lsOf_len m (flatU (zs.zip kk))
        rw [flatU_len zs kk HL.out] at this
        omega
      generalize hacc : lsOf m (flatU (zs.zip kk)) = acc at *
      have HACC : Hid (lsOf m (flatU (zs.zip kk)) = acc) := hacc
      clear HZ HK HL hacc
      obtain ⟨p7, c7, rfl, hp7⟩ := own_form HA.out
      have HP : Hid (0 < acc.length → ∃ g, p7 = some ⟨g, 0, none⟩) := hp7
      clear hp7
      go_wp2_with fail
      go_loopw [10] (fun s10 wv => ∃ (i : Nat) (L : List Int), s10 = .int .i64 i ∧ 1 ≤ i ∧ (i ≤ acc.length ∨ i = 1) ∧ L.length = acc.length ∧ Hid (L.Perm acc) ∧ Hid ((L.take i).Pairwise (· ≤ ·)) ∧ Hid (Below w.heap.size w wv) ∧ Hid (AccL w.heap.size wv (.slice p7 acc.length c7) L)) (fun s10 _ => acc.length - (intOf s10).toNat)
      case atStart =>
        refine ⟨1, acc, rfl, Nat.le_refl _, .inr rfl, rfl, List.Perm.refl _, ?_, HB.out, HA.out⟩
        show List.Pairwise _ _
        cases acc with
        | nil => simp
        | cons a l => simp
      case round =>
        clear HA HB
        obtain ⟨i, L, rfl, hi1, hia, hll, HPM, HSR, HB, HA⟩ := hrel
        by_cases hlt : i < acc.length
        · have hltz : (i : Int) < (acc.length : Int) := by omega
          obtain ⟨g, rfl⟩ := HP.out (by omega)
          have hcell : ∀ t, t < acc.length → wr.cell? ⟨g, t, none⟩ = some (.int .i64 (nth L t)) := fun t ht => accL_cell HA.out hll t ht
          have hci := hcell i hlt
          have HM0 : Hid (Mid L L i i (nth L i)) := Mid.start L i (by omega)
          clear hcell
          generalize hx : nth L i = x at *
          clear hx
          go_wp2_with fail
          go_loopw [12] (fun s12 wv => ∃ (j : Nat) (L' : List Int), s12 = .int .i64 j ∧ Hid (Mid L L' i j x) ∧ Hid (Below w.heap.size w wv) ∧ Hid (AccL w.heap.size wv (.slice (some ⟨g, 0, none⟩) acc.length c7) L')) (fun s12 _ => (intOf s12).toNat)
          case atStart => exact ⟨i, L, rfl, HM0.out, HB.out, HA.out⟩
          case round =>
            clear HA HB hci HM0
            obtain ⟨j, L', rfl, HM, HB, HA⟩ := hrel
            have hml := HM.out.len (by omega)
            have hl' : L'.length = acc.length := by omega
            have hji : j ≤ i := hml.2
            have hcell : ∀ t, t < acc.length → wr.cell? ⟨g, t, none⟩ = some (.int .i64 (nth L' t)) := fun t ht => accL_cell HA.out hl' t ht
            have hfz : ∀ t, wr.frozen? ⟨g, t, none⟩ = false := fun t => accL_frozen HA.out t
            clear hml
            have hj0 := hcell j (by omega)
            have hjf := hfz j
            have hjlz : (j : Int) < (acc.length : Int) := by omega
            obtain ⟨hsA, hsB⟩ := accL_set HA.out hl' HB.out j x
            have HSA : Hid _ := hsA
            have HSB : Hid (Below w.heap.size w (wr.setCell ⟨g, j, none⟩ (.int .i64 x))) := hsB
            have HDN : Hid ((j = 0 ∨ ∃ k, j = k + 1 ∧ nth L' k ≤ x) → (L'.set j x).Perm L ∧ ((L'.set j x).take (i + 1)).Pairwise (· ≤ ·)) := HM.out.done (by omega) HSR.out
            have HSL : Hid ((L'.set j x).length = acc.length) := by
              refine (?_ : _ = _)
              rw [List.length_set]; exact hl'
            clear hsA hsB
            cases j with
            | zero =>
              obtain ⟨hdp, hds⟩ := HDN.out (.inl rfl)
              have HDP : Hid ((L'.set 0 x).Perm acc) := hdp.trans HPM.out
              have HDS : Hid (((L'.set 0 x).take (i + 1)).Pairwise (· ≤ ·)) := hds
              clear hcell hfz hdp hds HDN
              go_wp2_with fail
              go_roundw
              case rel => exact ⟨i + 1, L'.set 0 x, by go_num, by omega, .inl (by omega), HSL.out, HDP.out, HDS.out, HSB.out, HSA.out⟩
              case measure => simp [intOf]; omega
            | succ j =>
              have hj1 := hcell j (by omega)
              obtain ⟨htA, htB⟩ := accL_set HA.out hl' HB.out (j + 1) (nth L' j)
              have HTA : Hid _ := htA
              have HTB : Hid (Below w.heap.size w (wr.setCell ⟨g, j + 1, none⟩ (.int .i64 (nth L' j)))) := htB
              have hjlz' : (j : Int) < (acc.length : Int) := by omega
              clear hcell hfz htA htB
              by_cases hlx : x < nth L' j
              · have HST : Hid (Mid L (L'.set (j + 1) (nth L' j)) i j x) := HM.out.step hlx
                clear HDN HSA HSB HSL
                generalize nth L' j = y at *
                go_wp2_with fail
                go_roundw
                case rel => exact ⟨j, L'.set (j + 1) y, by go_num, HST.out, HTB.out, HTA.out⟩
                case measure => simp [intOf]
              · obtain ⟨hdp, hds⟩ := HDN.out (.inr ⟨j, rfl, by omega⟩)
                have HDP : Hid ((L'.set (j + 1) x).Perm acc) := hdp.trans HPM.out
                have HDS : Hid (((L'.set (j + 1) x).take (i + 1)).Pairwise (· ≤ ·)) := hds
                clear hdp hds HDN HTA HTB
                generalize nth L' j = y at *
                go_wp2_with fail
                go_roundw
                case rel => exact ⟨i + 1, L'.set (j + 1) x, by go_num, by omega, .inl (by omega), HSL.out, HDP.out, HDS.out, HSB.out, HSA.out⟩
                case measure => simp [intOf]; omega
        · have hltz : ¬ (i : Int) < (acc.length : Int) := by omega
          have HSR' : Hid (L = srt acc) := by
            refine srt_unique HPM.out ?_
            have := HSR.out
            rwa [List.take_of_length_le (by omega)] at this
          go_wp2
          go_ret
          refine ⟨HB.out, _, rfl, ?_⟩
          rw [HACC.out, ← HSR'.out]
          exact HA.out
end Go.Proofs.Qxb6613730a
