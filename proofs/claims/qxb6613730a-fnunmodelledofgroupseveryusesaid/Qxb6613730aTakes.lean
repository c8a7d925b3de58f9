import Derived.Test.Qxb6613730aAcc
import Derived.Laws.CopyOwn
import Derived.Deep.Cut
import Derived.Deep.CutRange
import Derived.Deep.DeepCutAuto
import Derived.Deep.QuietTactic
import Derived.BigQuiet
set_option linter.unusedVariables false
namespace Go.Proofs.Qxb6613730a
open Go.RowKit Go.Shelf

theorem made43 (n : Nat) (hn : n ≤ 16777216) : ∃ mc : Array Value, mc.size = n ∧ ∀ W : World, (Instr.makeSlice 43 (.int .i64 (n : Int)) (.int .i64 (n : Int))).run Try.prog W = .ok (.slice (some ⟨W.heap.size, 0, none⟩) n n) (W.alloc (.cells mc 3)) := by
  obtain ⟨i, hi, hz, hs, hb⟩ := info_parts info3
  refine ⟨madeCells (Value.int .i64 0).cells (n * i.size), by rw [size_madeCells, hs, Nat.mul_one], fun W => ?_⟩
  have := run_make (P := Try.prog) W 43 3 i _ Try.underlying43 hi hz .i64 .i64 n n (by omega) (by omega) (by rw [hb]; omega) (by omega)
  simpa using this
theorem size3 : (Try.prog.info? 3).map (·.size) = some 1 := by kernel_rfl
theorem heap_new (W : World) (c : Array Value) (t : TypeId) : (W.alloc (.cells c t)).heap[W.heap.size]? = some (.cells c t (0, 0)) := by
  show (W.heap.push _)[W.heap.size]? = _; simp
theorem ints_of_row {W : World} {g : Nat} {L : List Value} {zs : List Int} (h : W.heap[g]? = some (.cells (splice L 0 (zs.map (Value.int .i64))).toArray 3 (0, 0))) (hL : L.length = zs.length) : IntsIn W W.heap.size (some ⟨g, 0, none⟩) zs := by
  intro j hj
  refine ⟨g, 0, rfl, lt_of_heap h, ?_⟩
  rw [Nat.zero_add]
  refine (heap_cell h ?_).1
  simp [splice, hj, nth_eq zs j hj, List.getElem?_append_left]
theorem ints_src {w : World} {B : Nat} {pl : Option Addr} {zs : List Int} (h : IntsIn w B pl zs) (W : World) (hB : Below B w W) (h0 : 0 < (zs.map (Value.int .i64)).length) : ∃ ad, pl = some ad ∧ ∀ (j : Nat) v, (zs.map (Value.int .i64))[j]? = some v → W.cell? (ad.add j) = some v := by
  obtain ⟨b, off, e, _, _⟩ := h 0 (by simpa using h0)
  refine ⟨_, e, fun j v hv => ?_⟩
  have hj : j < zs.length := by have := (List.getElem?_eq_some_iff.1 hv).1; simpa using this
  obtain ⟨b', off', e', hb', hc⟩ := h j hj
  rw [e] at e'
  cases e'
  have hv' : v = .int .i64 (nth zs j) := by
    rw [List.getElem?_map, List.getElem?_eq_getElem hj, ← nth_eq zs j hj] at hv
    simpa using hv.symm
  rw [hv', Addr.add_lit, hB.cell (p := ⟨b, off + j, none⟩) hb']
  exact hc

/-- 'own := make([]int, len(lines)); copy(own, lines)'. -/
theorem copied (ad : Addr) (c : Nat) (zs : List Int) (w : World) (hz : IntsIn w w.heap.size (some ad) zs) (mc : Array Value) (hmc : mc.size = zs.length) :
    ∃ w1, (Builtin.copy_ #[43, 43] 3 #[.slice (some ⟨w.heap.size, 0, none⟩) zs.length zs.length, .slice (some ad) zs.length c]).run Try.prog (w.alloc (.cells mc 3)) = .ok (.int .i64 (zs.length : Nat)) w1 ∧ IntsIn w1 w1.heap.size (some ⟨w.heap.size, 0, none⟩) zs ∧ Below w.heap.size w w1 := by
  have hB : Below w.heap.size w (w.alloc (.cells mc 3)) := (Below.refl _ w).alloc (Nat.le_refl _) _
  by_cases h0 : zs.length = 0
  · refine ⟨_, ?_, fun j hj => by omega, hB⟩
    rw [h0]
    exact run_copy_none _ 43 43 3 3 _ _ _ _ _ _ Try.underlying43 size3 (by simp)
  · obtain ⟨ad', e, hsrc⟩ := ints_src hz _ hB (by simp; omega)
    cases e
    have := run_copy_row (P := Try.prog) (w.alloc (.cells mc 3)) 43 43 3 3 w.heap.size 0 zs.length zs.length ad zs.length c mc 3 (zs.map (Value.int .i64)) Try.underlying43 size3 (heap_new w mc 3) (by simp) hsrc (by simp [hmc]) (by simp [Value.oneCell'])
    rw [List.length_map] at this
    refine ⟨_, this, ?_, below_setRow hB (Nat.le_refl _) _⟩
    refine ints_of_row (L := mc.toList) ?_ (by simpa using hmc)
    rw [setRow_heap _ _ _ _ _ _ (heap_new w mc 3)]
    simp [splice]

theorem pairsN_single (ps : List (ByteArray × Int)) : pairsN (ps.map fun p => [p.1]) = ps.length := by
  unfold pairsN
  rw [List.length_flatten, List.map_map]
  have : (List.length ∘ fun p : ByteArray × Int => [p.1]) = fun _ => 1 := rfl
  rw [this]
  induction ps with
  | nil => rfl
  | cons p ps ih => rw [List.map_cons, List.sum_cons, ih, List.length_cons]; omega
theorem Below.drewN {B : Nat} {A W : World} (h : RowKit.Below B A W) (q : Nat) : RowKit.Below B A (W.drewN q) := ⟨h.os, h.tape, h.output, h.size, h.block⟩

set_option maxRecDepth 100000 in
set_option maxHeartbeats 8000000 in
theorem takes_w (pl pk : Option Addr) (cl0 ck : Nat) (zs : List Int) (kk : List (List ByteArray)) (w : World) (hz : IntsIn w w.heap.size pl zs) (hk : StrssIn w w.heap.size pk kk) (hzl : zs.length ≤ maxLen) (hkl : kk.length ≤ maxLen) :
    Calls Try.prog 7 #[.slice pl zs.length cl0, .slice pk kk.length ck] w fun e w' => e = .returned (.bool true) ∧ Below w.heap.size w w' := by
  have HZM : Hid (zs.length ≤ maxLen) := hzl
  have HKM : Hid (kk.length ≤ maxLen) := hkl
  have HZ : Hid (IntsIn w w.heap.size pl zs) := hz
  have HK : Hid (StrssIn w w.heap.size pk kk) := hk
  unfold maxLen at hzl hkl
  clear hz hk
  by_cases h0 : 4096 < zs.length
  · have h0' : (4096 : Int) < zs.length := by omega
    go_enter Try.func7, Try.ntmps7
    go_wp2_with fail
    refine (bytes27 w.heap.size pl zs.length cl0 pk ck kk w HK.out HZM.out HKM.out).mono ?_
    rintro _ _ ⟨rfl | rfl, rfl⟩
    · go_wp2
      go_ret
      exact ⟨rfl, Below.refl _ _⟩
    · go_wp2
      go_ret
      exact ⟨rfl, Below.refl _ _⟩
  have h0' : ¬ (4096 : Int) < zs.length := by omega
  by_cases h1 : 4096 < kk.length
  · have h1' : (4096 : Int) < kk.length := by omega
    go_enter Try.func7, Try.ntmps7
    go_wp2_with fail
    refine (bytes27 w.heap.size pl zs.length cl0 pk ck kk w HK.out HZM.out HKM.out).mono ?_
    rintro _ _ ⟨rfl | rfl, rfl⟩
    · go_wp2
      go_ret
      exact ⟨rfl, Below.refl _ _⟩
    · go_wp2
      go_ret
      exact ⟨rfl, Below.refl _ _⟩
  have h1' : ¬ (4096 : Int) < kk.length := by omega
  go_enter Try.func7, Try.ntmps7
  go_wp2_with fail
  refine (bytes27 w.heap.size pl zs.length cl0 pk ck kk w HK.out HZM.out HKM.out).mono ?_
  rintro _ w1 ⟨hb27, hw1⟩
  have hw1 := hw1.symm
  subst hw1
  rcases hb27 with rfl | rfl
  rotate_left 1
  · go_wp2
    go_ret
    exact ⟨rfl, Below.refl _ _⟩
  go_wp2_with fail
  refine (usesOut w.heap.size pl zs.length cl0 pk ck kk w HK.out HZM.out HKM.out).mono ?_
  rintro _ w1 ⟨hb21, hw1⟩
  have hw1 := hw1.symm
  subst hw1
  rcases hb21 with rfl | ⟨rfl, hl, h4096, hp⟩
  · go_wp2
    go_ret
    exact ⟨rfl, Below.refl _ _⟩
  have HL : Hid (zs.length = kk.length) := hl
  clear hl h0 h1
  go_upto_if 34 with fail
  go_cut [0] (fun s0 wx => ∃ (p0 : Option Addr) (c0 : Nat), s0 = .slice p0 zs.length c0 ∧ Hid (IntsIn wx wx.heap.size p0 zs) ∧ Hid (Below w.heap.size w wx))
  case first =>
    cases pl with
    | none =>
      go_wp2
      go_meet
      exact ⟨none, cl0, rfl, HZ.out, Below.refl _ _⟩
    | some ad =>
      obtain ⟨mc, hmc, hmk⟩ := made43 zs.length (by have := HL.out; omega)
      have hmk := hmk w
      obtain ⟨w1, hcp, HI1, HB1⟩ := copied ad cl0 zs w HZ.out mc hmc
      have HI1 : Hid _ := HI1
      have HB1 : Hid _ := HB1
      go_wp2
      go_meet
      exact ⟨_, _, rfl, HI1.out, HB1.out⟩
  case rest =>
    obtain ⟨p0, c0, rfl, HI, HB⟩ := hcut
    have HKc : Hid (StrssIn wc wc.heap.size pk kk) := (HK.out.below HB.out).mono HB.out.size
    clear HZ hw1
    go_wp2_with fail
    refine (pairs_any wc.heap.size pk ck kk wc HKc.out HKM.out hp).mono ?_
    rintro _ wd ⟨rfl, hwd⟩
    have hwd := hwd.symm
    subst hwd
    go_wp2_with fail
    refine (zzunm p0 pk c0 ck zs kk wc HI.out HKc.out HL.out h4096 hp).mono ?_
    rintro _ W1 ⟨hB1, fb, rs, rfl, hans, hlaid⟩
    have HB1 : Hid (Below w.heap.size w W1) := HB.out.trans (hB1.mono HB.out.size)
    have HA : Hid (Ans (groups (zs.zip kk)) rs) := hans
    have HLD : Hid (Laid wc.heap.size W1 fb rs) := hlaid
    have hcnt := ans_count zs kk rs HL.out hans
    have HDC : Hid (rs.length = dcount kk.flatten) := hcnt.1
    have HLN : Hid (linesN rs = pairsN kk) := hcnt.2
    have hrl : rs.length ≤ 4096 := by
      have h1 := dcount_le kk.flatten
      have h2 : kk.flatten.length ≤ 4096 := hp
      omega
    have HK1 : Hid (StrssIn W1 wc.heap.size pk kk) := HKc.out.below hB1
    have SZ1 : wc.heap.size ≤ W1.heap.size := hB1.size
    clear hans hlaid hcnt HKc HI hB1 HB
    go_wp2_with fail
    go_loopw [8, 9, 10, 49] (fun s8 s9 s10 s49 wr => ∃ (i : Nat), s49 = .int .i64 i ∧ i ≤ rs.length ∧ s10 = .int .i64 (linesN (rs.take i) : Nat) ∧ Hid (Below W1.heap.size W1 wr) ∧ Hid (AccL W1.heap.size wr s8 ((flatR (rs.take i)).map Prod.snd)) ∧ Hid (AccK W1.heap.size wr s9 ((flatR (rs.take i)).map Prod.fst)))
      (fun _ _ _ s49 _ => rs.length - (intOf s49).toNat)
    case atStart => exact ⟨0, rfl, Nat.zero_le _, rfl, Below.refl _ _, World.ownsRow_nil _ _ _ _, ⟨[], rfl, World.ownsRow_nil _ _ _ _, fun e he => absurd he (by simp)⟩⟩
    case round =>
      obtain ⟨i, rfl, hi, rfl, HBr, HAL, HAK⟩ := hrel
      by_cases hlt : i < rs.length
      · have hltz : (i : Int) < (rs.length : Int) := by omega
        obtain ⟨lb, cap, hc0, hc1, hlb, hlbs, hcap, _, hpos, hcs⟩ := HLD.out.2.2 i hlt
        have hfbs := HLD.out.2.1
        have HTK : Hid (linesN (rs.take (i + 1)) = linesN (rs.take i) + (nth rs i).2.length) := linesN_take rs i hlt
        have HTF : Hid (flatR (rs.take (i + 1)) = flatR (rs.take i) ++ (nth rs i).2.map fun z => ((nth rs i).1, z)) := flatR_take rs i hlt
        have htot : linesN (rs.take i) + (nth rs i).2.length ≤ pairsN kk := by
          rw [← HTK.out, ← HLN.out]; exact linesN_take_le rs (i + 1)
        generalize hN : linesN (rs.take i) = L at *
        generalize hps : flatR (rs.take i) = ps at *
        have hpl : ps.length = L := by rw [← hps, flatR_len, hN]
        clear hN hps
        generalize nth rs i = r at *
        obtain ⟨m, ls⟩ := r
        dsimp only at *
        have HC0 : Hid (W1.cell? ⟨fb, i * 2, none⟩ = some (.string m)) := hc0
        have HC1 : Hid (W1.cell? ⟨fb, i * 2 + 1, none⟩ = some (.slice (some ⟨lb, 0, none⟩) ls.length cap)) := hc1
        have HCS : Hid (∀ t, t < ls.length → W1.cell? ⟨lb, t, none⟩ = some (.int .i64 (nth ls t))) := hcs
        have hc1 : wr.cell? ⟨fb, i * 2 + 1, none⟩ = some (.slice (some ⟨lb, 0, none⟩) ls.length cap) := (HBr.out.cell (p := ⟨fb, i * 2 + 1, none⟩) hfbs).trans HC1.out
        clear hc0 hcs
        go_wp2_with fail
        go_loopw [8, 9, 68] (fun s8 s9 s68 wr2 => ∃ (j : Nat), s68 = .int .i64 j ∧ j ≤ ls.length ∧ Hid (Below W1.heap.size W1 wr2) ∧ Hid (AccL W1.heap.size wr2 s8 ((ps ++ (ls.take j).map fun z => (m, z)).map Prod.snd)) ∧ Hid (AccK W1.heap.size wr2 s9 ((ps ++ (ls.take j).map fun z => (m, z)).map Prod.fst)))
          (fun _ _ s68 _ => ls.length - (intOf s68).toNat)
        case atStart => exact ⟨0, rfl, Nat.zero_le _, HBr.out, by show AccL _ _ _ _; simpa using HAL.out, by show AccK _ _ _ _; simpa using HAK.out⟩
        case round =>
          clear hc1
          obtain ⟨j, rfl, hj, HB2, HAL2, HAK2⟩ := hrel
          have hc1 : wr.cell? ⟨fb, i * 2 + 1, none⟩ = some (.slice (some ⟨lb, 0, none⟩) ls.length cap) := (HB2.out.cell (p := ⟨fb, i * 2 + 1, none⟩) hfbs).trans HC1.out
          by_cases hjl : j < ls.length
          · have hjz : (j : Int) < (ls.length : Int) := by omega
            have hcz : wr.cell? ⟨lb, j, none⟩ = some (.int .i64 (nth ls j)) := (HB2.out.cell (p := ⟨lb, j, none⟩) hlbs).trans (HCS.out j hjl)
            have HTJ : Hid (ls.take (j + 1) = ls.take j ++ [nth ls j]) := take_nth ls j hjl
            have hpj : ((ps ++ (ls.take j).map fun z => (m, z)).length) ≤ 4096 := by
              rw [List.length_append, List.length_map, List.length_take]; omega
            have HQ : Hid ((ps ++ (ls.take (j + 1)).map fun z => (m, z)) = (ps ++ (ls.take j).map fun z => (m, z)) ++ [(m, nth ls j)]) := by
              refine (?_ : _ = _)
              rw [HTJ.out]; simp
            generalize (ps ++ (ls.take j).map fun z => (m, z)) = qs at *
            generalize nth ls j = z at *
            have SB2 := HB2.out.size
            go_wp2_with (first
              | (at_builtin; refine append43_p _ rfl _ _ rfl W1.heap.size _ (qs.map Prod.snd).length ((qs.map Prod.snd).map (Value.int .i64)) rfl (HAL2.out.alloc _) wr.heap.size z rfl (by simp) (by rw [List.length_map]; omega) (by simp; omega) ?_; intro g2 cap2 w2 hown2 hg2; obtain ⟨hB3, hL3, hK3⟩ := acc_line HB2.out SB2 HAL2.out HAK2.out hown2 hg2; have HB3 : Hid (Below W1.heap.size W1 w2) := hB3; have HAL3 : Hid _ := hL3; have HAK3 : Hid _ := hK3; have hc0 : w2.cell? ⟨fb, i * 2, none⟩ = some (.string m) := (HB3.out.cell (p := ⟨fb, i * 2, none⟩) hfbs).trans HC0.out; have SB3 := HB3.out.size; clear hB3 hL3 hK3 hown2 hg2)
              | (at_builtin; obtain ⟨xs9, hown9, hst9⟩ := acc_kind HB3.out SB3 HAL3.out HAK3.out m; refine append35_p _ rfl _ _ rfl W1.heap.size _ (qs.map Prod.fst).length xs9 rfl hown9 (w2.heap.size + 1) (.slice (some ⟨w2.heap.size, 0, none⟩) 1 1) rfl rfl (cell_new_at _ _ _ _ (by simp)) (by rw [List.length_map]; omega) (by simp; omega) ?_; intro g5 cap5 w5 hown5 hg5; obtain ⟨hB5, hL5, hK5⟩ := hst9 _ w5 hown5 hg5; have HB5 : Hid (Below W1.heap.size W1 w5) := hB5; have HAL5 : Hid _ := hL5; have HAK5 : Hid _ := hK5; clear hB5 hL5 hK5 hown9 hst9 hown5 hg5))
            go_roundw
            case rel =>
              refine ⟨j + 1, by go_num, by omega, HB5.out, ?_, ?_⟩
              · have h := HAL5.out
                rw [List.length_map] at h
                rw [HQ.out, List.map_append]; exact h
              · have h := HAK5.out
                rw [List.length_map] at h
                rw [HQ.out, List.map_append]; exact h
            case measure => simp [intOf]; omega
          · have hjz : ¬ (j : Int) < (ls.length : Int) := by omega
            have hje : j = ls.length := by omega
            have HQ : Hid (flatR (rs.take (i + 1)) = ps ++ (ls.take j).map fun z => (m, z)) := by
              refine (?_ : _ = _)
              rw [HTF.out, hje, List.take_length]
            clear HTF hje
            go_wp2_with fail
            go_roundw
            case rel =>
              refine ⟨i + 1, by go_num, by omega, ?_, HB2.out, ?_, ?_⟩
              · rw [HTK.out]; go_num
              · rw [HQ.out]; exact HAL2.out
              · rw [HQ.out]; exact HAK2.out
            case measure => simp [intOf]; omega
      · have hltz : ¬ (i : Int) < (rs.length : Int) := by omega
        have hie : i = rs.length := by omega
        subst hie
        rw [List.take_length] at *
        have HSZ : Hid (∀ m ∈ (flatR rs).map Prod.fst, m.size ≤ maxLen) := ans_sizes HL.out HK.out HA.out
        obtain ⟨p8, c8, rfl, hI8⟩ := HAL.out.ints
        obtain ⟨p9, c9, rfl, hK9⟩ := HAK.out.strss HSZ.out
        rw [List.map_map] at hK9 ⊢
        have HQL : Hid ((flatR rs).length ≤ 4096) := by
          refine (?_ : (_ : Nat) ≤ _)
          rw [flatR_len, HLN.out]; exact hp
        have HI8 : Hid (IntsIn wr wr.heap.size p8 ((flatR rs).map Prod.snd)) := hI8
        have HK9 : Hid (StrssIn wr wr.heap.size p9 ((flatR rs).map fun p => [p.1])) := hK9
        have HKr : Hid (StrssIn wr wc.heap.size pk kk) := HK1.out.below (HBr.out.mono SZ1)
        clear HAL HAK HSZ hI8 hK9 HK1
        have HZ2 : Hid (∃ zs2 kk2, zs2 = (flatR rs).map Prod.snd ∧ kk2 = (flatR rs).map fun p => [p.1]) := ⟨_, _, rfl, rfl⟩
        have hl8 : (List.map Prod.snd (flatR rs)).length = (flatR rs).length := List.length_map _
        go_wp2_with fail
        go_loop [13, 14, 103] (fun s13 s14 s103 => ∃ (k : Nat), k ≤ kk.length ∧ s103 = .int .i64 k ∧ s14 = .int .i64 (pairsN (kk.take k) : Nat) ∧ s13 = .int .i64 (dcount (kk.take k).flatten : Nat)) (fun _ _ s103 => kk.length - (intOf s103).toNat)
        case atStart => exact ⟨0, Nat.zero_le _, rfl, rfl, rfl⟩
        case round =>
          obtain ⟨k, hkk, rfl, rfl, rfl⟩ := hrel
          by_cases hklt : k < kk.length
          · have hkz : (k : Int) < (kk.length : Int) := by omega
            obtain ⟨b, off, q, d, rfl, hbb, hc, hrow, HR⟩ := HKr.out k hklt
            unfold maxLen at hrow
            have HR' : Hid (StrsIn wr wc.heap.size q (nth kk k)) := HR
            clear HR
            have HFR : Hid ((kk.take (k + 1)).flatten = (kk.take k).flatten ++ (nth kk k).take (nth kk k).length) := flatten_take_row kk k hklt
            have HPS : Hid (pairsN (kk.take (k + 1)) = pairsN (kk.take k) + (nth kk k).length) := pairsN_take_succ kk k hklt
            have hsum : pairsN (kk.take k) + (nth kk k).length ≤ 4096 := by
              have := pairsN_take_le kk (k + 1)
              rw [HPS.out] at this
              omega
            have HPL : Hid ((kk.take k).flatten.length = pairsN (kk.take k)) := (rfl : _ = pairsN (kk.take k))
            have HCUT : Hid (∀ j, j < (nth kk k).length → kk.flatten = ((kk.take k).flatten ++ (nth kk k).take j) ++ nth (nth kk k) j :: ((nth kk k).drop (j + 1) ++ (kk.drop (k + 1)).flatten)) := fun j hj => flatten_cut kk k j hklt hj
            generalize pairsN (kk.take k) = X at *
            generalize (kk.take k).flatten = F at *
            generalize nth kk k = row at *
            go_wp2_with fail
            go_loop [13, 14, 111] (fun s13 s14 s111 => ∃ (j : Nat), j ≤ row.length ∧ s111 = .int .i64 j ∧ s14 = .int .i64 (X + j : Nat) ∧ s13 = .int .i64 (dcount (F ++ row.take j) : Nat)) (fun _ _ s111 => row.length - (intOf s111).toNat)
            case atStart => exact ⟨0, Nat.zero_le _, rfl, rfl, by simp⟩
            case round =>
              obtain ⟨j, hj, rfl, rfl, rfl⟩ := hrel
              by_cases hjlt : j < row.length
              · have hjz : (j : Int) < (row.length : Int) := by omega
                obtain ⟨b', off', rfl, _, hcs, _⟩ := HR'.out j hjlt
                have HCJ := HCUT.out j hjlt
                have HTJ : Hid (row.take (j + 1) = row.take j ++ [nth row j]) := take_nth row j hjlt
                have HLP : Hid ((F ++ row.take j).length = X + j) := by
                  refine (?_ : _ = _)
                  rw [List.length_append, HPL.out, List.length_take]; omega
                have hdl : dcount (F ++ row.take j) ≤ X + j := by rw [← HLP.out]; exact dcount_le _
                have HFJ : Hid (F ++ row.take (j + 1) = (F ++ row.take j) ++ [nth row j]) := by
                  refine (?_ : _ = _)
                  rw [HTJ.out, List.append_assoc]
                by_cases hm : nth row j ∈ F ++ row.take j
                · have hf : firstUse kk.flatten (nth row j) < (X + j : Nat) := by
                    rw [HCJ, ← HLP.out]; exact firstUse_early _ _ _ hm
                  have HD : Hid (dcount (F ++ row.take (j + 1)) = dcount (F ++ row.take j)) := by
                    refine (?_ : _ = _)
                    rw [HFJ.out, dcount_old _ _ hm]
                  have HCJ' : Hid _ := HCJ
                  clear hm HCJ
                  generalize hfu : firstUse kk.flatten (nth row j) = f at *
                  have HFU : Hid (firstUse kk.flatten (nth row j) = f) := hfu
                  clear hfu
                  have hfb : (f == ((X : Int) + (j : Int))) = false := by rw [beq_eq_false_iff_ne]; omega
                  go_wp2_with (go_at_call 25; refine (firstUse_any wc.heap.size (some ⟨b, off, none⟩) ck kk (nth row j) wr HKr.out HKM.out hp).mono ?_; rintro _ w9 ⟨rfl, hw9⟩; have hw9 := hw9.symm; subst hw9; rw [HFU.out])
                  go_round
                  case rel => exact ⟨j + 1, by omega, by go_num, by go_num, by rw [HD.out]⟩
                  case measure => simp [intOf]; omega
                · have hf : firstUse kk.flatten (nth row j) = (X + j : Nat) := by
                    rw [HCJ, ← HLP.out]; exact firstUse_hit _ _ _ hm
                  have HD : Hid (dcount (F ++ row.take (j + 1)) = dcount (F ++ row.take j) + 1) := by
                    refine (?_ : _ = _)
                    rw [HFJ.out, dcount_new _ _ hm]
                  have HFU : Hid _ := hf
                  clear hm HCJ hf
                  go_wp2_with (go_at_call 25; refine (firstUse_any wc.heap.size (some ⟨b, off, none⟩) ck kk (nth row j) wr HKr.out HKM.out hp).mono ?_; rintro _ w9 ⟨rfl, hw9⟩; have hw9 := hw9.symm; subst hw9; rw [HFU.out])
                  go_round
                  case rel => exact ⟨j + 1, by omega, by go_num, by go_num, by rw [HD.out]; go_num⟩
                  case measure => simp [intOf]; omega
              · have hjz : ¬ (j : Int) < (row.length : Int) := by omega
                have hje : j = row.length := by omega
                have HD : Hid (dcount (kk.take (k + 1)).flatten = dcount (F ++ row.take j)) := by
                  refine (?_ : _ = _)
                  rw [HFR.out, hje]
                go_wp2_with fail
                go_round
                case rel => exact ⟨k + 1, by omega, by go_num, by rw [HPS.out, hje], by rw [HD.out]⟩
                case measure => simp [intOf]; omega
          · have hkz : ¬ (k : Int) < (kk.length : Int) := by omega
            have hke : k = kk.length := by omega
            subst hke
            rw [List.take_length] at *
            rw [← HDC.out, HLN.out]
            go_wp2_with fail
            have hcz := zzunm p8 p9 c8 c9 ((flatR rs).map Prod.snd) ((flatR rs).map fun p => [p.1]) wr HI8.out HK9.out (by simp) (by rw [List.length_map]; exact HQL.out) (by rw [pairsN_single]; exact HQL.out)
            rw [List.length_map, List.length_map] at hcz
            refine hcz.mono ?_
            clear hcz
            rintro _ W2 ⟨hB2, fb2, rs2, rfl, hans2, hlaid2⟩
            have hrs : rs2 = rs := roundtrip zs kk rs rs2 HA.out hans2
            subst hrs
            have HBw : Hid (Below w.heap.size w W2) := HB1.out.trans ((HBr.out.trans (hB2.mono HBr.out.size)).mono HB1.out.size)
            have HLD1 : Hid (Laid wc.heap.size W2 fb rs2) := HLD.out.below (HBr.out.trans (hB2.mono HBr.out.size))
            have HLD2 : Hid (Laid wr.heap.size W2 fb2 rs2) := hlaid2
            clear hans2 hlaid2 hB2 HLD HI8 HK9 HKr HK HBr HA HB1
            go_wp2_with fail
            go_loopw [150] (fun s150 wv => ∃ (i : Nat), s150 = .int .i64 i ∧ i ≤ rs2.length ∧ Hid (Below W2.heap.size W2 wv)) (fun s150 _ => rs2.length - (intOf s150).toNat)
            case atStart => exact ⟨0, rfl, Nat.zero_le _, Below.refl _ _⟩
            case round =>
              obtain ⟨i, rfl, hi, HBv⟩ := hrel
              by_cases hlt : i < rs2.length
              · have hltz : (i : Int) < (rs2.length : Int) := by omega
                obtain ⟨la, ca, n1, s1, _, la1, hca, hcm, _, l1⟩ := HLD1.out.2.2 i hlt
                unfold maxLen at hcm
                obtain ⟨lb, cb, n2, s2, _, lb1, _, _, _, l2⟩ := HLD2.out.2.2 i hlt
                have hf1 := HLD1.out.2.1
                have hf2 := HLD2.out.2.1
                generalize nth rs2 i = r at *
                obtain ⟨m, ls⟩ := r
                dsimp only at *
                have HL1 : Hid (∀ t, t < ls.length → W2.cell? ⟨la, t, none⟩ = some (.int .i64 (nth ls t))) := l1
                have HL2 : Hid (∀ t, t < ls.length → W2.cell? ⟨lb, t, none⟩ = some (.int .i64 (nth ls t))) := l2
                have HS1 : Hid (W2.cell? ⟨fb, i * 2 + 1, none⟩ = some (.slice (some ⟨la, 0, none⟩) ls.length ca)) := s1
                have HS2 : Hid (W2.cell? ⟨fb2, i * 2 + 1, none⟩ = some (.slice (some ⟨lb, 0, none⟩) ls.length cb)) := s2
                have c1 : wr.cell? ⟨fb, i * 2, none⟩ = some (.string m) := (HBv.out.cell (p := ⟨fb, i * 2, none⟩) hf1).trans n1
                have c2 : wr.cell? ⟨fb2, i * 2, none⟩ = some (.string m) := (HBv.out.cell (p := ⟨fb2, i * 2, none⟩) hf2).trans n2
                have e1 : wr.cell? ⟨fb, i * 2 + 1, none⟩ = some (.slice (some ⟨la, 0, none⟩) ls.length ca) := (HBv.out.cell (p := ⟨fb, i * 2 + 1, none⟩) hf1).trans s1
                have e2 : wr.cell? ⟨fb2, i * 2 + 1, none⟩ = some (.slice (some ⟨lb, 0, none⟩) ls.length cb) := (HBv.out.cell (p := ⟨fb2, i * 2 + 1, none⟩) hf2).trans s2
                clear l1 l2 n1 n2 s1 s2
                go_wp2_with fail
                go_quiet (fail)
                go_wp2_with fail
                go_loopw [185] (fun s185 wv => ∃ (j : Nat), s185 = .int .i64 j ∧ j ≤ ls.length ∧ Hid (RowKit.Below W2.heap.size W2 wv)) (fun s185 _ => ls.length - (intOf s185).toNat)
                case atStart => exact ⟨0, rfl, Nat.zero_le _, Below.drewN HBv.out _⟩
                case round =>
                  clear c1 c2 e1 e2
                  obtain ⟨j, rfl, hj, HBu⟩ := hrel
                  have e1 : wr.cell? ⟨fb, i * 2 + 1, none⟩ = some (.slice (some ⟨la, 0, none⟩) ls.length ca) := (HBu.out.cell (p := ⟨fb, i * 2 + 1, none⟩) hf1).trans HS1.out
                  have e2 : wr.cell? ⟨fb2, i * 2 + 1, none⟩ = some (.slice (some ⟨lb, 0, none⟩) ls.length cb) := (HBu.out.cell (p := ⟨fb2, i * 2 + 1, none⟩) hf2).trans HS2.out
                  by_cases hjl : j < ls.length
                  · have hjz : (j : Int) < (ls.length : Int) := by omega
                    have z1 : wr.cell? ⟨la, j, none⟩ = some (.int .i64 (nth ls j)) := (HBu.out.cell (p := ⟨la, j, none⟩) la1).trans (HL1.out j hjl)
                    have z2 : wr.cell? ⟨lb, j, none⟩ = some (.int .i64 (nth ls j)) := (HBu.out.cell (p := ⟨lb, j, none⟩) lb1).trans (HL2.out j hjl)
                    go_wp2_with fail
                    go_quiet (fail)
                    go_wp2_with fail
                    go_roundw
                    case rel => exact ⟨j + 1, by go_num, by omega, Below.drewN HBu.out _⟩
                    case measure => simp [intOf]; omega
                  · have hjz : ¬ (j : Int) < (ls.length : Int) := by omega
                    go_wp2_with fail
                    go_roundw
                    case rel => exact ⟨i + 1, by go_num, by omega, HBu.out⟩
                    case measure => simp [intOf]; omega
              · have hltz : ¬ (i : Int) < (rs2.length : Int) := by omega
                go_wp2
                go_ret
                exact ⟨rfl, HBw.out.trans (HBv.out.mono HBw.out.size)⟩
end Go.Proofs.Qxb6613730a
