import Derived.Test.Qxb6613730aTakes
import Derived.Test.Qxb6613730aLines
set_option linter.unusedVariables false
namespace Go.Proofs.Qxb6613730a
open Go.RowKit Go.Shelf

theorem old_cell (W : World) (ob : Obj) (b o : Nat) (v : Value) (h : W.cell? ⟨b, o, none⟩ = some v) : (W.alloc ob).cell? ⟨b, o, none⟩ = some v := by
  have hb : b < W.heap.size := by
    by_cases hb : b < W.heap.size
    · exact hb
    · unfold World.cell? at h
      rw [Array.getElem?_eq_none (Nat.le_of_not_lt hb)] at h
      cases h
  exact (((RowKit.Below.refl W.heap.size W).alloc (Nat.le_refl _) ob).cell (p := ⟨b, o, none⟩) hb).trans h

set_option maxRecDepth 100000 in
set_option maxHeartbeats 8000000 in
theorem groups_w (pl pk : Option Addr) (cl0 ck : Nat) (zs : List Int) (kk : List (List ByteArray)) (w : World) (hz : IntsIn w w.heap.size pl zs) (hk : StrssIn w w.heap.size pk kk) (hzl : zs.length ≤ maxLen) (hkl : kk.length ≤ maxLen) :
    Calls Try.prog 6 #[.slice pl zs.length cl0, .slice pk kk.length ck] w fun e w' => e = .returned (.bool true) ∧ RowKit.Below w.heap.size w w' := by
  have HZM : Hid (zs.length ≤ maxLen) := hzl
  have HKM : Hid (kk.length ≤ maxLen) := hkl
  have HZ : Hid (IntsIn w w.heap.size pl zs) := hz
  have HK : Hid (StrssIn w w.heap.size pk kk) := hk
  unfold maxLen at hzl hkl
  clear hz hk
  by_cases h0 : 4096 < zs.length
  · have h0' : (4096 : Int) < zs.length := by omega
    go_enter Try.func6, Try.ntmps6
    go_wp2_with fail
    refine (bytes20 w.heap.size pl zs.length cl0 pk ck kk w HK.out HZM.out HKM.out).mono ?_
    rintro _ _ ⟨rfl | rfl, rfl⟩
    · go_wp2
      go_ret
      exact ⟨rfl, Below.refl _ _⟩
    · go_wp2
      go_ret
      exact ⟨rfl, Below.refl _ _⟩
  have h0' : ¬ (4096 : Int) < zs.length := by omega
  by_cases h1 : 4096 < kk.length
  · have h1' : (4096 : Int) < kk.length := by omega
    go_enter Try.func6, Try.ntmps6
    go_wp2_with fail
    refine (bytes20 w.heap.size pl zs.length cl0 pk ck kk w HK.out HZM.out HKM.out).mono ?_
    rintro _ _ ⟨rfl | rfl, rfl⟩
    · go_wp2
      go_ret
      exact ⟨rfl, Below.refl _ _⟩
    · go_wp2
      go_ret
      exact ⟨rfl, Below.refl _ _⟩
  have h1' : ¬ (4096 : Int) < kk.length := by omega
  go_enter Try.func6, Try.ntmps6
  go_wp2_with fail
  refine (bytes20 w.heap.size pl zs.length cl0 pk ck kk w HK.out HZM.out HKM.out).mono ?_
  rintro _ w1 ⟨hb20, hw1⟩
  have hw1 := hw1.symm
  subst hw1
  rcases hb20 with rfl | rfl
  rotate_left 1
  · go_wp2
    go_ret
    exact ⟨rfl, Below.refl _ _⟩
  go_wp2_with fail
  refine (usesOut w.heap.size pl zs.length cl0 pk ck kk w HK.out HZM.out HKM.out).mono ?_
  rintro _ w1 ⟨hb21, hw1⟩
  have hw1 := hw1.symm
  subst hw1
  rcases hb21 with rfl | ⟨rfl, hl, h4096, hp⟩
  · go_wp2
    go_ret
    exact ⟨rfl, Below.refl _ _⟩
  have HL : Hid (zs.length = kk.length) := hl
  clear hl h0 h1
  go_upto_if 29 with fail
  go_cut [0] (fun s0 wx => ∃ (p0 : Option Addr) (c0 : Nat), s0 = .slice p0 zs.length c0 ∧ Hid (IntsIn wx wx.heap.size p0 zs) ∧ Hid (RowKit.Below w.heap.size w wx))
  case first =>
    cases pl with
    | none =>
      go_wp2
      go_meet
      exact ⟨none, cl0, rfl, HZ.out, Below.refl _ _⟩
    | some ad =>
      obtain ⟨mc, hmc, hmk⟩ := made43 zs.length (by have := HL.out; omega)
      have hmk := hmk w
      obtain ⟨w1, hcp, HI1, HB1⟩ := copied ad cl0 zs w HZ.out mc hmc
      have HI1 : Hid _ := HI1
      have HB1 : Hid _ := HB1
      go_wp2
      go_meet
      exact ⟨_, _, rfl, HI1.out, HB1.out⟩
  case rest =>
    obtain ⟨p0, c0, rfl, HI, HB⟩ := hcut
    have HKc : Hid (StrssIn wc wc.heap.size pk kk) := (HK.out.below HB.out).mono HB.out.size
    clear HZ hw1
    go_wp2_with fail
    refine (zzunm p0 pk c0 ck zs kk wc HI.out HKc.out HL.out h4096 hp).mono ?_
    rintro _ W1 ⟨hB1, fb, rs, rfl, hans, hlaid⟩
    have HB1 : Hid (RowKit.Below w.heap.size w W1) := HB.out.trans (hB1.mono HB.out.size)
    have HA : Hid (Ans (groups (zs.zip kk)) rs) := hans
    have HLD : Hid (Laid wc.heap.size W1 fb rs) := hlaid
    have hcnt := ans_count zs kk rs HL.out hans
    have HLN : Hid (linesN rs = pairsN kk) := hcnt.2
    have hrl : rs.length ≤ 4096 := by
      have h1 := dcount_le kk.flatten
      have h2 : kk.flatten.length ≤ 4096 := hp
      omega
    have HK1 : Hid (StrssIn W1 wc.heap.size pk kk) := HKc.out.below hB1
    have HI1 : Hid (IntsIn W1 wc.heap.size p0 zs) := HI.out.below hB1
    have SZ1 : wc.heap.size ≤ W1.heap.size := hB1.size
    have HALL : Hid (∀ k, k < kk.length → ∀ j, j < (nth kk k).length → nth (nth kk k) j ∈ names rs) := fun k hk j hj => by
      refine (ans_names hans).mem_iff.2 ?_
      rw [groups_flat, names_mem, flatU_fst zs kk HL.out]
      exact List.mem_flatten.2 ⟨nth kk k, nth_mem kk k hk, nth_mem _ j hj⟩
    clear hans hlaid hcnt HKc HI hB1 HB
    go_wp2_with fail
    go_loop [42] (fun s42 => ∃ (k : Nat), k ≤ kk.length ∧ s42 = .int .i64 k) (fun s42 => kk.length - (intOf s42).toNat)
    case atStart => exact ⟨0, Nat.zero_le _, rfl⟩
    case round =>
      obtain ⟨k, hkk, rfl⟩ := hrel
      by_cases hklt : k < kk.length
      · have hkz : (k : Int) < (kk.length : Int) := by omega
        obtain ⟨b, off, q, d, rfl, hbb, hc, hrow, HR⟩ := HK1.out k hklt
        unfold maxLen at hrow
        have HR' : Hid (StrsIn W1 wc.heap.size q (nth kk k)) := HR
        have HM : Hid (∀ j, j < (nth kk k).length → nth (nth kk k) j ∈ names rs) := HALL.out k hklt
        clear HR
        generalize nth kk k = row at *
        go_wp2_with fail
        go_loop [50] (fun s50 => ∃ (j : Nat), j ≤ row.length ∧ s50 = .int .i64 j) (fun s50 => row.length - (intOf s50).toNat)
        case atStart => exact ⟨0, Nat.zero_le _, rfl⟩
        case round =>
          obtain ⟨j, hj, rfl⟩ := hrel
          by_cases hjlt : j < row.length
          · have hjz : (j : Int) < (row.length : Int) := by omega
            obtain ⟨b', off', rfl, _, hcs, _⟩ := HR'.out j hjlt
            go_wp2_with (go_at_call 23; refine (hasKind wc.heap.size fb rs.length rs (nth row j) W1 HLD.out (HM.out j hjlt) hrl).mono ?_; rintro _ w9 ⟨rfl, hw9⟩; have hw9 := hw9.symm; subst hw9)
            go_round
            case rel => exact ⟨j + 1, by omega, by go_num⟩
            case measure => simp [intOf]; omega
          · have hjz : ¬ (j : Int) < (row.length : Int) := by omega
            go_wp2_with fail
            go_round
            case rel => exact ⟨k + 1, by omega, by go_num⟩
            case measure => simp [intOf]; omega
      · have hkz : ¬ (k : Int) < (kk.length : Int) := by omega
        go_wp2_with fail
        go_loopw [9, 67] (fun s9 s67 wv => ∃ (i : Nat), s67 = .int .i64 i ∧ i ≤ rs.length ∧ s9 = .int .i64 (linesN (rs.take i) : Nat) ∧ Hid (RowKit.Below W1.heap.size W1 wv)) (fun _ s67 _ => rs.length - (intOf s67).toNat)
        case atStart => exact ⟨0, rfl, Nat.zero_le _, rfl, Below.refl _ _⟩
        case round =>
          obtain ⟨i, rfl, hi, rfl, HBr⟩ := hrel
          by_cases hlt : i < rs.length
          · have hltz : (i : Int) < (rs.length : Int) := by omega
            obtain ⟨lb, cap, hc0, hc1, hlb, hlbs, hcap, hcm, hpos, hcs⟩ := HLD.out.2.2 i hlt
            have hfbs := HLD.out.2.1
            have HTK : Hid (linesN (rs.take (i + 1)) = linesN (rs.take i) + (nth rs i).2.length) := linesN_take rs i hlt
            have htot : linesN (rs.take i) + (nth rs i).2.length ≤ 4096 := by
              have := linesN_take_le rs (i + 1)
              rw [HTK.out, HLN.out] at this
              omega
            have HLS : Hid ((nth rs i).2 = srt (lsOf (nth rs i).1 (flatU (zs.zip kk)))) := ans_lines HA.out _ (nth_mem rs i hlt)
            generalize linesN (rs.take i) = L at *
            generalize hr : nth rs i = r at *
            have HRI : Hid (nth rs i = r) := hr
            clear hr
            obtain ⟨m, ls⟩ := r
            dsimp only at *
            have HCS : Hid (∀ t, t < ls.length → W1.cell? ⟨lb, t, none⟩ = some (.int .i64 (nth ls t))) := hcs
            have hc0 : wr.cell? ⟨fb, i * 2, none⟩ = some (.string m) := (HBr.out.cell (p := ⟨fb, i * 2, none⟩) hfbs).trans hc0
            have hc1 : wr.cell? ⟨fb, i * 2 + 1, none⟩ = some (.slice (some ⟨lb, 0, none⟩) ls.length cap) := (HBr.out.cell (p := ⟨fb, i * 2 + 1, none⟩) hfbs).trans hc1
            have hlz : ((ls.length : Int) == 0) = false := by rw [beq_eq_false_iff_ne]; omega
            clear hcs
            go_wp2_with fail
            have HBA := HBr.out.alloc HBr.out.size (.cells #[.string m, .slice (some ⟨lb, 0, none⟩) ls.length cap] 49)
            refine (linesOf wc.heap.size p0 pk c0 ck zs kk m _ (Nat.le_trans SZ1 HBA.size) (HI1.out.below (HBA.mono SZ1)) (HK1.out.below (HBA.mono SZ1)) HL.out h4096 hp).mono ?_
            rintro _ W4 ⟨hB4, v, rfl, hv⟩
            rw [← HLS.out] at hv
            obtain ⟨pv, cv, rfl, hvi⟩ := AccL.ints hv
            have HV : Hid (IntsIn W4 W4.heap.size pv ls) := hvi
            have hg0 : W4.cell? ⟨wr.heap.size, 0, none⟩ = some (.string m) := (hB4.cell (p := ⟨wr.heap.size, 0, none⟩) (by simp)).trans (by simp)
            have hg1 : W4.cell? ⟨wr.heap.size, 1, none⟩ = some (.slice (some ⟨lb, 0, none⟩) ls.length cap) := (hB4.cell (p := ⟨wr.heap.size, 1, none⟩) (by simp)).trans (by simp)
            have hG4 : wr.heap.size < W4.heap.size := by have := hB4.size; simp at this; omega
            have HB4 : Hid (RowKit.Below W1.heap.size W1 W4) := HBA.trans (hB4.mono HBA.size)
            clear hv hvi hB4 HBA hc0 hc1 HBr
            generalize wr.heap.size = G at *
            have HG0 : Hid (W4.cell? ⟨G, 0, none⟩ = some (.string m)) := hg0
            have HG1 : Hid (W4.cell? ⟨G, 1, none⟩ = some (.slice (some ⟨lb, 0, none⟩) ls.length cap)) := hg1
            go_wp2_with fail
            go_loopw [91] (fun s91 wv => ∃ (j : Nat), s91 = .int .i64 j ∧ j ≤ ls.length ∧ Hid (RowKit.Below W4.heap.size W4 wv)) (fun s91 _ => ls.length - (intOf s91).toNat)
            case atStart => exact ⟨0, rfl, Nat.zero_le _, Below.refl _ _⟩
            case round =>
              clear hg0 hg1
              obtain ⟨j, rfl, hj, HBv⟩ := hrel
              have hg0 : wr.cell? ⟨G, 0, none⟩ = some (.string m) := (HBv.out.cell (p := ⟨G, 0, none⟩) hG4).trans HG0.out
              have hg1 : wr.cell? ⟨G, 1, none⟩ = some (.slice (some ⟨lb, 0, none⟩) ls.length cap) := (HBv.out.cell (p := ⟨G, 1, none⟩) hG4).trans HG1.out
              have HB5 : Hid (RowKit.Below W1.heap.size W1 wr) := HB4.out.trans (HBv.out.mono HB4.out.size)
              have hlc : ∀ t, t < ls.length → wr.cell? ⟨lb, t, none⟩ = some (.int .i64 (nth ls t)) := fun t ht => (HB5.out.cell (p := ⟨lb, t, none⟩) hlbs).trans (HCS.out t ht)
              by_cases hjl : j < ls.length
              · have hjz : (j : Int) < (ls.length : Int) := by omega
                obtain ⟨bv, ov, rfl, hbv, hcv⟩ := HV.out j hjl
                have z1 := hlc j hjl
                have z2 : wr.cell? ⟨bv, ov + j, none⟩ = some (.int .i64 (nth ls j)) := (HBv.out.cell (p := ⟨bv, ov + j, none⟩) hbv).trans hcv
                clear hlc hcv
                go_wp2_with fail
                go_quiet (fail)
                go_wp2_with fail
                go_roundw
                case rel => exact ⟨j + 1, by go_num, by omega, Below.drewN HBv.out _⟩
                case measure => simp [intOf]; omega
              · have hjz : ¬ (j : Int) < (ls.length : Int) := by omega
                cases i with
                | zero =>
                  clear hlc
                  go_wp2_with fail
                  go_roundw
                  case rel => exact ⟨1, by go_num, by omega, by rw [HTK.out]; go_num, HB5.out⟩
                  case measure => simp [intOf]; omega
                | succ i =>
                  obtain ⟨la, ca, n0, n1, _, las, hca, hcam, hpa, na⟩ := HLD.out.2.2 i (by omega)
                  have hord := ans_order HL.out HA.out i hlt
                  rw [HRI.out] at hord
                  generalize nth rs i = r' at *
                  obtain ⟨m', ls'⟩ := r'
                  dsimp only at *
                  have hz := hlc 0 (by omega)
                  have hz' : wr.cell? ⟨la, 0, none⟩ = some (.int .i64 (nth ls' 0)) := (HB5.out.cell (p := ⟨la, 0, none⟩) las).trans (na 0 hpa)
                  have hn0 : wr.cell? ⟨fb, i * 2, none⟩ = some (.string m') := (HB5.out.cell (p := ⟨fb, i * 2, none⟩) hfbs).trans n0
                  have hn1 : wr.cell? ⟨fb, i * 2 + 1, none⟩ = some (.slice (some ⟨la, 0, none⟩) ls'.length ca) := (HB5.out.cell (p := ⟨fb, i * 2 + 1, none⟩) hfbs).trans n1
                  have hoa := fun b o v (hc : wr.cell? ⟨b, o, none⟩ = some v) => old_cell wr (.cells #[.string m', .slice (some ⟨la, 0, none⟩) ls'.length ca] 49) b o v hc
                  have kg0 := hoa _ _ _ hg0
                  have kg1 := hoa _ _ _ hg1
                  have kz := hoa _ _ _ hz
                  have kz' := hoa _ _ _ hz'
                  have HB6 : Hid (RowKit.Below W1.heap.size W1 (wr.alloc (.cells #[.string m', .slice (some ⟨la, 0, none⟩) ls'.length ca] 49))) := HB5.out.alloc HB5.out.size _
                  have hcx := fun x W' (hB : RowKit.Below W1.heap.size W1 W') => firstUse_any wc.heap.size pk ck kk x W' (HK1.out.below (hB.mono SZ1)) HKM.out hp
                  have hp1 : (0 : Int) < (ls.length : Int) := by omega
                  have hp2 : (0 : Int) < (ls'.length : Int) := by omega
                  clear n0 n1 na hlc hoa
                  generalize nth ls 0 = z at *
                  generalize nth ls' 0 = z' at *
                  rcases hord with hlt' | ⟨heq, hfu⟩
                  · have hzl : ¬ z < z' := by omega
                    have hze : (z' == z) = false := by rw [beq_eq_false_iff_ne]; omega
                    clear hcx
                    go_wp2_with fail
                    go_quiet (fail)
                    go_wp2_with fail
                    go_quiet (fail)
                    go_wp2_with fail
                    go_roundw
                    case rel => exact ⟨i + 1 + 1, by go_num, by omega, by rw [HTK.out]; go_num, Below.drewN HB6.out _⟩
                    case measure => simp [intOf]; omega
                  · subst heq
                    have hfl : ¬ firstUse kk.flatten m ≤ firstUse kk.flatten m' := by omega

                    go_wp2_with fail
                    go_quiet (fail)
                    go_wp2_with fail
                    go_quiet ((go_at_call 25; exact (hcx _ _ (Below.drewN HB6.out _)).mono (fun _ _ h => ⟨h.1, _, h.2⟩)))
                    go_wp2_with fail
                    go_roundw
                    case rel => exact ⟨i + 1 + 1, by go_num, by omega, by rw [HTK.out]; go_num, Below.drewN HB6.out _⟩
                    case measure => simp [intOf]; omega
          · have hltz : ¬ (i : Int) < (rs.length : Int) := by omega
            have hie : i = rs.length := by omega
            subst hie
            rw [List.take_length, HLN.out]
            go_wp2_with (go_at_call 26; refine (pairs_any wc.heap.size pk ck kk wr (HK1.out.below (HBr.out.mono SZ1)) HKM.out hp).mono ?_; rintro _ w9 ⟨rfl, hw9⟩; have hw9 := hw9.symm; subst hw9)
            go_ret
            exact ⟨rfl, HB1.out.trans (HBr.out.mono HB1.out.size)⟩
end Go.Proofs.Qxb6613730a
