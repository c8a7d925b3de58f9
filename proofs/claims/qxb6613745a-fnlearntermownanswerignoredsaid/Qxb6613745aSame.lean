import Derived.Test.Qxb6613745aAmap
set_option linter.unusedVariables false
namespace Go.Proofs.Qxb6613745a
open Go.RowKit

theorem isIn_append (k : ByteArray) : ∀ l r, isIn k (l ++ r) = (isIn k l || isIn k r)
  | [], r => by simp [isIn]
  | y :: l, r => by
    rw [List.cons_append, isIn, isIn, isIn_append k l r]
    by_cases h : y = k <;> simp [h]
theorem dcnt_snoc (x : ByteArray) : ∀ l, dcnt (l ++ [x]) = if isIn x l then dcnt l else dcnt l + 1
  | [] => by simp [dcnt, isIn]
  | y :: l => by
    rw [List.cons_append, dcnt, dcnt, dcnt_snoc x l, isIn_snoc, isIn]
    by_cases h : y = x
    · subst h
      cases hy : isIn y l <;> simp <;> omega
    · have h' : ¬ x = y := fun e => h e.symm
      cases hy : isIn y l <;> cases hx : isIn x l <;> simp [h, h'] <;> omega
theorem amap_size (an : List (ByteArray × Int)) (ok : AnsOk an) : Maps.size (amap an) = dcnt (ids an) := by
  induction an using snoc_ind with
  | h0 => rfl
  | h1 an a ih =>
    rw [amap_size_snoc an a ok, ids_snoc, dcnt_snoc, ih (fun x hx => ok x (by simp [hx]))]
/-- The last answer of a name is what the map holds. -/
theorem amap_last (pre : List (ByteArray × Int)) (a : ByteArray × Int) (post : List (ByteArray × Int)) (ok : AnsOk (pre ++ a :: post)) (hn : isIn a.1 (ids post) = false) (z : DataW Unit) : (amap (pre ++ a :: post)).atKey (keyS a.1) z = .lit (.int .u64 a.2) := by
  induction post using snoc_ind with
  | h0 =>
    rw [amap_snoc]
    exact Maps.atKey_put_same (amap_tidy pre (fun x hx => ok x (by simp [hx]))).isMap (keyS_lit (ok a (by simp)).1) _ _
  | h1 post b ih =>
    rw [ids_snoc, isIn_snoc] at hn
    have hn1 : isIn a.1 (ids post) = false := by cases h : isIn a.1 (ids post) <;> simp [h] at hn ⊢
    have hb : b.1 ≠ a.1 := fun e => by simp [e] at hn
    rw [show pre ++ a :: (post ++ [b]) = (pre ++ a :: post) ++ [b] by simp, amap_snoc, Maps.atKey_put_other (keyS_ne (fun e => hb e.symm))]
    exact ih (fun x hx => ok x (by
      rcases List.mem_append.1 hx with h | h
      · simp [h]
      · rcases List.mem_cons.1 h with rfl | h
        · simp
        · simp [h])) hn1
theorem amap_last_at (an : List (ByteArray × Int)) (ok : AnsOk an) (i : Nat) (hi : i < an.length) (hn : isIn (nth an i).1 (ids (an.drop (i + 1))) = false) (z : DataW Unit) : (amap an).atKey (keyS (nth an i).1) z = .lit (.int .u64 (nth an i).2) := by
  have e : an = an.take i ++ nth an i :: an.drop (i + 1) := by rw [nth_eq an i hi]; simp
  have := amap_last (an.take i) (nth an i) (an.drop (i + 1)) (by rw [← e]; exact ok) hn z
  rwa [← e] at this
theorem dcnt_drop (an : List (ByteArray × Int)) (i : Nat) (hi : i < an.length) : dcnt (ids (an.drop i)) = (if isIn (nth an i).1 (ids (an.drop (i + 1))) then 0 else 1) + dcnt (ids (an.drop (i + 1))) := by
  have e : an.drop i = nth an i :: an.drop (i + 1) := by rw [nth_eq an i hi]; simp
  rw [e]
  rfl
theorem dcnt_le : ∀ l, dcnt l ≤ l.length
  | [] => Nat.le_refl _
  | x :: l => by have := dcnt_le l; rw [dcnt, List.length_cons]; split <;> omega
theorem AMap.at {W : World} {b : Nat} {an : List (ByteArray × Int)} (h : AMap W b an) (q : Nat) : (W.drewN q).ownsMap Try.prog 9 (plainElem (H := Unit) Try.prog 30) b an.length (amap an) := h

set_option maxHeartbeats 4000000 in
set_option maxRecDepth 100000 in
/-- zzB1sameAnswers, the map being that of these answers. -/
theorem sameAnswers (B b : Nat) (p : Option Addr) (c : Nat) (an : List (ByteArray × Int)) (w : World) (hA : AnsIn w B p an) (hM : AMap w b an) (b1 : an.length ≤ 8192) :
    Calls Try.prog 18 #[.map (some b), .slice p an.length c] w fun e w' => e = .returned (.bool true) ∧ ∃ q, w' = w.drewN q := by
  have HA : Hid (AnsIn w B p an) := hA
  have HM : Hid (AMap w b an) := hM
  have hdl := dcnt_le (ids an)
  have hil : (ids an).length = an.length := by simp [ids]
  have HSZ : Hid (Maps.size (amap an) = dcnt (ids an)) := amap_size an hA.ok
  rw [hil] at hdl
  clear hA hM hil
  generalize hdd : dcnt (ids an) = dd at *
  have HDQ : Hid (dcnt (ids an) = dd) := hdd
  clear hdd
  go_enter Try.func18, Try.ntmps18
  go_wp2_with fail
  go_loopw [5, 6] (fun s5 s6 wv => ∃ (i d q : Nat), s6 = .int .i64 i ∧ i ≤ an.length ∧ s5 = .int .i64 d ∧ d + dcnt (ids (an.drop i)) = dd ∧ wv = w.drewN q) (fun _ s6 _ => an.length - (intOf s6).toNat)
  case atStart => exact ⟨0, 0, 0, rfl, Nat.zero_le _, rfl, by rw [Nat.zero_add, List.drop_zero]; exact HDQ.out, rfl⟩
  case round =>
    obtain ⟨i, d, q, rfl, hi, rfl, hd, rfl⟩ := hrel
    by_cases hlt : i < an.length
    · have hltz : (i : Int) < (an.length : Int) := by omega
      have HDD := dcnt_drop an i hlt
      obtain ⟨b0, off, rfl, _, h1, h2, hs, h0, h9⟩ := HA.out i hlt
      have HDD : Hid _ := HDD
      have HID : Hid (d + dcnt (ids (an.drop i)) = dd) := hd
      have hdb : d ≤ 8192 := by omega
      have HL : Hid (∀ z, isIn (nth an i).1 (ids (an.drop (i + 1))) = false → (amap an).atKey (keyS (nth an i).1) z = .lit (.int .u64 (nth an i).2)) := fun z hz => amap_last_at an HA.out.ok i hlt hz z
      have HHAS : Hid (Maps.has (amap an) (keyS (nth an i).1) = true) := by
        refine (?_ : _ = _)
        rw [amap_has an HA.out.ok]
        exact (isIn_iff _ _).2 (List.mem_map_of_mem (nth_mem an i hlt))
      clear hd
      go_wp2_with fail
      go_loopw [7, 8] (fun s7 s8 wv => ∃ (j q : Nat), s8 = .int .i64 j ∧ i + 1 ≤ j ∧ j ≤ an.length ∧ s7 = .bool true ∧ Hid (isIn (nth an i).1 (ids ((an.take j).drop (i + 1))) = false) ∧ wv = w.drewN q) (fun _ s8 _ => an.length - (intOf s8).toNat)
      case atStart => exact ⟨i + 1, q, by go_num, Nat.le_refl _, hlt, rfl, by
        refine (?_ : _ = _)
        rw [List.drop_of_length_le (by rw [List.length_take]; omega)]; rfl, rfl⟩
      case round =>
        clear q
        obtain ⟨j, q, rfl, hij, hj, rfl, HN, rfl⟩ := hrel
        by_cases hjl : j < an.length
        · have hjz : (j : Int) < (an.length : Int) := by omega
          obtain ⟨b2, off2, he2, _, g1, _, _, _, _⟩ := HA.out j hjl
          obtain ⟨rfl, rfl⟩ : b0 = b2 ∧ off = off2 := by simpa using he2
          clear he2
          have k1 : (w.drewN q).cell? ⟨b0, off + i * 2, none⟩ = some (.string (nth an i).1) := h1
          have k2 : (w.drewN q).cell? ⟨b0, off + j * 2, none⟩ = some (.string (nth an j).1) := g1
          by_cases he : (nth an j).1 = (nth an i).1
          · have HIN : Hid (isIn (nth an i).1 (ids (an.drop (i + 1))) = true) := by
              refine (isIn_iff _ _).2 ?_
              rw [← he]
              refine List.mem_map_of_mem ?_
              rw [nth_eq an j hjl]
              exact List.mem_drop_iff_getElem.2 ⟨j - (i + 1), by omega, by congr 1; omega⟩
            have HD2 : Hid (d + dcnt (ids (an.drop (i + 1))) = dd) := by
              have e1 := HDD.out
              have e2 := HID.out
              rw [HIN.out, if_pos rfl] at e1
              exact (show _ = _ by omega)
            rw [he] at k2 g1
            clear he
            go_wp2_with fail
            go_quiet (fail)
            go_wp2_with fail
            go_roundw
            case rel => exact ⟨i + 1, d, _, by go_num, by omega, rfl, HD2.out, rfl⟩
            case measure => simp [intOf]; omega
          · have hb := bytesNe he
            have HN2 : Hid (isIn (nth an i).1 (ids ((an.take (j + 1)).drop (i + 1))) = false) := by
              refine (?_ : _ = _)
              rw [take_nth an j hjl, List.drop_append_of_le_length (by rw [List.length_take]; omega), ids_snoc, isIn_snoc, HN.out]
              simp [he]
            clear he
            go_wp2_with fail
            go_quiet (fail)
            go_wp2_with fail
            go_roundw
            case rel => exact ⟨j + 1, _, by go_num, by omega, by omega, rfl, HN2.out, rfl⟩
            case measure => simp [intOf]; omega
        · have hjz : ¬ (j : Int) < (an.length : Int) := by omega
          have HN' : Hid (isIn (nth an i).1 (ids (an.drop (i + 1))) = false) := by
            have := HN.out
            rw [List.take_of_length_le (by omega)] at this
            exact this
          have HD2 : Hid (d + 1 + dcnt (ids (an.drop (i + 1))) = dd) := by
            have e1 := HDD.out
            have e2 := HID.out
            rw [HN'.out] at e1
            simp at e1
            exact (show _ = _ by omega)
          have hzero := Try.zeroValue30 (w.drewN q)
          go_wp2_with (at_lookup; refine wpList_lookup_own_ok_int _ rfl _ _ 36 rfl 9 30 .u64 keyed9 Try.underlying36 Try.underlying30 hzero b an.length (amap an) rfl (HM.out.at q) (.string (nth an i).1) (keyS (nth an i).1) rfl (keyS_of hs) ?_; intro cv hat hwc; rw [HHAS.out]; rw [HL.out _ HN'.out] at hat; obtain rfl : (nth an i).2 = cv := (by simpa using hat); clear hat hwc)
          go_roundw
          case rel => exact ⟨i + 1, d + 1, q, by go_num, by omega, by go_num, HD2.out, rfl⟩
          case measure => simp [intOf]; omega
    · have hltz : ¬ (i : Int) < (an.length : Int) := by omega
      have hde : d = dd := by
        rw [List.drop_of_length_le (by omega)] at hd
        simpa [ids, dcnt] using hd
      subst hde
      go_wp2_with (at_len; refine wpList_len_own _ rfl _ 36 rfl 9 30 Try.underlying36 _ b an.length (amap an) rfl (HM.out.at q) ?_; rw [HSZ.out])
      go_ret
      exact ⟨rfl, q, rfl⟩
end Go.Proofs.Qxb6613745a
