import Derived.Test.Qxb6613745aDel
set_option linter.unusedVariables false
namespace Go.Proofs.Qxb6613745a
open Go.RowKit

/-! ### Clone -/
def cellsM (ms : List (ByteArray × ByteArray)) : List Value := ms.flatMap fun a => [.string a.1, .string a.2]
theorem cellsM_len (ms : List (ByteArray × ByteArray)) : (cellsM ms).length = ms.length * 2 := by
  induction ms with
  | nil => rfl
  | cons a ms ih => unfold cellsM at ih ⊢; rw [List.flatMap_cons, List.length_append, ih, List.length_cons]; simp; omega
theorem cellsM_get : ∀ (ms : List (ByteArray × ByteArray)) (j : Nat), j < ms.length → (cellsM ms)[j * 2]? = some (.string (nth ms j).1) ∧ (cellsM ms)[j * 2 + 1]? = some (.string (nth ms j).2)
  | [], j, h => by simp at h
  | a :: ms, 0, _ => by simp [cellsM, nth]
  | a :: ms, j + 1, h => by
    have ih := cellsM_get ms j (by simpa using h)
    have e : nth (a :: ms) (j + 1) = nth ms j := by simp [nth]
    rw [e]
    unfold cellsM at ih ⊢
    rw [List.flatMap_cons, show (j + 1) * 2 = 2 + j * 2 by omega, show 2 + j * 2 + 1 = 2 + (j * 2 + 1) by omega]
    rw [List.getElem?_append_right (by simp), List.getElem?_append_right (by simp)]
    simpa using ih
theorem cellsM_one (ms : List (ByteArray × ByteArray)) : ∀ v ∈ cellsM ms, v.oneCell' = true := by
  intro v hv
  obtain ⟨a, _, h⟩ := List.mem_flatMap.1 hv
  simp at h
  rcases h with rfl | rfl <;> rfl
theorem MemIn.src {w : World} {B : Nat} {ad : Addr} {ms : List (ByteArray × ByteArray)} (h : MemIn w B (some ad) ms) (W : World) (hB : RowKit.Below B w W) (j : Nat) (u : Value) (hu : (cellsM ms)[j]? = some u) : W.cell? (ad.add j) = some u := by
  have hj : j < ms.length * 2 := by rw [← cellsM_len]; exact (List.getElem?_eq_some_iff.1 hu).1
  obtain ⟨b, off, e, hb, h1, h2, _, _⟩ := h (j / 2) (by omega)
  cases e
  rw [Addr.add_lit, hB.cell (p := ⟨b, off + j, none⟩) hb]
  have hg := cellsM_get ms (j / 2) (by omega)
  rcases Nat.mod_two_eq_zero_or_one j with hm | hm
  · have ej : j = j / 2 * 2 := by omega
    rw [ej, hg.1] at hu
    rw [ej, h1]; exact hu
  · have ej : j = j / 2 * 2 + 1 := by omega
    rw [ej, hg.2] at hu
    rw [ej, ← Nat.add_assoc, h2]; exact hu
theorem mrow_own {W : World} {base g cap : Nat} {ms : List (ByteArray × ByteArray)} (h : W.ownsRow base 62 2 (.slice (some ⟨g, 0, none⟩) ms.length cap) ms.length (cellsM ms)) : MRow W g cap ms ∧ base ≤ g ∧ cap ≤ maxLen := by
  rcases h.2 with ⟨h', _⟩ | ⟨g', cap', cur, h', hb, hg, h1, h2, h3, h4⟩
  · simp at h'
  · simp only [Value.slice.injEq, Option.some.injEq, Addr.mk.injEq, and_true, true_and] at h'
    obtain ⟨rfl, rfl⟩ := h'
    refine ⟨⟨cur, hg, h3, h1, fun j hj => ?_⟩, hb, h2⟩
    have hc := cellsM_get ms j hj
    rw [← h4] at hc
    constructor
    · have := hc.1
      rwa [List.getElem?_take_of_lt (by omega), Array.getElem?_toList] at this
    · have := hc.2
      rwa [List.getElem?_take_of_lt (by omega), Array.getElem?_toList] at this

def ClonePost (w : World) (ms : List (ByteArray × ByteArray)) (e : Ending) (w' : World) : Prop := RowKit.Below w.heap.size w w' ∧ ∃ g cap, e = .returned (.slice (some ⟨g, 0, none⟩) ms.length cap) ∧ MRow w' g cap ms ∧ w.heap.size ≤ g ∧ cap ≤ maxLen

theorem row_some {W : World} {base n : Nat} {v v0 : Value} {xs : List Value} {m : Nat} (h : W.ownsRow base 62 2 v n xs) (hn : v = .slice none 0 0 ↔ v0 = .slice none 0 0 ∧ m = 0) (h0 : v0 ≠ .slice none 0 0) : ∃ g cap, v = .slice (some ⟨g, 0, none⟩) n cap := by
  rcases h.2 with ⟨h', _⟩ | ⟨g', cap', cur, h', _⟩
  · exact absurd (hn.1 h').1 h0
  · exact ⟨g', cap', h'⟩
theorem clone_post {w w2 : World} {g cap : Nat} {ms : List (ByteArray × ByteArray)} (hB : RowKit.Below w.heap.size w (w.alloc (.cells #[] 62))) (h : w2.ownsRow w.heap.size 62 2 (.slice (some ⟨g, 0, none⟩) ms.length cap) ms.length (cellsM ms)) (hg : (w.alloc (.cells #[] 62)).grownBy w2 (some w.heap.size)) : ClonePost w ms (.returned (.slice (some ⟨g, 0, none⟩) ms.length cap)) w2 := by
  obtain ⟨h1, h2, h3⟩ := mrow_own h
  exact ⟨hB.grown hg hB.size (by rintro k h; cases h; exact Nat.le_refl _), g, cap, rfl, h1, h2, h3⟩

set_option maxHeartbeats 1000000 in
set_option maxRecDepth 100000 in
/-- slices.Clone, the slice not nil. -/
theorem clone_some (ad : Addr) (c : Nat) (ms : List (ByteArray × ByteArray)) (w : World) (hM : MemIn w w.heap.size (some ad) ms) (b1 : ms.length ≤ 4096) :
    Calls Try.prog 35 #[.slice (some ad) ms.length c] w (ClonePost w ms) := by
  have HM : Hid (MemIn w w.heap.size (some ad) ms) := hM
  have heq := eql_nil 47 62 (some ad) ms.length c w Try.underlying47
  obtain ⟨i, hi, hz, hsz, hb⟩ := info_parts info62
  have HB : Hid (RowKit.Below w.heap.size w (w.alloc (.cells #[] 62))) := (Below.refl _ w).alloc (Nat.le_refl _) _
  have HO : Hid ((w.alloc (.cells #[] 62)).ownsRow w.heap.size 62 2 (.slice (some ⟨w.heap.size, 0, none⟩) 0 0) 0 []) := by
    refine ⟨rfl, .inr ⟨w.heap.size, 0, #[], rfl, Nat.le_refl _, ?_, Nat.le_refl _, Nat.zero_le _, rfl, by simp⟩⟩
    show (w.heap.push _)[w.heap.size]? = _
    simp
  clear hM
  go_enter Try.func35, Try.ntmps35
  go_wp2_with (at_builtin; refine wpList_append_own_at _ rfl _ _ 47 rfl w.heap.size 62 i _ 2 32 Try.underlying47 hi hz hsz hb rfl (by decide) _ 0 [] rfl HO.out ad ms.length c (cellsM ms) rfl (cellsM_len ms) (fun j u hu => HM.out.src _ HB.out j u hu) (cellsM_one ms) (by unfold maxLen; omega) (by omega) (by simp) ?_; intro v' w2 hown2 hg2 hn2 _; obtain ⟨g2, cap2, hv2⟩ := row_some (v0 := .slice (some ⟨w.heap.size, 0, none⟩) 0 0) hown2 hn2 (by simp); subst hv2; have HP : Hid (ClonePost w ms (.returned (.slice (some ⟨g2, 0, none⟩) ms.length cap2)) w2) := clone_post HB.out (by rw [Nat.zero_add, List.nil_append] at hown2; exact hown2) hg2; clear hown2 hg2 hn2)
  go_ret
  exact HP.out

set_option maxHeartbeats 1000000 in
theorem clone_nil (w : World) : Calls Try.prog 35 #[.slice none 0 0] w fun e w' => e = .returned (.slice none 0 0) ∧ w' = w := by
  have heq := eql_nil 47 62 none 0 0 w Try.underlying47
  go_enter Try.func35, Try.ntmps35
  go_wp2
  go_ret
  exact ⟨rfl, rfl⟩

set_option maxHeartbeats 1000000 in
set_option maxRecDepth 100000 in
theorem deleteFunc_nil (id : ByteArray) (bx cb : Nat) (W : World) (hbx : W.cell? ⟨bx, 0, none⟩ = some (.pointer (some ⟨cb, 0, none⟩))) (hid : W.cell? ⟨cb, 0, none⟩ = some (.string id)) :
    Calls Try.prog 34 #[.slice none 0 0, .func (.func 36) #[] #[.pointer (some ⟨bx, 0, none⟩)]] W fun e w' => e = .returned (.slice none 0 0) ∧ RowKit.Below W.heap.size W w' := by
  have hc := indexFunc none 0 [] id bx cb W (fun j hj => absurd hj (Nat.not_lt_zero _)) (Nat.zero_le _) hbx hid
  clear hbx hid
  go_enter Try.func34, Try.ntmps34
  go_wp2_with fail
  refine hc.mono ?_
  rintro _ W1 ⟨hB1, h⟩
  have HB1 : Hid (RowKit.Below W.heap.size W W1) := hB1
  rcases h with ⟨rfl, _⟩ | ⟨i0, rfl, hi0, _⟩
  · clear hB1 hc
    go_wp2
    go_ret
    exact ⟨rfl, HB1.out⟩
  · exact absurd hi0 (Nat.not_lt_zero _)

/-! ### counted -/
/-- How many of the members have answered. -/
def cntIn (ks : List ByteArray) : List (ByteArray × ByteArray) → Nat
  | [] => 0
  | m :: r => (if isIn m.1 ks then 1 else 0) + cntIn ks r
theorem cntIn_append (ks : List ByteArray) : ∀ l r, cntIn ks (l ++ r) = cntIn ks l + cntIn ks r
  | [], r => by simp [cntIn]
  | m :: l, r => by rw [List.cons_append, cntIn, cntIn, cntIn_append ks l r]; omega
theorem cntIn_le (ks : List ByteArray) : ∀ l, cntIn ks l ≤ l.length
  | [] => Nat.le_refl _
  | m :: l => by have := cntIn_le ks l; rw [cntIn, List.length_cons]; split <;> omega
theorem cntIn_others (id : ByteArray) (ks : List ByteArray) : ∀ ms, cntIn ks (others id ms) = countN id ks ms
  | [] => rfl
  | m :: ms => by
    have := cntIn_others id ks ms
    unfold others at this ⊢
    rw [List.filter_cons, countN]
    by_cases h : m.1 = id
    · rw [if_neg (by simp [h]), if_pos h, this]; omega
    · rw [if_pos (by simp [h]), if_neg h, cntIn, this]

theorem AMap.below {A W : World} {b : Nat} {an : List (ByteArray × Int)} (h : AMap A b an) (hB : RowKit.Below A.heap.size A W) : AMap W b an := by
  have hlt := World.ownsMap.lt h
  obtain ⟨es, ck, hb, h2⟩ := h
  exact ⟨es, ck, (hB.block b hlt).trans hb, h2⟩

set_option maxHeartbeats 2000000 in
set_option maxRecDepth 100000 in
theorem counted (p : Option Addr) (c b : Nat) (ms : List (ByteArray × ByteArray)) (an : List (ByteArray × Int)) (w : World) (hM : MemIn w w.heap.size p ms) (hA : AMap w b an) (ok : AnsOk an) (b1 : ms.length ≤ 4096) :
    Calls Try.prog 37 #[.slice p ms.length c, .map (some b)] w fun e w' => e = .returned (.int .i64 (cntIn (ids an) ms : Nat)) ∧ RowKit.Below w.heap.size w w' := by
  have HM : Hid (MemIn w w.heap.size p ms) := hM
  have HA : Hid (AMap w b an) := hA
  have OK : Hid (AnsOk an) := ok
  clear hM hA ok
  go_enter Try.func37, Try.ntmps37
  go_wp2_with fail
  go_loopw [5, 12] (fun s5 s12 wv => ∃ (k : Nat), k ≤ ms.length ∧ s12 = .int .i64 k ∧ s5 = .int .i64 (cntIn (ids an) (ms.take k) : Nat) ∧ Hid (RowKit.Below w.heap.size w wv)) (fun _ s12 _ => ms.length - (intOf s12).toNat)
  case atStart => exact ⟨0, Nat.zero_le _, rfl, rfl, Below.refl _ _⟩
  case round =>
    obtain ⟨k, hk, rfl, rfl, HB⟩ := hrel
    by_cases hlt : k < ms.length
    · have hkz : (k : Int) < (ms.length : Int) := by omega
      obtain ⟨b0, off, rfl, hb, h1, h2, hs, _⟩ := HM.out k hlt
      have e1 : wr.cell? ⟨b0, off + k * 2, none⟩ = some (.string (nth ms k).1) := (HB.out.cell (p := ⟨b0, off + k * 2, none⟩) hb).trans h1
      have e2 : wr.cell? ⟨b0, off + k * 2 + 1, none⟩ = some (.string (nth ms k).2) := (HB.out.cell (p := ⟨b0, off + k * 2 + 1, none⟩) hb).trans h2
      have hle := cntIn_le (ids an) (ms.take k)
      rw [List.length_take] at hle
      have HT : Hid (cntIn (ids an) (ms.take (k + 1)) = cntIn (ids an) (ms.take k) + (if isIn (nth ms k).1 (ids an) then 1 else 0)) := by
        refine (?_ : _ = _)
        rw [take_nth ms k hlt, cntIn_append]; simp [cntIn]
      have HB2 : Hid (RowKit.Below w.heap.size w (wr.alloc (.cells #[.string (nth ms k).1, .string (nth ms k).2] 62))) := HB.out.alloc HB.out.size _
      have HA2 : Hid (AMap (wr.alloc (.cells #[.string (nth ms k).1, .string (nth ms k).2] 62)) b an) := HA.out.below HB2.out
      have HH : Hid (Maps.has (amap an) (keyS (nth ms k).1) = isIn (nth ms k).1 (ids an)) := amap_has an OK.out _
      have hzero := Try.zeroValue30 (wr.alloc (.cells #[.string (nth ms k).1, .string (nth ms k).2] 62))
      clear h1 h2
      cases hi : isIn (nth ms k).1 (ids an) with
      | true =>
        rw [hi] at HT HH
        clear hi
        go_wp2_with (at_lookup; refine wpList_lookup_own_ok_int _ rfl _ _ 36 rfl 9 30 .u64 keyed9 Try.underlying36 Try.underlying30 hzero b an.length (amap an) rfl HA2.out (.string (nth ms k).1) (keyS (nth ms k).1) rfl (keyS_of hs) ?_; intro cv hat hwc; rw [HH.out]; clear hat hwc)
        go_roundw
        case rel => exact ⟨k + 1, by omega, by go_num, by rw [HT.out]; go_num, HB2.out⟩
        case measure => simp [intOf]; omega
      | false =>
        rw [hi] at HT HH
        clear hi
        go_wp2_with (at_lookup; refine wpList_lookup_own_ok_int _ rfl _ _ 36 rfl 9 30 .u64 keyed9 Try.underlying36 Try.underlying30 hzero b an.length (amap an) rfl HA2.out (.string (nth ms k).1) (keyS (nth ms k).1) rfl (keyS_of hs) ?_; intro cv hat hwc; rw [HH.out]; clear hat hwc)
        go_roundw
        case rel => exact ⟨k + 1, by omega, by go_num, by rw [HT.out]; simp, HB2.out⟩
        case measure => simp [intOf]; omega
    · have hkz : ¬ (k : Int) < (ms.length : Int) := by omega
      rw [List.take_of_length_le (by omega)]
      go_wp2
      go_ret
      exact ⟨rfl, HB.out⟩
end Go.Proofs.Qxb6613745a
