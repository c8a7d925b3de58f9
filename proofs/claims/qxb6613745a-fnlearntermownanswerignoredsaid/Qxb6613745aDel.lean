import Derived.Test.Qxb6613745aSame
import Derived.Laws.CopyRow
set_option linter.unusedVariables false
namespace Go.Proofs.Qxb6613745a
open Go.RowKit

theorem Below.self {W W' : World} {B : Nat} (h : RowKit.Below W.heap.size W W') (hB : B ≤ W.heap.size) : RowKit.Below B W W' := h.mono hB
theorem old_cell {W : World} {ob : Obj} {a : Addr} {v : Value} (h : W.cell? a = some v) : (W.alloc ob).cell? a = some v := by
  have hb : a.block < W.heap.size := by
    by_cases hb : a.block < W.heap.size
    · exact hb
    · unfold World.cell? at h
      rw [Array.getElem?_eq_none (Nat.le_of_not_lt hb)] at h
      cases h
  exact (((RowKit.Below.refl W.heap.size W).alloc (Nat.le_refl _) ob).cell hb).trans h
theorem cell_lt {w : World} {a : Addr} {v : Value} (h : w.cell? a = some v) : a.block < w.heap.size := by
  by_cases hb : a.block < w.heap.size
  · exact hb
  · unfold World.cell? at h
    rw [Array.getElem?_eq_none (Nat.le_of_not_lt hb)] at h
    cases h

set_option maxHeartbeats 1000000 in
set_option maxRecDepth 100000 in
/-- learnTerm's closure: 'm.ID == c.cfg.ID'. -/
theorem closure36 (m a id : ByteArray) (bx cb : Nat) (W : World) (hbx : W.cell? ⟨bx, 0, none⟩ = some (.pointer (some ⟨cb, 0, none⟩))) (hid : W.cell? ⟨cb, 0, none⟩ = some (.string id)) :
    Calls Try.prog 36 #[.agg #[.string m, .string a], .pointer (some ⟨bx, 0, none⟩)] W fun e w' => e = .returned (.bool (decide (m = id))) ∧ RowKit.Below W.heap.size W w' := by
  have k1 := old_cell (ob := .cells #[.string m, .string a] 62) hbx
  have k2 := old_cell (ob := .cells #[.string m, .string a] 62) hid
  have HB : Hid (RowKit.Below W.heap.size W (W.alloc (.cells #[.string m, .string a] 62))) := (Below.refl _ W).alloc (Nat.le_refl _) _
  by_cases h : m = id
  · have HD : Hid (decide (m = id) = true) := decide_eq_true h
    subst h
    go_enter Try.func36, Try.ntmps36
    go_wp2_with fail
    go_quiet (fail)
    go_wp2
    go_ret
    exact ⟨congrArg (fun b => Ending.returned (Value.bool b)) HD.out.symm, Below.drewN HB.out _⟩
  · have HD : Hid (decide (m = id) = false) := decide_eq_false h
    have hb := bytesNe h
    clear h
    go_enter Try.func36, Try.ntmps36
    go_wp2_with fail
    go_quiet (fail)
    go_wp2
    go_ret
    exact ⟨congrArg (fun b => Ending.returned (Value.bool b)) HD.out.symm, Below.drewN HB.out _⟩

/-- What IndexFunc answers. -/
def IdxPost (W : World) (id : ByteArray) (ms : List (ByteArray × ByteArray)) (e : Ending) (w' : World) : Prop :=
  RowKit.Below W.heap.size W w' ∧ ((e = .returned (.int .i64 (-1)) ∧ ∀ m ∈ ms, m.1 ≠ id) ∨ ∃ i : Nat, e = .returned (.int .i64 i) ∧ i < ms.length ∧ (nth ms i).1 = id ∧ ∀ m ∈ ms.take i, m.1 ≠ id)

set_option maxHeartbeats 1000000 in
set_option maxRecDepth 100000 in
theorem indexFunc (p : Option Addr) (c : Nat) (ms : List (ByteArray × ByteArray)) (id : ByteArray) (bx cb : Nat) (W : World) (hM : MemIn W W.heap.size p ms) (b1 : ms.length ≤ 4096) (hbx : W.cell? ⟨bx, 0, none⟩ = some (.pointer (some ⟨cb, 0, none⟩))) (hid : W.cell? ⟨cb, 0, none⟩ = some (.string id)) :
    Calls Try.prog 43 #[.slice p ms.length c, .func (.func 36) #[] #[.pointer (some ⟨bx, 0, none⟩)]] W (IdxPost W id ms) := by
  have HM : Hid (MemIn W W.heap.size p ms) := hM
  have HX : Hid (W.cell? ⟨bx, 0, none⟩ = some (.pointer (some ⟨cb, 0, none⟩))) := hbx
  have HI : Hid (W.cell? ⟨cb, 0, none⟩ = some (.string id)) := hid
  have e36 : ∀ args w, (callFunc 36 args).run Try.prog w = .ok (.enter 36 args) w := enters_of Try.func36 (by kernel_rfl) rfl
  clear hM hbx hid
  go_enter Try.func43, Try.ntmps43
  go_wp2_with fail
  go_loopw [8] (fun s8 wv => ∃ (i : Nat), s8 = .int .i64 i ∧ i ≤ ms.length ∧ Hid (RowKit.Below W.heap.size W wv) ∧ Hid (∀ m ∈ ms.take i, m.1 ≠ id)) (fun s8 _ => ms.length - (intOf s8).toNat)
  case atStart => exact ⟨0, rfl, Nat.zero_le _, Below.refl _ _, fun m hm => absurd hm (by simp)⟩
  case round =>
    obtain ⟨i, rfl, hi, HB, HN⟩ := hrel
    by_cases hlt : i < ms.length
    · have hltz : (i : Int) < (ms.length : Int) := by omega
      obtain ⟨b, off, rfl, hb, h1, h2, _, _⟩ := HM.out i hlt
      have e1 : wr.cell? ⟨b, off + i * 2, none⟩ = some (.string (nth ms i).1) := (HB.out.cell (p := ⟨b, off + i * 2, none⟩) hb).trans h1
      have e2 : wr.cell? ⟨b, off + i * 2 + 1, none⟩ = some (.string (nth ms i).2) := (HB.out.cell (p := ⟨b, off + i * 2 + 1, none⟩) hb).trans h2
      clear h1 h2
      go_wp2_with fail
      refine (closure36 (nth ms i).1 (nth ms i).2 id bx cb wr ((HB.out.cell (cell_lt HX.out)).trans HX.out) ((HB.out.cell (cell_lt HI.out)).trans HI.out)).mono ?_
      rintro _ w2 ⟨rfl, hB2⟩
      have HB2 : Hid (RowKit.Below W.heap.size W w2) := HB.out.trans (hB2.mono HB.out.size)
      clear hB2
      by_cases he : (nth ms i).1 = id
      · have HP : Hid (IdxPost W id ms (.returned (.int .i64 i)) w2) := ⟨HB2.out, .inr ⟨i, rfl, hlt, he, HN.out⟩⟩
        rw [decide_eq_true he]
        clear he
        go_wp2
        go_ret
        exact HP.out
      · have HN2 : Hid (∀ m ∈ ms.take (i + 1), m.1 ≠ id) := fun m hm => by
          rw [take_nth ms i hlt] at hm
          rcases List.mem_append.1 hm with h | h
          · exact HN.out m h
          · simp at h; subst h; exact he
        rw [decide_eq_false he]
        clear he
        go_wp2_with fail
        go_roundw
        case rel => exact ⟨i + 1, by go_num, by omega, HB2.out, HN2.out⟩
        case measure => simp [intOf]; omega
    · have hltz : ¬ (i : Int) < (ms.length : Int) := by omega
      have HP : Hid (IdxPost W id ms (.returned (.int .i64 (-1))) wr) := ⟨HB.out, .inl ⟨rfl, by have := HN.out; rwa [List.take_of_length_le (by omega)] at this⟩⟩
      go_wp2
      go_ret
      exact HP.out

/-! ### The call's own row of members -/
/-- Block g holds, from its start, the members L (cap of them have room). -/
def MRow (W : World) (g cap : Nat) (L : List (ByteArray × ByteArray)) : Prop := ∃ cur, W.heap[g]? = some (.cells cur 62 (0, 0)) ∧ cur.size = cap * 2 ∧ L.length ≤ cap ∧ ∀ j, j < L.length → cur[j * 2]? = some (.string (nth L j).1) ∧ cur[j * 2 + 1]? = some (.string (nth L j).2)
theorem nth_set_same {α : Type} [Inhabited α] (l : List α) (i : Nat) (x : α) (h : i < l.length) : nth (l.set i x) i = x := by
  unfold nth; simp [h]
theorem nth_set_other {α : Type} [Inhabited α] (l : List α) (i j : Nat) (x : α) (h : i ≠ j) : nth (l.set i x) j = nth l j := by
  unfold nth; simp [h]
theorem MRow.cells {W : World} {g cap : Nat} {L : List (ByteArray × ByteArray)} (h : MRow W g cap L) (j : Nat) (hj : j < L.length) : W.cell? ⟨g, j * 2, none⟩ = some (.string (nth L j).1) ∧ W.cell? ⟨g, j * 2 + 1, none⟩ = some (.string (nth L j).2) ∧ W.frozen? ⟨g, j * 2, none⟩ = false ∧ W.frozen? ⟨g, j * 2 + 1, none⟩ = false := by
  obtain ⟨cur, hc, _, _, hl⟩ := h
  have a := heap_cell hc (hl j hj).1
  have b := heap_cell hc (hl j hj).2
  exact ⟨a.1, b.1, a.2, b.2⟩
theorem MRow.below {A W : World} {g cap : Nat} {L : List (ByteArray × ByteArray)} (h : MRow A g cap L) (hB : RowKit.Below A.heap.size A W) : MRow W g cap L := by
  obtain ⟨cur, hc, h2⟩ := h
  exact ⟨cur, (hB.block g (lt_of_heap hc)).trans hc, h2⟩
theorem MRow.lt {W : World} {g cap : Nat} {L : List (ByteArray × ByteArray)} (h : MRow W g cap L) : g < W.heap.size := by
  obtain ⟨cur, hc, _⟩ := h
  exact lt_of_heap hc
theorem MRow.mem {W : World} {g cap : Nat} {L : List (ByteArray × ByteArray)} (h : MRow W g cap L) (ok : MemOk L) : MemIn W W.heap.size (some ⟨g, 0, none⟩) L := fun j hj => by
  have := h.cells j hj
  exact ⟨g, 0, rfl, h.lt, by rw [Nat.zero_add]; exact this.1, by rw [Nat.zero_add]; exact this.2.1, (ok _ (nth_mem L j hj)).1, (ok _ (nth_mem L j hj)).2⟩
/-- 's[i] = v'. -/
theorem MRow.set {W : World} {g cap : Nat} {L : List (ByteArray × ByteArray)} (h : MRow W g cap L) (i : Nat) (hi : i < L.length) (m : ByteArray × ByteArray) :
    ∃ x1, (W.setCell ⟨g, i * 2, none⟩ (.string m.1)).cell? ⟨g, i * 2 + 1, none⟩ = some x1 ∧ (W.setCell ⟨g, i * 2, none⟩ (.string m.1)).frozen? ⟨g, i * 2 + 1, none⟩ = false ∧
    MRow ((W.setCell ⟨g, i * 2, none⟩ (.string m.1)).setCell ⟨g, i * 2 + 1, none⟩ (.string m.2)) g cap (L.set i m) := by
  obtain ⟨cur, hc, hs, hlc, hl⟩ := h
  have c1 := setCell_at hc (i * 2) (.string m.1)
  have a1 := heap_cell c1 (Array.getElem?_eq_getElem (show i * 2 + 1 < (cur.setIfInBounds (i * 2) (.string m.1)).size by simp; omega))
  refine ⟨_, a1.1, a1.2, _, setCell_at c1 _ _, by simp [hs], by simpa using hlc, fun j hj => ?_⟩
  rw [List.length_set] at hj
  by_cases hji : j = i
  · subst hji
    rw [nth_set_same L j m hj]
    constructor
    · rw [Array.getElem?_setIfInBounds_ne (by omega), Array.getElem?_setIfInBounds_self_of_lt (by omega)]
    · rw [Array.getElem?_setIfInBounds_self_of_lt (by simp; omega)]
  · rw [nth_set_other L i j m (Ne.symm hji)]
    have := hl j hj
    constructor
    · rw [Array.getElem?_setIfInBounds_ne (by omega), Array.getElem?_setIfInBounds_ne (by omega)]; exact this.1
    · rw [Array.getElem?_setIfInBounds_ne (by omega), Array.getElem?_setIfInBounds_ne (by omega)]; exact this.2
/-- 'clear(s[i:])'. -/
theorem MRow.clear {W : World} {g cap n : Nat} {L : List (ByteArray × ByteArray)} (h : MRow W g cap L) (i : Nat) (hn : L.length = n) (hi : i < n) (c ty : Nat) :
    ∃ w', (Builtin.clear_ #[47] ty #[.slice (some ⟨g, i * 2, none⟩) (n - i) c]).run Try.prog W = .ok (.tuple #[]) w' ∧ W.grownBy w' (some g) ∧ MRow w' g cap (L.take i) := by
  subst hn
  obtain ⟨cur, hc, hs, hlc, hl⟩ := h
  obtain ⟨k, hk⟩ : ∃ k, L.length - i = k + 1 := ⟨L.length - i - 1, by omega⟩
  have hzs : (Builtin.zeroCells (Value.agg #[.string ⟨#[]⟩, .string ⟨#[]⟩]).cells (L.length - i)).toList.length = (L.length - i) * 2 := by
    simp [Builtin.zeroCells, Value.cells]
  have h1 : ∀ v ∈ (Builtin.zeroCells (Value.agg #[.string ⟨#[]⟩, .string ⟨#[]⟩]).cells (L.length - i)).toList, v.oneCell' = true := by
    intro v hv
    simp [Builtin.zeroCells, Value.cells] at hv
    obtain ⟨a, ha, rfl⟩ := hv
    rcases Nat.mod_two_eq_zero_or_one a with h | h <;> simp [h, Value.oneCell']
  generalize hz : (Builtin.zeroCells (Value.agg #[.string ⟨#[]⟩, .string ⟨#[]⟩]).cells (L.length - i)).toList = zc at *
  have hst := run_storeCells_at Try.prog g (i * 2) 62 zc 0 cur W hc (by rw [hzs]; omega) h1
  simp only [Nat.add_zero] at hst
  refine ⟨W.setRow g (cur.toList.take (i * 2) ++ zc ++ cur.toList.drop (i * 2 + zc.length)).toArray, ?_, ⟨rfl, rfl, rfl, by simp [World.setRow], fun k _ hk => setRow_other W g k _ (fun e => hk (by rw [e]))⟩, _, setRow_heap W g cur _ 62 (0, 0) hc, ?_, by rw [List.length_take]; omega, fun j hj => ?_⟩
  · rw [hk] at hz ⊢
    simp [Builtin.clear_, run_underlying Try.underlying47, Try.zeroValue62, hz, hst]
  · simp [hzs]; omega
  · rw [List.length_take] at hj
    have hl' := hl j (by omega)
    have hn : nth (L.take i) j = nth L j := by
      rw [nth_eq _ _ (by rw [List.length_take]; omega), List.getElem_take, nth_eq L j (by omega)]
    rw [hn]
    constructor
    · rw [List.getElem?_toArray, List.append_assoc, List.getElem?_append_left (by simp; omega), List.getElem?_take_of_lt (by omega), Array.getElem?_toList]; exact hl'.1
    · rw [List.getElem?_toArray, List.append_assoc, List.getElem?_append_left (by simp; omega), List.getElem?_take_of_lt (by omega), Array.getElem?_toList]; exact hl'.2

/-- The members of other names. -/
def others (id : ByteArray) (ms : List (ByteArray × ByteArray)) : List (ByteArray × ByteArray) := ms.filter fun m => decide (m.1 ≠ id)
theorem others_append (id : ByteArray) (x y : List (ByteArray × ByteArray)) : others id (x ++ y) = others id x ++ others id y := List.filter_append ..
theorem others_all (id : ByteArray) (ms : List (ByteArray × ByteArray)) (h : ∀ m ∈ ms, m.1 ≠ id) : others id ms = ms := List.filter_eq_self.2 (fun m hm => by simpa using h m hm)
theorem others_le (id : ByteArray) (ms : List (ByteArray × ByteArray)) : (others id ms).length ≤ ms.length := List.length_filter_le _ _
theorem others_len (id : ByteArray) : ∀ ms, (others id ms).length = othersN id ms
  | [] => rfl
  | m :: ms => by
    have := others_len id ms
    unfold others at this ⊢
    rw [List.filter_cons, othersN]
    by_cases h : m.1 = id
    · rw [if_neg (by simp [h]), if_pos h, this]; omega
    · rw [if_pos (by simp [h]), if_neg h, List.length_cons, this]; omega

/-- What DeleteFunc hands back. -/
def DelPost (W : World) (B g cap : Nat) (L : List (ByteArray × ByteArray)) (e : Ending) (w' : World) : Prop :=
  RowKit.Below B W w' ∧ e = .returned (.slice (some ⟨g, 0, none⟩) L.length cap) ∧ MRow w' g cap L

set_option maxHeartbeats 4000000 in
set_option maxRecDepth 100000 in
theorem deleteFunc (B g cap : Nat) (ms : List (ByteArray × ByteArray)) (id : ByteArray) (bx cb : Nat) (W : World) (hBg : B ≤ g) (hR : MRow W g cap ms) (ok : MemOk ms) (b1 : ms.length ≤ 4096) (hcap : cap ≤ maxLen) (hBx : bx < B) (hCb : cb < B) (hbx : W.cell? ⟨bx, 0, none⟩ = some (.pointer (some ⟨cb, 0, none⟩))) (hid : W.cell? ⟨cb, 0, none⟩ = some (.string id)) :
    Calls Try.prog 34 #[.slice (some ⟨g, 0, none⟩) ms.length cap, .func (.func 36) #[] #[.pointer (some ⟨bx, 0, none⟩)]] W (DelPost W B g cap (others id ms)) := by
  have HR : Hid (MRow W g cap ms) := hR
  have HX : Hid (W.cell? ⟨bx, 0, none⟩ = some (.pointer (some ⟨cb, 0, none⟩))) := hbx
  have HI : Hid (W.cell? ⟨cb, 0, none⟩ = some (.string id)) := hid
  have OK : Hid (MemOk ms) := ok
  have hgs := hR.lt
  have e36 : ∀ args w, (callFunc 36 args).run Try.prog w = .ok (.enter 36 args) w := enters_of Try.func36 (by kernel_rfl) rfl
  have hmc : ms.length ≤ cap := by obtain ⟨_, _, _, h, _⟩ := hR; exact h
  unfold maxLen at hcap
  clear hR hbx hid ok
  go_enter Try.func34, Try.ntmps34
  go_wp2_with fail
  refine (indexFunc (some ⟨g, 0, none⟩) cap ms id bx cb W (HR.out.mem OK.out) b1 HX.out HI.out).mono ?_
  rintro _ W1 ⟨hB1, h⟩
  have HB1 : Hid (RowKit.Below W.heap.size W W1) := hB1
  rcases h with ⟨rfl, hall⟩ | ⟨i0, rfl, hi0, hh, hbef⟩
  · have HP : Hid (DelPost W B g cap (others id ms) (.returned (.slice (some ⟨g, 0, none⟩) ms.length cap)) W1) := by
      refine ⟨hB1.mono (by omega), ?_, ?_⟩
      · rw [others_all id ms hall]
      · rw [others_all id ms hall]; exact HR.out.below hB1
    clear hall hB1
    go_wp2
    go_ret
    exact HP.out
  · have HS : Hid (others id (ms.take (i0 + 1)) = ms.take i0) := by
      refine (?_ : _ = _)
      rw [take_nth ms i0 hi0, others_append, others_all id _ hbef]
      simp [others, hh]
    have hzi : ((i0 : Int) == -1) = false := by rw [beq_eq_false_iff_ne]; omega
    have HR1 : Hid (MRow W1 g cap ms) := HR.out.below hB1
    have HBB : Hid (RowKit.Below B W W1) := hB1.mono (by omega)
    clear hB1 hh hbef
    go_wp2_with fail
    go_loopw [5, 6] (fun s5 s6 wv => ∃ (i j : Nat) (L : List (ByteArray × ByteArray)), s5 = .int .i64 i ∧ s6 = .int .i64 j ∧ i < j ∧ j ≤ ms.length ∧ L.length = ms.length ∧ Hid (L.take i = others id (ms.take j)) ∧ Hid (L.drop j = ms.drop j) ∧ Hid (MRow wv g cap L) ∧ Hid (RowKit.Below B W wv)) (fun _ s6 _ => ms.length - (intOf s6).toNat)
    case atStart => exact ⟨i0, i0 + 1, ms, rfl, by go_num, by omega, by omega, rfl, HS.out.symm, rfl, HR1.out, HBB.out⟩
    case round =>
      obtain ⟨i, j, L, rfl, rfl, hij, hj, hll, HT, HD, HW, HB⟩ := hrel
      by_cases hlt : j < ms.length
      · have hltz : (j : Int) < (ms.length : Int) := by omega
        have HJ : Hid (nth L j = nth ms j) := by
          have := congrArg (fun l => l[0]?) HD.out
          simp [show j < L.length by omega, hlt] at this
          refine (?_ : _ = _)
          rw [nth_eq L j (by omega), nth_eq ms j hlt]; exact this
        obtain ⟨h1, h2, _, _⟩ := HW.out.cells j (by omega)
        rw [HJ.out] at h1 h2
        have HX1 : Hid (wr.cell? ⟨bx, 0, none⟩ = some (.pointer (some ⟨cb, 0, none⟩))) := (HB.out.cell (p := ⟨bx, 0, none⟩) hBx).trans HX.out
        have HI1 : Hid (wr.cell? ⟨cb, 0, none⟩ = some (.string id)) := (HB.out.cell (p := ⟨cb, 0, none⟩) hCb).trans HI.out
        have HTJ : Hid (ms.take (j + 1) = ms.take j ++ [nth ms j]) := take_nth ms j hlt
        have HBA : Hid (RowKit.Below wr.heap.size wr (wr.alloc (.cells #[.string (nth ms j).1, .string (nth ms j).2] 62))) := (Below.refl _ wr).alloc (Nat.le_refl _) _
        have hsB : B ≤ wr.heap.size := by have := HB.out.size; omega
        go_wp2_with fail
        refine (closure36 (nth ms j).1 (nth ms j).2 id bx cb _ (old_cell HX1.out) (old_cell HI1.out)).mono ?_
        rintro _ w2 ⟨rfl, hB2⟩
        have hv0 : w2.cell? ⟨wr.heap.size, 0, none⟩ = some (.string (nth ms j).1) := (hB2.cell (p := ⟨wr.heap.size, 0, none⟩) (by simp)).trans (by simp)
        have hv1 : w2.cell? ⟨wr.heap.size, 1, none⟩ = some (.string (nth ms j).2) := (hB2.cell (p := ⟨wr.heap.size, 1, none⟩) (by simp)).trans (by simp)
        have HW2 : Hid (MRow w2 g cap L) := (HW.out.below HBA.out).below hB2
        have HB2 : Hid (RowKit.Below B W w2) := HB.out.trans (((HBA.out.mono hsB)).trans (hB2.mono (by simp; omega)))
        clear hB2 h1 h2
        have HDD : Hid (L.drop (j + 1) = ms.drop (j + 1)) := by
          have := congrArg (List.drop 1) HD.out
          rw [List.drop_drop, List.drop_drop] at this
          exact this
        by_cases he : (nth ms j).1 = id
        · rw [decide_eq_true he]
          have HT2 : Hid (L.take i = others id (ms.take (j + 1))) := by
            refine (?_ : _ = _)
            rw [HTJ.out, others_append, ← HT.out]
            simp [others, he]
          clear he
          go_wp2_with fail
          go_roundw
          case rel => exact ⟨i, j + 1, L, rfl, by go_num, by omega, by omega, hll, HT2.out, HDD.out, HW2.out, HB2.out⟩
          case measure => simp [intOf]; omega
        · rw [decide_eq_false he]
          obtain ⟨f0, _, f1, f1b⟩ := HW2.out.cells i (by omega)
          obtain ⟨x1, f2, f3, hW3⟩ := HW2.out.set i (by omega) (nth ms j)
          have HW3 : Hid _ := hW3
          have HB3 : Hid (RowKit.Below B W ((w2.setCell ⟨g, i * 2, none⟩ (.string (nth ms j).1)).setCell ⟨g, i * 2 + 1, none⟩ (.string (nth ms j).2))) := (HB2.out.setCell hBg _).setCell hBg _
          have HT2 : Hid ((L.set i (nth ms j)).take (i + 1) = others id (ms.take (j + 1))) := by
            refine (?_ : _ = _)
            rw [HTJ.out, others_append, ← HT.out, take_nth _ i (by rw [List.length_set]; omega), nth_set_same L i _ (by omega), List.take_set_of_le (Nat.le_refl _)]
            simp [others, he]
          have HD2 : Hid ((L.set i (nth ms j)).drop (j + 1) = ms.drop (j + 1)) := by
            refine (?_ : _ = _)
            rw [List.drop_set_of_lt (by omega)]; exact HDD.out
          have hiz : (i : Int) < (ms.length : Int) := by omega
          clear he hW3
          go_wp2_with fail
          go_roundw
          case rel => exact ⟨i + 1, j + 1, L.set i (nth ms j), by go_num, by go_num, by omega, by omega, by rw [List.length_set]; exact hll, HT2.out, HD2.out, HW3.out, HB3.out⟩
          case measure => simp [intOf]; omega
      · have hltz : ¬ (j : Int) < (ms.length : Int) := by omega
        have HT2 : Hid (L.take i = others id ms) := by
          have := HT.out
          rw [show ms.take j = ms from List.take_of_length_le (by omega)] at this
          exact this
        obtain ⟨w9, hcl, hg9, hR9⟩ := HW.out.clear i hll (by omega) (cap - i) 0
        have HP : Hid (DelPost W B g cap (others id ms) (.returned (.slice (some ⟨g, 0, none⟩) i cap)) w9) := by
          refine ⟨HB.out.grown hg9 (by have := HB.out.size; omega) (by rintro k h; cases h; exact hBg), ?_, ?_⟩
          · rw [← HT2.out, List.length_take, Nat.min_eq_left (by omega)]
          · rw [← HT2.out]; exact hR9
        have hic : ¬ cap < i := by omega
        clear hg9 hR9
        go_wp2
        go_ret
        exact HP.out
end Go.Proofs.Qxb6613745a
