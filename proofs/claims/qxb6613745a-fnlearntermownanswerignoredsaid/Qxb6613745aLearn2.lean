import Derived.Test.Qxb6613745aLearn
set_option linter.unusedVariables false
namespace Go.Proofs.Qxb6613745a
open Go.RowKit Go.Maps

theorem MemIn.below {A W : World} {B : Nat} {p : Option Addr} {ms : List (ByteArray × ByteArray)} (h : MemIn A B p ms) (hB : RowKit.Below B A W) : MemIn W B p ms := fun j hj => by
  obtain ⟨b, off, e, hb, h1, h2, h3⟩ := h j hj
  exact ⟨b, off, e, hb, (hB.cell (p := ⟨b, off + j * 2, none⟩) hb).trans h1, (hB.cell (p := ⟨b, off + j * 2 + 1, none⟩) hb).trans h2, h3⟩
theorem MemIn.mono {A : World} {B B' : Nat} {p : Option Addr} {ms : List (ByteArray × ByteArray)} (h : MemIn A B p ms) (hB : B ≤ B') : MemIn A B' p ms := fun j hj => by
  obtain ⟨b, off, e, hb, h1⟩ := h j hj
  exact ⟨b, off, e, by omega, h1⟩
theorem AnsIn.below {A W : World} {B : Nat} {p : Option Addr} {ms : List (ByteArray × Int)} (h : AnsIn A B p ms) (hB : RowKit.Below B A W) : AnsIn W B p ms := fun j hj => by
  obtain ⟨b, off, e, hb, h1, h2, h3⟩ := h j hj
  exact ⟨b, off, e, hb, (hB.cell (p := ⟨b, off + j * 2, none⟩) hb).trans h1, (hB.cell (p := ⟨b, off + j * 2 + 1, none⟩) hb).trans h2, h3⟩
theorem AnsIn.mono {A : World} {B B' : Nat} {p : Option Addr} {ms : List (ByteArray × Int)} (h : AnsIn A B p ms) (hB : B ≤ B') : AnsIn A B' p ms := fun j hj => by
  obtain ⟨b, off, e, hb, h1⟩ := h j hj
  exact ⟨b, off, e, by omega, h1⟩
theorem others_ok (id : ByteArray) {ms : List (ByteArray × ByteArray)} (ok : MemOk ms) : MemOk (others id ms) := fun a ha => ok a (List.mem_filter.1 ha).1

theorem dcnt_pos (an : List (ByteArray × Int)) (h : an ≠ []) : 0 < dcnt (ids an) := by
  obtain ⟨a, l, rfl⟩ := List.exists_cons_of_ne_nil h
  have : ∀ (l : List ByteArray) (x : ByteArray), x ∈ l → 0 < dcnt l := fun l => by
    induction l with
    | nil => intro x hx; simp at hx
    | cons y l ih =>
      intro x _
      rw [dcnt]
      by_cases hy : isIn y l = true
      · have := ih y ((isIn_iff y l).1 hy)
        omega
      · rw [if_neg hy]; omega
  exact this _ a.1 (by simp [ids])
theorem u64_form {W : World} {base n : Nat} {v : Value} {xs : List Value} (h : W.ownsRow base 30 1 v n xs) (h0 : 0 < n) : ∃ g cap, v = .slice (some ⟨g, 0, none⟩) n cap ∧ n ≤ 9223372036854775807 := by
  rcases h.2 with ⟨_, h'⟩ | ⟨g, cap, cur, hv, _, _, h1, h2, _⟩
  · omega
  · refine ⟨g, cap, hv, ?_⟩
    unfold maxLen at h2
    omega

/-- What learnTerm leaves. -/
def LearnPost (W : World) (cb : Nat) (id : ByteArray) (an : List (ByteArray × Int)) (ms : List (ByteArray × ByteArray)) (e : Ending) (w' : World) : Prop :=
  e = .returned (.tuple #[]) ∧ ((enoughB id (ids an) ms = false ∧ RowKit.Below W.heap.size W w') ∨ (enoughB id (ids an) ms = true ∧ ∃ w9, RowKit.Below W.heap.size W w9 ∧ w' = w9.setCell ⟨cb, 58, none⟩ (.map none)))

set_option maxHeartbeats 8000000 in
set_option maxRecDepth 100000 in
theorem learnTerm (cb b : Nat) (id : ByteArray) (t : Int) (p : Option Addr) (c : Nat) (ms : List (ByteArray × ByteArray)) (an : List (ByteArray × Int)) (w : World) (hC : CoreAt w cb id t p ms.length c (.map (some b))) (hM : MemIn w w.heap.size p ms) (n1 : p = none → ms = [] ∧ c = 0) (hA : AMap w b an) (ok : AnsOk an) (hT : ∀ a ∈ an, a.2 ≤ t) (b1 : ms.length ≤ 4096) (b2 : an.length ≤ 8192) :
    Calls Try.prog 31 #[.pointer (some ⟨cb, 0, none⟩)] w (LearnPost w cb id an ms) := by
  have HC : Hid (CoreAt w cb id t p ms.length c (.map (some b))) := hC
  have HM : Hid (MemIn w w.heap.size p ms) := hM
  have HA : Hid (AMap w b an) := hA
  have OK : Hid (AnsOk an) := ok
  have HT : Hid (∀ a ∈ an, a.2 ≤ t) := hT
  have N1 : Hid (p = none → ms = [] ∧ c = 0) := n1
  have HB1 : Hid (RowKit.Below w.heap.size w (w.alloc (.cells #[.pointer (some ⟨cb, 0, none⟩)] 45))) := (Below.refl _ w).alloc (Nat.le_refl _) _
  obtain ⟨_, k10, k11, k12, k20, k22, k58, _, hcb⟩ := (HC.out.below HB1.out).cells
  clear hC hM hA ok hT n1
  go_enter Try.func31, Try.ntmps31
  go_wp2_with fail
  go_quiet (fail)
  go_upto_region 4 with fail
  have HBQ : Hid (RowKit.Below w.heap.size w ((w.alloc (.cells #[.pointer (some ⟨cb, 0, none⟩)] 45)).drewN nq)) := Below.drewN HB1.out nq
  have HBX : Hid (((w.alloc (.cells #[.pointer (some ⟨cb, 0, none⟩)] 45)).drewN nq).cell? ⟨w.heap.size, 0, none⟩ = some (.pointer (some ⟨cb, 0, none⟩))) := by
    refine (?_ : _ = _)
    show (w.alloc (.cells #[.pointer (some ⟨cb, 0, none⟩)] 45)).cell? _ = _
    simp
  have hsz : ((w.alloc (.cells #[.pointer (some ⟨cb, 0, none⟩)] 45)).drewN nq).heap.size = w.heap.size + 1 := by
    show (w.alloc (.cells #[.pointer (some ⟨cb, 0, none⟩)] 45)).heap.size = _
    simp
  clear k10 k11 k12 k20 k22 k58 hcb
  generalize (w.alloc (.cells #[.pointer (some ⟨cb, 0, none⟩)] 45)).drewN nq = W1 at *
  have hcb : cb < w.heap.size := HC.out.cells.2.2.2.2.2.2.2.2
  go_cut [3] (fun s3 wx => ∃ (po : Option Addr) (co : Nat), s3 = .slice po (others id ms).length co ∧ Hid (MemIn wx wx.heap.size po (others id ms)) ∧ Hid (RowKit.Below W1.heap.size W1 wx))
  case first =>
    have HM1 : Hid (MemIn W1 W1.heap.size p ms) := (HM.out.below HBQ.out).mono (by omega)
    have HI1 : Hid (W1.cell? ⟨cb, 0, none⟩ = some (.string id)) := (HC.out.below HBQ.out).cells.1
    cases p with
    | none =>
      obtain ⟨rfl, rfl⟩ := N1.out rfl
      go_wp2_with fail
      refine (clone_nil W1).mono ?_
      rintro _ W2 ⟨rfl, hw2⟩
      have hw2 := hw2.symm
      subst hw2
      go_wp2_with fail
      refine (deleteFunc_nil id w.heap.size cb W1 HBX.out HI1.out).mono ?_
      rintro _ W3 ⟨rfl, hB3⟩
      have HB3 : Hid (RowKit.Below W1.heap.size W1 W3) := hB3
      clear hB3
      go_wp2_with fail
      go_meet
      exact ⟨none, 0, rfl, fun j hj => absurd hj (by simp [others]), HB3.out⟩
    | some ad =>
      go_wp2_with fail
      refine (clone_some ad c ms W1 HM1.out b1).mono ?_
      rintro _ W2 ⟨hB2, g, cap, rfl, hR2, hg2, hcap2⟩
      have HB2 : Hid (RowKit.Below W1.heap.size W1 W2) := hB2
      have HR2 : Hid (MRow W2 g cap ms) := hR2
      clear hB2 hR2
      go_wp2_with fail
      refine (deleteFunc W1.heap.size g cap ms id w.heap.size cb W2 hg2 HR2.out HM1.out.ok b1 hcap2 (by omega) (by omega) ((HB2.out.cell (p := ⟨w.heap.size, 0, none⟩) (by show w.heap.size < _; omega)).trans HBX.out) ((HB2.out.cell (p := ⟨cb, 0, none⟩) (by show cb < _; omega)).trans HI1.out)).mono ?_
      rintro _ W3 ⟨hB3, rfl, hR3⟩
      have HB3 : Hid (RowKit.Below W1.heap.size W1 W3) := HB2.out.trans hB3
      have HR3 : Hid (MRow W3 g cap (others id ms)) := hR3
      clear hB3 hR3
      go_wp2_with fail
      go_meet
      exact ⟨some ⟨g, 0, none⟩, cap, rfl, HR3.out.mem (others_ok id HM1.out.ok), HB3.out⟩
  case rest =>
    obtain ⟨po, co, rfl, HMO, HBO⟩ := hcut
    have HBW : Hid (RowKit.Below w.heap.size w wc) := HBQ.out.trans (HBO.out.mono (by omega))
    have hbx : wc.cell? ⟨w.heap.size, 0, none⟩ = some (.pointer (some ⟨cb, 0, none⟩)) := (HBO.out.cell (p := ⟨w.heap.size, 0, none⟩) (by show w.heap.size < _; omega)).trans HBX.out
    have HCW : Hid (CoreAt wc cb id t p ms.length c (.map (some b))) := HC.out.below HBW.out
    obtain ⟨_, k10, k11, k12, k20, k22, k58, _, _⟩ := HCW.out.cells
    have hol := others_le id ms
    go_wp2_with fail
    refine (counted po co b (others id ms) an wc HMO.out (HA.out.below HBW.out) OK.out (by omega)).mono ?_
    rintro _ W5 ⟨rfl, hB5⟩
    rw [cntIn_others, others_len] at *
    have hle := countN_le id (ids an) ms
    have HE : Hid (enoughB id (ids an) ms = decide (ms.length ≤ 2 * countN id (ids an) ms ∨ countN id (ids an) ms = othersN id ms)) := (rfl : _ = _)
    have HB5 : Hid (RowKit.Below w.heap.size w W5) := HBW.out.trans (hB5.mono HBW.out.size)
    have hbx5 : W5.cell? ⟨w.heap.size, 0, none⟩ = some (.pointer (some ⟨cb, 0, none⟩)) := (hB5.cell (cell_lt hbx)).trans hbx
    clear k10 k11 k12 k20 k22 k58 hbx hB5
    have HC5 : Hid (CoreAt W5 cb id t p ms.length c (.map (some b))) := HC.out.below HB5.out
    obtain ⟨_, k10, k11, k12, k20, k22, k58, kf, _⟩ := HC5.out.cells
    generalize countN id (ids an) ms = cn at *
    generalize othersN id ms = on at *
    generalize hnn : ms.length = n at *
    by_cases hen : n ≤ 2 * cn ∨ cn = on
    · have hE : ¬ ((cn : Int) < if (on : Int) < (n : Int) - ((n : Int) / 2 + 1) + 1 then (on : Int) else (n : Int) - ((n : Int) / 2 + 1) + 1) := by
        split <;> omega
      have HEN : Hid (enoughB id (ids an) ms = true) := HE.out.trans (decide_eq_true hen)
      have HSZ : Hid (Maps.size (amap an) = dcnt (ids an)) := amap_size an OK.out
      have HA5 : Hid (AMap W5 b an) := HA.out.below HB5.out
      clear hen HE
      by_cases han : an = []
      · have HS0 : Hid (Maps.size (amap an) = 0) := by
          refine (?_ : _ = _)
          rw [HSZ.out, han]; rfl
        clear han HSZ
        go_wp2_with (at_len; refine wpList_len_own _ rfl _ 36 rfl 9 30 Try.underlying36 _ b an.length (amap an) rfl HA5.out ?_; rw [HS0.out])
        all_goals (go_end0; exact ⟨rfl, .inr ⟨HEN.out, W5, HB5.out, rfl⟩⟩)
      · have HAN : Hid (an ≠ []) := han
        have hsl := dcnt_le (ids an)
        have hpos : 0 < dcnt (ids an) := dcnt_pos an han
        have hil : (ids an).length = an.length := by simp [ids]
        rw [hil] at hsl
        clear han hil
        generalize dcnt (ids an) = dd at *
        have HW6 : Hid (RowKit.Below W5.heap.size W5 (W5.alloc (.cells #[.map (some b)] 36))) := (Below.refl _ W5).alloc (Nat.le_refl _) _
        have hpz : (0 : Int) < (dd : Int) := by omega
        by_cases hmin : (on : Int) < (n : Int) - ((n : Int) / 2 + 1) + 1
        all_goals (
          go_wp2_with (at_len; refine wpList_len_own _ rfl _ 36 rfl 9 30 Try.underlying36 _ b an.length (amap an) rfl HA5.out ?_; rw [HSZ.out])
          refine (values40 b W5).mono ?_
          rintro _ W6 ⟨rfl, hw6⟩
          subst hw6
          go_wp2_with fail
          refine (collect W5.heap.size b an.length (amap an) _ (by simp) (by simp) (HA5.out.below HW6.out) (by rw [HSZ.out]; omega)).mono ?_
          rintro _ W7 ⟨hB7, v7, xs7, rfl, hS7, ho7⟩
          obtain ⟨g7, cap7, hv7, hx7⟩ := u64_form ho7 (allV_pos OK.out HAN.out hS7)
          subst hv7
          have HB7 : Hid (RowKit.Below w.heap.size w W7) := HB5.out.trans ((HW6.out.mono HB5.out.size).trans (hB7.mono (by simp; have := HB5.out.size; omega)))
          have HO7 : Hid _ := ho7
          have HS7 : Hid (AllV (amap an) xs7) := hS7
          have hbx7 : W7.cell? ⟨w.heap.size, 0, none⟩ = some (.pointer (some ⟨cb, 0, none⟩)) := (hB7.cell (cell_lt (old_cell hbx5))).trans (old_cell hbx5)
          clear hB7 ho7 hS7 k10 k11 k12 k20 k22 k58 kf hbx5
          have HC7 : Hid (CoreAt W7 cb id t p n c (.map (some b))) := HC.out.below HB7.out
          obtain ⟨_, k10, k11, k12, k20, k22, k58, kf, _⟩ := HC7.out.cells
          go_wp2_with fail
          refine (max38 _ g7 cap7 xs7 t W7 HO7.out (allV_pos OK.out HAN.out HS7.out) (allV_le OK.out HT.out HS7.out) hx7).mono ?_
          rintro _ W8 ⟨⟨m8, rfl, h80, h81⟩, hw8⟩
          have hw8 := hw8.symm
          subst hw8
          have hm8 : ¬ t < m8 := by omega
          go_wp2_with fail
          go_end0
          exact ⟨rfl, .inr ⟨HEN.out, W7, HB7.out, rfl⟩⟩)
    · have hE : ((cn : Int) < if (on : Int) < (n : Int) - ((n : Int) / 2 + 1) + 1 then (on : Int) else (n : Int) - ((n : Int) / 2 + 1) + 1) := by
        split <;> omega
      have HEN : Hid (enoughB id (ids an) ms = false) := HE.out.trans (decide_eq_false hen)
      clear hen HE
      go_wp2_with fail
      all_goals (refine bodyPost_ret (results_none rfl _ _ _) rfl ?_; exact ⟨rfl, .inl ⟨HEN.out, HB5.out⟩⟩)
end Go.Proofs.Qxb6613745a
