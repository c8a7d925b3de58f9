import Derived.Test.Qxb6613745aVals
set_option linter.unusedVariables false
namespace Go.Proofs.Qxb6613745a
open Go.RowKit Go.Maps Go.Sort Go.Shelf

attribute [local go_sem] Oper.semAt_some

theorem info30 : (Try.prog.info? 30).map (fun i => (i.zero, i.size, i.bytes)) = some (some (.int .u64 0), 1, 8) := by kernel_rfl

/-- What AppendSeq has gathered. -/
def Gath (n₀ Bs : Nat) (pre : List Int) (W : World) : Prop := ∃ v, Boxed W Bs 60 v ∧ W.ownsRow n₀ 30 1 v pre.length (pre.map (Value.int .u64))

theorem own_heap {W : World} {base : Nat} {e : TypeId} {size : Nat} {v : Value} {n r : Nat} {xs : List Value} (h : W.ownsRow base e size v n xs) (hr : v.ownBlock = some r) : base ≤ r ∧ ∃ cur, W.heap[r]? = some (.cells cur e (0, 0)) := by
  rcases h.2 with ⟨rfl, _⟩ | ⟨g, cap, cur, rfl, hb, hg, _⟩
  · cases hr
  · simp [Value.ownBlock] at hr
    subst hr
    exact ⟨hb, cur, hg⟩
theorem heap_kept {W W' : World} {row : Option Nat} {b : Nat} {o : Obj} (hg : W.grownBy W' row) (h : W.heap[b]? = some o) (hne : row ≠ some b) : W'.heap[b]? = some o :=
  (hg.block b (lt_of_heap h) (fun e => hne e.symm)).trans h
theorem Gath.own {n₀ Bs B : Nat} : OwnFrom B (Gath n₀ Bs) := by
  rintro s W W' row ⟨v, hb, ho⟩ hg hr
  refine ⟨v, heap_kept hg hb (fun e => ?_), ho.kept hg ?_⟩
  · obtain ⟨_, o, h1, h2⟩ := hr _ e
    rw [show W.heap[Bs]? = _ from hb] at h1
    cases h1; cases h2
  · cases hv : v.ownBlock with
    | none => exact .inl rfl
    | some r =>
      refine .inr fun e => ?_
      obtain ⟨_, o, h1, h2⟩ := hr r e.symm
      obtain ⟨_, cur, hc⟩ := own_heap ho hv
      rw [hc] at h1
      cases h1; cases h2
theorem gath_step {n₀ Bs : Nat} {pre : List Int} {W W1 : World} {v v' : Value} {x : Int} {tmp : Obj} (hn : n₀ ≤ Bs) (hB : Boxed W Bs 60 v) (hR : W.ownsRow n₀ 30 1 v pre.length (pre.map (Value.int .u64)))
    (hown : W1.ownsRow n₀ 30 1 v' (pre.length + 1) (pre.map (Value.int .u64) ++ [.int .u64 x])) (hg : (W.alloc tmp).grownBy W1 v.ownBlock) :
    W1.cell? ⟨Bs, 0, none⟩ = some v ∧ W1.frozen? ⟨Bs, 0, none⟩ = false ∧ Gath n₀ Bs (pre ++ [x]) (W1.setCell ⟨Bs, 0, none⟩ v') ∧ KeepsOthers W (W1.setCell ⟨Bs, 0, none⟩ v') ∧ Below n₀ W (W1.setCell ⟨Bs, 0, none⟩ v') := by
  have hlt : Bs < W.heap.size := lt_of_heap hB
  have hBa : (W.alloc tmp).heap[Bs]? = some (.cells #[v] 60 (0, 0)) := heap_kept (World.grownBy_alloc W tmp none) hB (by simp)
  have hRa := hR.alloc tmp
  have hne : v.ownBlock ≠ some Bs := fun e => by
    obtain ⟨_, cur, hc⟩ := own_heap hRa e
    rw [hBa] at hc
    simp at hc
  have hB1 : W1.heap[Bs]? = some (.cells #[v] 60 (0, 0)) := heap_kept hg hBa hne
  have hc1 := heap_cell hB1 (o := 0) (v := v) (by simp)
  have hs := setCell_at hB1 0 v'
  refine ⟨hc1.1, hc1.2, ⟨v', (by unfold Boxed; simpa using hs), ?_⟩, ?_, ?_⟩
  · rw [List.length_append, List.map_append]
    refine hown.kept (row := some Bs) ⟨rfl, rfl, rfl, by simp [World.setCell], fun k _ hk => Below.heap_setCell _ _ _ _ (fun e => hk (by rw [e]))⟩ ?_
    cases hv : v'.ownBlock with
    | none => exact .inl rfl
    | some r =>
      refine .inr fun e => ?_
      obtain ⟨_, cur, hc⟩ := own_heap hown hv
      have : r = Bs := by simpa using e
      subst this
      rw [hB1] at hc
      simp at hc
  · refine (KeepsOthers.alloc W tmp).trans ((KeepsOthers.of_grownBy hg ?_).trans (KeepsOthers.setCell _ _ _))
    intro j o hj ho
    obtain ⟨_, cur, hc⟩ := own_heap hRa hj
    rw [hc] at ho
    cases ho; rfl
  · refine Below.setCell ?_ hn _
    exact ((Below.refl n₀ W).alloc (by omega) tmp).grown hg (by simp; omega) (fun k e => (own_heap hRa e).1)

section
variable {F : Fence} {nF : Nat} (w : World) {ops : Array Oper} {rest : List Oper} {o : Oper} {a : Act} {Q : Exit → Act → World → Prop}
theorem append60_in (hgd : o.guard = none) (s x : Operand) (ho : o.op = .call { callee := .builtin .append, args := #[s, x], argTypes := #[60, 60] }) (base : Nat)
    (v : Value) (n : Nat) (xs : List Value) (hs : a.eval s = v) (hown : w.ownsRow base 30 1 v n xs) (ad : Nat) (z : Int) (hx : a.eval x = .slice (some ⟨ad, 0, none⟩) 1 1) (hz : w.cell? ⟨ad, 0, none⟩ = some (.int .u64 z)) (hn : n ≤ 33554432) (hbase : base ≤ w.heap.size)
    (h : ∀ g' cap' w', w'.ownsRow base 30 1 (.slice (some ⟨g', 0, none⟩) (n + 1) cap') (n + 1) (xs ++ [.int .u64 z]) → w.grownBy w' v.ownBlock → wpListIn F nF Try.prog ops Q rest (a.put o.dst (.slice (some ⟨g', 0, none⟩) (n + 1) cap')) w') :
    wpListIn F nF Try.prog ops Q (o :: rest) a w := by
  obtain ⟨i3, hi3, hz3, hs3, hb3⟩ := info_parts info30
  refine wpListIn_append_own_at w hgd s x 60 ho base 30 i3 (.int .u64 0) 1 8 Try.underlying60 hi3 hz3 hs3 hb3 rfl (by decide) v n xs hs hown ⟨ad, 0, none⟩ 1 1 [.int .u64 z] hx rfl ?_ (by simp [Value.oneCell']) (by unfold maxLen; omega) (by omega) hbase ?_
  · intro j u hu
    match j, hu with
    | 0, hu => simp at hu; subst hu; exact hz
    | j + 1, hu => simp at hu
  · intro v' w' h1 h2 _ h4
    rcases h1.2 with ⟨_, h'⟩ | ⟨g', cap', cur, rfl, _⟩
    · omega
    · exact h g' cap' w' h1 h2
end

/-- The values gathered, in memory of the call's own. -/
def SeqPost (w : World) (D0 : DataW Unit) (e : Ending) (W' : World) : Prop := Below w.heap.size w W' ∧ ∃ v xs, e = .returned v ∧ AllV D0 xs ∧ W'.ownsRow w.heap.size 30 1 v xs.length (xs.map (Value.int .u64))

set_option maxRecDepth 100000 in
set_option maxHeartbeats 4000000 in
theorem appendSeq (Bm b nn : Nat) (D0 : DataW Unit) (w : World) (hBm : Bm < w.heap.size) (hm : w.cell? ⟨Bm, 0, none⟩ = some (.map (some b))) (hown : w.ownsMap Try.prog 9 (plainElem Try.prog 30) b nn D0) (hnn : Maps.size D0 ≤ 8192) :
    CallsIn Fence.wide 5 Try.prog 44 #[.slice none 0 0, .func (.func 45) #[] #[.pointer (some ⟨Bm, 0, none⟩)]] w (SeqPost w D0) := by
  have h44 : Fence.wide.fn 44 := trivial
  have h45 : Fence.wide.fn 45 := trivial
  refine callsIn_of_wp_marks Try.func44 rfl h44 ?_ rfl
  simp only [Try.ntmps44, List.size_toArray, List.length_cons, List.length_nil, Nat.reduceAdd, Nat.reduceSub, Array.replicate_succ, Array.replicate_zero, List.push_toArray, List.append_toArray, List.nil_append, List.cons_append]
  gi_wp2_with fail
  have hB0 : Below w.heap.size w (w.alloc (.cells #[.slice none 0 0] 60)) := (Below.refl _ w).alloc (Nat.le_refl _) _
  refine wpIn_rangeFunc_ownG rfl (by omega) (gf := 45) (lb := #[.pointer (some ⟨Bm, 0, none⟩)]) rfl h45 (enters_of Try.func45 (by kernel_rfl) rfl)
    (values_stops Fence.wide (5 - 1) h45 rfl (by omega) Bm b nn D0 (w.alloc (.cells #[.slice none 0 0] 60)) (by simp; omega) ((hB0.cell (p := ⟨Bm, 0, none⟩) hBm).trans hm) (hown.alloc _)) walksK_t walksK_b (Below.refl _ _) (fun _ => rfl)
    (fun pre W => Gath w.heap.size w.heap.size pre W ∧ Below w.heap.size w W)
    (fun _ _ _ => False)
    (OwnFrom.and Gath.own (ownFrom_below (Nat.le_refl _) (by simp)))
    (fun _ _ _ _ _ hs _ _ => hs)
    ⟨⟨_, Boxed.new w 60 (.slice none 0 0), World.ownsRow_nil _ _ _ _⟩, hB0⟩
    (fun x => { tmps := #[.slice none 0 0, .func (.func 45) #[] #[.pointer (some ⟨Bm, 0, none⟩)], .pointer (some ⟨w.heap.size, 0, none⟩), undef, .slice none 0 0, .int .u64 x, .func (.func 45) #[] #[.pointer (some ⟨Bm, 0, none⟩)], .int .u64 x, undef, undef, undef, undef, undef], defers := [] }) ?assign ?body ?done ?stop
  case assign =>
    intro l x W K hK
    gi_wp2
    exact hK
  case body =>
    rintro l pre x W ⟨⟨v, hb, ho⟩, hB⟩ hlt
    have hcell := hb.cell
    have hfz := hb.frozen
    have HB : Hid (Below w.heap.size w W) := hB
    have HBX : Hid (Boxed W w.heap.size 60 v) := hb
    have HO : Hid (W.ownsRow w.heap.size 30 1 v pre.length (pre.map (Value.int .u64))) := ho
    have SZ : w.heap.size ≤ W.heap.size := hB.size
    clear hb ho hB hm hown hB0
    gi_wp2_with (gi_at_builtin; refine append60_in _ rfl _ _ rfl w.heap.size v pre.length _ rfl (HO.out.alloc _) W.heap.size x rfl (by simp) (by omega) (by simp; omega) ?_; intro g' cap' w1 hown1 hg1; obtain ⟨k1, k2, k3, k4, k5⟩ := gath_step (Nat.le_refl _) HBX.out HO.out hown1 hg1; have K3 : Hid _ := k3; have K4 : Hid _ := k4; have K5 : Hid _ := k5; clear k3 k4 k5 hown1 hg1)
    exact ⟨K4.out.from _, K4.out.walks, K3.out, HB.out.trans K5.out⟩
  case done =>
    rintro D xs W hD hS ⟨⟨v, hb, ho⟩, hB⟩ hK
    have hcell := hb.cell
    have HP : Hid (SeqPost w D0 (.returned v) (W.putObj D (.deferred none))) := by
      have hn0 : w.heap.size ≤ D := by simp at hD; omega
      refine ⟨hB.grown (grownBy_putObj' W D _) hB.size (fun k e => by cases e; exact hn0), v, xs, rfl, hS, ho.kept (grownBy_putObj' W D _) ?_⟩
      cases hv : v.ownBlock with
      | none => exact .inl rfl
      | some r =>
        refine .inr fun e => ?_
        obtain ⟨_, cur, hc⟩ := own_heap ho hv
        have : r = D := by simpa using e
        subst this
        rw [hK] at hc
        cases hc
    clear hb ho hB hm hown hB0
    gi_wp2
    refine ⟨by simp, .inl ⟨_, _, rfl, run_takeDeferred hK, ?_⟩⟩
    refine ⟨_, results_tmp rfl _ _ _, ?_⟩
    exact HP.out
  case stop =>
    rintro D c pre W _ _ h _
    exact h.elim
end Go.Proofs.Qxb6613745a
