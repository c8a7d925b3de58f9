import Derived.Test.Qxb6613730aUnm
import Derived.Test.Qxb6613730aLp3
set_option linter.unusedVariables false
namespace Go.Proofs.Qxb6613730a
open Go.RowKit Go.Shelf Go.Sort

attribute [local go_sem] Oper.semAt_some

theorem cell_new_at (W : World) (v : Value) (t : TypeId) (b : Nat) (h : b = W.heap.size) : (W.alloc (.cells #[v] t)).cell? ⟨b, 0, none⟩ = some v := by
  subst h; simp

theorem data_set [Inhabited Ent] (us : List Ent) (i : Nat) (hi : i < us.length) (k : ByteArray) (z : Int) (v' : Value) (hm : (nth us i).m = k) (hn : ∀ a b, a < us.length → b < us.length → a ≠ b → (nth us a).m ≠ (nth us b).m) :
    (us.set i { nth us i with v := v', ls := (nth us i).ls ++ [z] }).map Ent.data = addUse k z (us.map Ent.data) := by
  have h1 : (us.map Ent.data)[i]? = some (k, (nth us i).ls) := by
    rw [List.getElem?_map, List.getElem?_eq_getElem hi, ← nth_eq us i hi, ← hm]; rfl
  rw [addUse_at k z (us.map Ent.data) i (nth us i).ls h1 (fun j p hj hp => by
    rw [List.getElem?_map, List.getElem?_eq_getElem (by omega), ← nth_eq us j (by omega)] at hp
    simp at hp; subst hp
    show (nth us j).m ≠ k
    rw [← hm]; exact hn j i (by omega) hi (by omega)), List.map_set, ← hm]
  rfl

theorem data_new [Inhabited Ent] (us : List Ent) (k : ByteArray) (z : Int) (ub : Nat) (v' : Value) (hk : ∀ i, i < us.length → (nth us i).m ≠ k) :
    ((us ++ [(⟨k, ub, .slice none 0 0, []⟩ : Ent)]).set us.length { nth (us ++ [(⟨k, ub, .slice none 0 0, []⟩ : Ent)]) us.length with v := v', ls := (nth (us ++ [(⟨k, ub, .slice none 0 0, []⟩ : Ent)]) us.length).ls ++ [z] }).map Ent.data = addUse k z (us.map Ent.data) := by
  rw [nth_append_last, addUse_new k z (us.map Ent.data) (fun p hp => by
    obtain ⟨e, he, rfl⟩ := List.mem_map.1 hp
    obtain ⟨i, hi, rfl⟩ := nth_of_mem us e he
    exact hk i hi)]
  simp [Ent.data]

/-- Behind the map's store. -/
theorem St.stored [Inhabited Ent] {n₀ Bm Bk : Nat} {W : World} {bm cnt : Nat} {vk : Value} {D : DataW Unit} {us : List Ent} (h : St n₀ Bm Bk W bm cnt vk D us) (o : Obj) (W2 : World) (hg2 : (W.alloc o).grownBy W2 (some bm)) :
    Boxed W2 Bk 92 vk ∧ W2.ownsRow n₀ 93 1 vk us.length (us.map Ent.ptr) := by
  have hA := h.alloc o
  obtain ⟨es, c, hm⟩ := map_heap hA.map
  refine ⟨heap_kept hg2 hA.boxK (fun e => by simp at e; rw [e, show (W.alloc o).heap[Bk]? = _ from hA.boxK] at hm; cases hm), hA.row.kept hg2 ?_⟩
  cases hr : vk.ownBlock with
  | none => exact .inl rfl
  | some r =>
    refine .inr fun e' => ?_
    obtain ⟨_, cur, hc⟩ := own_heap hA.row hr
    simp at e'
    rw [e', hm] at hc; cases hc

theorem cells_two {W : World} {b : Nat} {x y : Value} {t : TypeId} (h : W.heap[b]? = some (.cells #[x, y] t (0, 0))) : W.cell? ⟨b, 0, none⟩ = some x ∧ W.cell? ⟨b, 1, none⟩ = some y ∧ W.frozen? ⟨b, 1, none⟩ = false := by
  simp [World.cell?, World.frozen?, h]

/-- The first line of the newest. -/
theorem St.lineLast [Inhabited Ent] {n₀ Bm Bk : Nat} {W : World} {bm cnt : Nat} {vk : Value} {D : DataW Unit} {us : List Ent} {k : ByteArray} {ub : Nat} (h : St n₀ Bm Bk W bm cnt vk D (us ++ [(⟨k, ub, .slice none 0 0, []⟩ : Ent)])) (hn₀ : n₀ ≤ W.heap.size) (z : Int) (tmp : Obj) (W2 : World) (v' : Value)
    (hown : W2.ownsRow n₀ 3 1 v' (0 + 1) ([] ++ [.int .i64 z])) (hgrow : (W.alloc tmp).grownBy W2 (Value.slice none 0 0).ownBlock) (hat : v'.ownBlock = (Value.slice none 0 0).ownBlock ∨ v'.ownBlock = some (W.alloc tmp).heap.size) :
    W2.heap[ub]? = some (.cells #[.string k, .slice none 0 0] 49 (0, 0)) ∧
    St n₀ Bm Bk (W2.setCell ⟨ub, 1, none⟩ v') bm cnt vk D ((us ++ [(⟨k, ub, .slice none 0 0, []⟩ : Ent)]).set us.length { nth (us ++ [(⟨k, ub, .slice none 0 0, []⟩ : Ent)]) us.length with v := v', ls := (nth (us ++ [(⟨k, ub, .slice none 0 0, []⟩ : Ent)]) us.length).ls ++ [z] }) ∧
    Below n₀ W (W2.setCell ⟨ub, 1, none⟩ v') ∧ KeepsOthers W (W2.setCell ⟨ub, 1, none⟩ v') := by
  have e0 : nth (us ++ [(⟨k, ub, .slice none 0 0, []⟩ : Ent)]) us.length = ⟨k, ub, .slice none 0 0, []⟩ := nth_append_last us _
  have := h.line hn₀ us.length (by simp) z tmp W2 v' (by rw [e0]; exact hown) (by rw [e0]; exact hgrow) (by rw [e0]; exact hat)
  rw [e0] at this ⊢
  exact this

theorem St.lastCell [Inhabited Ent] {n₀ Bm Bk : Nat} {W : World} {bm cnt : Nat} {vk : Value} {D : DataW Unit} {us : List Ent} {k : ByteArray} {ub : Nat} (h : St n₀ Bm Bk W bm cnt vk D (us ++ [(⟨k, ub, .slice none 0 0, []⟩ : Ent)])) : W.cell? ⟨ub, 1, none⟩ = some (.slice none 0 0) := by
  have := (h.ent us.length (by simp)).1
  rw [nth_append_last] at this
  exact (cells_two this).2.1

theorem info49 : (Try.prog.info? 49).map (fun i => (i.zero, i.size, i.bytes)) = some (some (.agg #[.string ⟨#[]⟩, .slice none 0 0]), 2, 40) := by kernel_rfl

theorem made45 (n : Nat) (hn : n ≤ 16777216) : ∃ mc : Array Value, mc.size = n * 2 ∧ ∀ W : World, (Instr.makeSlice 45 (.int .i64 (n : Int)) (.int .i64 (n : Int))).run Try.prog W = .ok (.slice (some ⟨W.heap.size, 0, none⟩) n n) (W.alloc (.cells mc 49)) := by
  obtain ⟨i, hi, hz, hs, hb⟩ := info_parts info49
  refine ⟨madeCells (Value.agg #[.string ⟨#[]⟩, .slice none 0 0]).cells (n * i.size), by rw [size_madeCells, hs], fun W => ?_⟩
  have := run_make (P := Try.prog) W 45 49 i _ Try.underlying45 hi hz .i64 .i64 n n (by omega) (by omega) (by rw [hb]; omega) (by omega)
  simpa using this

theorem own_form {W : World} {base : Nat} {e : TypeId} {size : Nat} {v : Value} {n : Nat} {xs : List Value} (h : W.ownsRow base e size v n xs) : ∃ p cap, v = .slice p n cap ∧ (0 < n → ∃ g, p = some ⟨g, 0, none⟩) := by
  rcases h.2 with ⟨rfl, rfl⟩ | ⟨g, cap, cur, rfl, _⟩
  · exact ⟨none, 0, rfl, fun h => absurd h (Nat.lt_irrefl _)⟩
  · exact ⟨_, _, rfl, fun _ => ⟨g, rfl⟩⟩

theorem two_free {W : World} {fb : Nat} {cf : Array Value} {n i : Nat} (h : W.heap[fb]? = some (.cells cf 49 (0, 0))) (hs : cf.size = n * 2) (hi : i < n) (v : Value) :
    ∃ x0 x1, W.cell? ⟨fb, i * 2, none⟩ = some x0 ∧ W.frozen? ⟨fb, i * 2, none⟩ = false ∧ (W.setCell ⟨fb, i * 2, none⟩ v).cell? ⟨fb, i * 2 + 1, none⟩ = some x1 ∧ (W.setCell ⟨fb, i * 2, none⟩ v).frozen? ⟨fb, i * 2 + 1, none⟩ = false := by
  have a0 := heap_cell h (Array.getElem?_eq_getElem (show i * 2 < cf.size by omega))
  have a1 := heap_cell (setCell_at h (i * 2) v) (Array.getElem?_eq_getElem (show i * 2 + 1 < (cf.setIfInBounds (i * 2) v).size by simp; omega))
  exact ⟨_, _, a0.1, a0.2, a1.1, a1.2⟩

theorem putObj_cell {W : World} {D0 : Nat} {o : Obj} {a : Addr} {v : Value} (hd : W.heap[D0]? = some (.deferred (some []))) (hc : W.cell? a = some v) : (W.putObj D0 o).cell? a = some v := by
  have hne : a.block ≠ D0 := fun e => by
    unfold World.cell? at hc
    rw [e, hd] at hc
    cases hc
  rw [World.cell?_of_block (w := W)]
  · exact hc
  · show (W.heap.setIfInBounds D0 o)[a.block]? = _
    rw [Array.getElem?_setIfInBounds_ne (Ne.symm hne)]
theorem below_putObj {n₀ D0 : Nat} {w W : World} {o : Obj} (hD : n₀ ≤ D0) (h : RowKit.Below n₀ w W) : RowKit.Below n₀ w (W.putObj D0 o) :=
  ⟨h.os, h.tape, h.output, by show _ ≤ (W.heap.setIfInBounds D0 o).size; rw [Array.size_setIfInBounds]; exact h.size, fun k hk => by
    show (W.heap.setIfInBounds D0 o)[k]? = _
    rw [Array.getElem?_setIfInBounds_ne (by omega)]; exact h.block k hk⟩
theorem laid_putObj {n₀ D0 fb : Nat} {W : World} {o : Obj} {rs : List (ByteArray × List Int)} (hd : W.heap[D0]? = some (.deferred (some []))) (h : Laid n₀ W fb rs) : Laid n₀ (W.putObj D0 o) fb rs := by
  have hs : (W.putObj D0 o).heap.size = W.heap.size := by show (W.heap.setIfInBounds D0 o).size = _; rw [Array.size_setIfInBounds]
  refine ⟨h.1, by rw [hs]; exact h.2.1, fun j hj => ?_⟩
  obtain ⟨lb, cap, c0, c1, h1, h2, h3, h4, h5, h6⟩ := h.2.2 j hj
  exact ⟨lb, cap, putObj_cell hd c0, putObj_cell hd c1, h1, by rw [hs]; exact h2, h3, h4, h5, fun t ht => putObj_cell hd (h6 t ht)⟩

/-- What UnmodelledOf hands back. -/
def UnmPost (w : World) (gs : List (ByteArray × List Int)) (e : Ending) (W' : World) : Prop :=
  RowKit.Below w.heap.size w W' ∧ ∃ fb rs, e = .returned (.slice (some ⟨fb, 0, none⟩) rs.length rs.length) ∧ Ans gs rs ∧ Laid w.heap.size W' fb rs

set_option maxRecDepth 100000 in
set_option maxHeartbeats 4000000 in
theorem unm_w [Inhabited Ent] [Inhabited Use] (BL BK : Nat) (pl pk : Option Addr) (cl0 nk ck : Nat) (xs : List Use) (hlen : xs.length ≤ nk) (hnk : nk ≤ maxLen) (w : World)
    (hBL : w.cell? ⟨BL, 0, none⟩ = some (.slice pl xs.length cl0)) (hBK : w.cell? ⟨BK, 0, none⟩ = some (.slice pk nk ck)) (bL : BL < w.heap.size) (bK : BK < w.heap.size) (hU : UsesIn w w.heap.size pl pk xs)
    (hS : ∀ i, i < xs.length → StrsIn w w.heap.size (nth xs i).q (nth xs i).ss ∧ (nth xs i).ss.length ≤ 4096) (hX : xs.length ≤ 4096) :
    CallsIn Fence.wide 9 Try.prog 38 #[.func (.func 39) #[] #[.pointer (some ⟨BL, 0, none⟩), .pointer (some ⟨BK, 0, none⟩)]] w (UnmPost w (gpre xs (List.range xs.length))) := by
  have hmm := @run_makeMap Try.prog
  obtain ⟨i93, hi93, hz93, hs93, hb93⟩ := info_parts info93
  obtain ⟨i3, hi3, hz3, hs3, hb3⟩ := info_parts info3
  have h38 : Fence.wide.fn 38 := trivial
  have h39 : Fence.wide.fn 39 := trivial
  refine callsIn_of_wp_marks Try.func38 rfl h38 ?_ rfl
  simp only [Try.ntmps38, List.size_toArray, List.length_cons, List.length_nil, Nat.reduceAdd, Nat.reduceSub, Array.replicate_succ, Array.replicate_zero, List.push_toArray, List.append_toArray, List.nil_append, List.cons_append]
  gi_wp2_with fail
  have hB0 : Below w.heap.size w (((w.alloc (.map #[] 0)).alloc (.cells #[.map (some w.heap.size)] 91)).alloc (.cells #[.slice none 0 0] 92)) := (((Below.refl _ w).alloc (Nat.le_refl _) _).alloc (by simp) _).alloc (by simp; omega) _
  have St0 : St w.heap.size (w.heap.size + 1) (w.heap.size + 1 + 1) (((w.alloc (.map #[] 0)).alloc (.cells #[.map (some w.heap.size)] 91)).alloc (.cells #[.slice none 0 0] 92)) w.heap.size 0 (.slice none 0 0) (.map []) [] := by
    have hm0 := World.ownsMap_made w Try.prog 9 ptrR
    have b1 := (Boxed.new (w.alloc (.map #[] 0)) 91 (.map (some w.heap.size))).alloc (.cells #[.slice none 0 0] 92)
    have b2 := Boxed.new ((w.alloc (.map #[] 0)).alloc (.cells #[.map (some w.heap.size)] 91)) 92 (.slice none 0 0)
    simp only [World.size_alloc] at b1 b2
    exact ⟨b1, b2, (hm0.alloc _).alloc _, World.ownsRow_nil _ _ _ _, fun i h => absurd h (Nat.not_lt_zero _), fun i j h => absurd h (Nat.not_lt_zero _), fun i j r h => absurd h (Nat.not_lt_zero _), fun i j h => absurd h (Nat.not_lt_zero _),
      fun k => ⟨fun h => (by simp [Maps.has_eq] at h), fun ⟨i, h, _⟩ => absurd h (Nat.not_lt_zero _)⟩, fun i h => absurd h (Nat.not_lt_zero _), by omega, by omega, Nat.le_refl _⟩
  refine wpIn_rangeFunc_ownG rfl (by omega) (gf := 39) (lb := #[.pointer (some ⟨BL, 0, none⟩), .pointer (some ⟨BK, 0, none⟩)]) rfl h39 (enters_of Try.func39 (by kernel_rfl) rfl)
    (iter_stops (9 - 1) (by omega) BL BK w.heap.size pl pk cl0 nk ck xs hlen hnk _ (by simp; omega) ((hB0.cell (p := ⟨BL, 0, none⟩) bL).trans hBL) ((hB0.cell (p := ⟨BK, 0, none⟩) bK).trans hBK) bL bK (hU.below hB0)) belowK_t (belowK_b (by simp; omega)) (Below.refl _ _) (fun _ => rfl)
    (fun pre W => (∃ vk D us, St w.heap.size (w.heap.size + 1) (w.heap.size + 1 + 1) W w.heap.size us.length vk D us ∧ us.map Ent.data = gpre xs pre) ∧ Below w.heap.size w W)
    (fun _ _ _ => False)
    (OwnFrom.and (fun s W W' row hs hg hr => St.own (B := w.heap.size + 3) (by omega) _ W W' row hs hg (fun r e => by have := hr r e; simp at this; exact ⟨by omega, this.2⟩)) (ownFrom_below (Nat.le_refl _) (by simp; omega)))
    (fun _ _ _ _ _ hs _ _ => hs)
    ⟨⟨_, _, [], St0, rfl⟩, hB0⟩
    (fun x => { tmps := #[.func (.func 39) #[] #[.pointer (some ⟨BL, 0, none⟩), .pointer (some ⟨BK, 0, none⟩)], undef, .slice none 0 0, .pointer (some ⟨w.heap.size + 1, 0, none⟩), .pointer (some ⟨w.heap.size + 1 + 1, 0, none⟩), .int .i64 (nth xs (cl xs.length x)).line, .slice (nth xs (cl xs.length x)).q (nth xs (cl xs.length x)).ss.length (nth xs (cl xs.length x)).d, undef, undef, undef, undef, undef, undef, undef, .map (some w.heap.size), .func (.func 39) #[] #[.pointer (some ⟨BL, 0, none⟩), .pointer (some ⟨BK, 0, none⟩)], .int .i64 (nth xs (cl xs.length x)).line, .slice (nth xs (cl xs.length x)).q (nth xs (cl xs.length x)).ss.length (nth xs (cl xs.length x)).d, undef, undef, undef, undef, undef, undef, undef, undef, undef, undef, undef, undef, undef, undef, undef, undef, undef, undef, undef, undef, undef, undef, undef, undef, undef, undef, undef, undef, undef, undef, undef, undef, undef, undef, undef, undef, undef, undef, undef, undef, undef, undef, undef, undef, undef, undef, undef, undef, undef, undef, undef, undef, undef, undef, undef, undef, undef, undef, undef, undef], defers := [] }) ?assign ?body ?done ?stop
  case assign =>
    intro l x W K hK
    unfold handed
    gi_wp2
    exact hK
  case body =>
    rintro l pre x W ⟨⟨vk, D, us, hst, hd⟩, hB⟩ hlt
    have hx := cl_bnd xs.length x (by omega)
    have HLN : Hid (linesN (gpre xs pre) + 4096 ≤ 16777216) := by
      have := linesN_gpre xs pre 4096 (fun i hi => (hS i hi).2) (by omega)
      have h2 : pre.length * 4096 ≤ 4095 * 4096 := Nat.mul_le_mul_right _ (by omega)
      exact (show _ ≤ _ by omega)
    obtain ⟨hSx, hSl⟩ := hS _ hx
    generalize hcx : cl xs.length x = c at *
    have HG : Hid (gpre xs (pre ++ [x]) = addUses (nth xs c).line (nth xs c).ss (gpre xs pre)) := by
      refine (?_ : gpre xs (pre ++ [x]) = _)
      unfold gpre
      rw [List.map_append, List.map_singleton, groups_snoc, hcx]
    clear hcx
    generalize nth xs c = u at *
    obtain ⟨line, q, d, ss⟩ := u
    dsimp only at *
    have HSS : Hid (StrsIn w w.heap.size q ss) := hSx
    have HB : Hid (Below w.heap.size w W) := hB
    clear hSx hS hU hBL hBK St0 hB0 hlt
    have SZ : w.heap.size ≤ W.heap.size := HB.out.size
    gi_wp2_with fail
    gi_loopw [20] (fun s20 wr => ∃ (j : Nat) (vk : Value) (D : DataW Unit) (us : List Ent), s20 = .int .i64 j ∧ j ≤ ss.length ∧ Hid (St w.heap.size (w.heap.size + 1) (w.heap.size + 1 + 1) wr w.heap.size us.length vk D us) ∧ Hid (us.map Ent.data = addUses line (ss.take j) (gpre xs pre)) ∧ Hid (Below w.heap.size W wr) ∧ Hid (KeepsFrom (w.heap.size + 1 + 1 + 1) W wr))
      (fun s20 _ => ss.length - (intOf s20).toNat)
    case atStart => exact ⟨0, vk, D, us, rfl, Nat.zero_le _, hst, hd, Below.refl _ _, KeepsFrom.refl _ _⟩
    case round =>
      clear hst hd vk D us
      obtain ⟨j, vk, D, us, rfl, hj, ST, HD, BW, KW⟩ := hrel
      by_cases hlt : j < ss.length
      · obtain ⟨b, off, rfl, hb, hc, hks⟩ := HSS.out j hlt
        have hc' : wr.cell? ⟨b, off + j, none⟩ = some (.string (nth ss j)) := (BW.out.cell (p := ⟨b, off + j, none⟩) hb).trans ((HB.out.cell (p := ⟨b, off + j, none⟩) hb).trans hc)
        have HT : Hid (ss.take (j + 1) = ss.take j ++ [nth ss j]) := take_nth ss j hlt
        clear hc
        generalize nth ss j = k at *
        have hbM := ST.out.boxM.cell
        have hbK := ST.out.boxK.cell
        have hltz : (j : Int) < (ss.length : Int) := by omega
        by_cases hex : ∃ i, i < us.length ∧ (nth us i).m = k
        · obtain ⟨i, hi, hik⟩ := hex
          have hhas := (ST.out.has k).2 ⟨i, hi, hik⟩
          have hat := ST.out.atK i hi
          rw [hik] at hat
          have HIK : Hid ((nth us i).m = k) := hik
          have hcl := (cells_two (ST.out.ent i hi).1).2.1
          clear hik
          have HDL : Hid (linesN (us.map Ent.data) ≤ 16777216) := by
            have h1 := HLN.out
            have h2 := linesN_addUses line (ss.take j) (gpre xs pre)
            rw [List.length_take] at h2
            exact (show _ ≤ _ by rw [HD.out, h2]; omega)
          have hln : (nth us i).ls.length ≤ 16777216 := Nat.le_trans (linesN_one (us.map Ent.data) (nth us i).data (List.mem_map_of_mem (nth_mem us i hi))) HDL.out
          gi_wp2_with (first
            | (gi_at_lookup; refine lookup_hit _ rfl _ _ rfl w.heap.size us.length D rfl ST.out.map k rfl hks (nth us i).ub hhas hat ?_)
            | (gi_at_builtin; refine append43_in _ rfl _ _ rfl w.heap.size _ _ _ rfl ((ST.out.ent i hi).2.1.alloc _) wr.heap.size line rfl (by simp) (by omega) (by have := BW.out.size; simp; omega) ?_; intro g' cap' w1 hown' hgrow hat'; obtain ⟨hub1, LST, LB, LK⟩ := ST.out.line (by have := BW.out.size; omega) i hi line _ w1 _ hown' hgrow hat'; have hfr := (cells_two hub1).2.2; have hcl1 := (cells_two hub1).2.1; clear hub1; have LST' : Hid _ := LST; have LB' : Hid _ := LB; have LK' : Hid _ := LK; clear LST LB LK))
          go_roundw
          case rel =>
            refine ⟨j + 1, vk, D, us.set i { nth us i with v := .slice (some ⟨g', 0, none⟩) ((nth us i).ls.length + 1) cap', ls := (nth us i).ls ++ [line] }, by go_num, by omega, ?_, ?_, BW.out.trans LB'.out, KW.out.trans (LK'.out.from _)⟩
            · have := LST'.out
              rw [List.length_set]; exact this
            · refine (?_ : _ = _)
              rw [HT.out, addUses_snoc, ← HD.out]
              exact data_set us i hi k line _ HIK.out ST.out.names
          case measure => simp [intOf]; omega
        · have hnk' : ∀ i, i < us.length → (nth us i).m ≠ k := fun i hi e => hex ⟨i, hi, e⟩
          have HNK : Hid (∀ i, i < us.length → (nth us i).m ≠ k) := hnk'
          have hhas : Maps.has D (.string k.data.toList) = false := by
            cases hh : Maps.has D (.string k.data.toList) with
            | false => rfl
            | true => exact absurd ((ST.out.has k).1 hh) hex
          clear hex hnk'
          have hul : us.length ≤ 16777216 := by
            have h1 := HLN.out
            have h2 := linesN_addUses line (ss.take j) (gpre xs pre)
            rw [List.length_take] at h2
            have h3 := linesN_ge (addUses line (ss.take j) (gpre xs pre)) (addUses_ne _ _ _ (groups_ne _))
            rw [h2, ← HD.out, List.length_map] at h3
            omega
          have hsW : w.heap.size ≤ wr.heap.size := by have := BW.out.size; omega
          have hbM1 := (ST.out.alloc (.cells #[.string k, .slice none 0 0] 49)).boxM.cell
          gi_wp2_with (first
            | (gi_at_lookup; refine lookup_miss _ rfl _ _ rfl w.heap.size us.length D rfl ST.out.map k rfl hks hhas ?_; intro v0)
            | (gi_at_mapUpdate; refine store91_in _ rfl _ _ _ rfl w.heap.size us.length D rfl (ST.out.map.alloc _) (by omega) k rfl hks wr.heap.size rfl ?_; intro w2 hmap2 hg2; obtain ⟨bK2, row2⟩ := ST.out.stored _ w2 hg2; have hbK2 := bK2.cell; have hs2 : wr.heap.size + 1 ≤ w2.heap.size := (by have := hg2.size; simpa using this); have HROW2 : Hid (w2.ownsRow w.heap.size 93 1 vk us.length (us.map Ent.ptr)) := row2; have HMAP2 : Hid (w2.ownsMap Try.prog 9 ptrR w.heap.size (us.length + 1) (D.put (.string k.data.toList) (.lit (.int .i64 wr.heap.size)))) := hmap2; clear bK2 row2 hmap2)
            | (gi_at_builtin; refine append92_in _ rfl _ _ rfl w.heap.size _ _ _ rfl (HROW2.out.alloc _) w2.heap.size (.pointer (some ⟨wr.heap.size, 0, none⟩)) rfl rfl (by simp) (by omega) (by simp; omega) ?_; intro g4 cap4 w4 hown4 hg4 hat4; obtain ⟨bK4, FST, FB, FK⟩ := ST.out.fresh (B := w.heap.size + 1 + 1 + 1) (by have := BW.out.size; omega) (by omega) k HNK.out w2 HMAP2.out hg2 _ w4 _ hown4 hg4 hat4; have hcK4 := bK4.cell; have hfK4 := bK4.frozen; clear bK4; have hcl5 := FST.lastCell; have hs4 : w2.heap.size + 1 ≤ w4.heap.size := (by have := hg4.size; simpa using this); have FST' : Hid _ := FST; have FB' : Hid _ := FB; have FK' : Hid _ := FK; clear FST FB FK)
            | (gi_at_builtin; refine append43_in _ rfl _ _ rfl w.heap.size (.slice none 0 0) 0 [] rfl (World.ownsRow_nil _ _ _ _) w4.heap.size line rfl (cell_new_at _ _ _ _ (by simp)) (by omega) (by simp; omega) ?_; intro g' cap' w7 hown' hgrow hat'; obtain ⟨hub7, LST, LB, LK⟩ := FST'.out.lineLast (by simp; omega) line _ w7 _ hown' hgrow (by simpa using hat'); have hfr := (cells_two hub7).2.2; have hcl7 := (cells_two hub7).2.1; clear hub7; have LST' : Hid _ := LST; have LB' : Hid _ := LB; have LK' : Hid _ := LK; clear LST LB LK))
          go_roundw
          case rel =>
            refine ⟨j + 1, .slice (some ⟨g4, 0, none⟩) (us.length + 1) cap4, D.put (.string k.data.toList) (.lit (.int .i64 wr.heap.size)), (us ++ [(⟨k, wr.heap.size, .slice none 0 0, []⟩ : Ent)]).set us.length { nth (us ++ [(⟨k, wr.heap.size, .slice none 0 0, []⟩ : Ent)]) us.length with v := .slice (some ⟨g', 0, none⟩) (0 + 1) cap', ls := (nth (us ++ [(⟨k, wr.heap.size, .slice none 0 0, []⟩ : Ent)]) us.length).ls ++ [line] }, by go_num, by omega, ?_, ?_, BW.out.trans (FB'.out.trans LB'.out), KW.out.trans (FK'.out.trans (LK'.out.from _))⟩
            · have := LST'.out
              rw [List.length_set, List.length_append]; exact this
            · refine (?_ : _ = _)
              rw [HT.out, addUses_snoc, ← HD.out]
              exact data_new us k line _ _ HNK.out
          case measure => simp [intOf]; omega
      · have hltz : ¬ (j : Int) < (ss.length : Int) := by omega
        have HE : Hid (∃ vk D us, St w.heap.size (w.heap.size + 1) (w.heap.size + 1 + 1) wr w.heap.size us.length vk D us ∧ us.map Ent.data = gpre xs (pre ++ [x])) := ⟨vk, D, us, ST.out, by rw [HG.out, HD.out, List.take_of_length_le (by omega)]⟩
        clear ST HD
        gi_wp2
        exact ⟨KW.out, BW.out, HE.out, HB.out.trans BW.out⟩
  case done =>
    rintro D0 ys W hD0 rfl ⟨⟨vk, Dm, us, hst, hd⟩, hB⟩ hK
    have hne : ∀ j, j < us.length → (nth us j).ls ≠ [] := fun j hj => groups_ne _ (nth us j).data (by
      show _ ∈ gpre xs (List.range xs.length)
      rw [← hd]; exact List.mem_map_of_mem (nth_mem us j hj))
    have HLN : Hid (linesN (us.map Ent.data) ≤ 16777216) := by
      refine (?_ : (_ : Nat) ≤ _)
      have h2 : linesN (gpre xs (List.range xs.length)) ≤ (List.range xs.length).length * 4096 := by
        by_cases hz : 0 < xs.length
        · exact linesN_gpre xs (List.range xs.length) 4096 (fun i hi => (hS i hi).2) hz
        · rw [show xs.length = 0 by omega]; exact Nat.zero_le _
      have h3 : (List.range xs.length).length * 4096 ≤ 4096 * 4096 := Nat.mul_le_mul_right _ (by rw [List.length_range]; omega)
      rw [← hd] at h2
      omega
    have hul : us.length ≤ 16777216 := by
      have := linesN_ge (gpre xs (List.range xs.length)) (groups_ne _)
      rw [← hd, List.length_map] at this
      have := HLN.out
      omega
    have hbK := hst.boxK.cell
    obtain ⟨mc, hmc, hmk⟩ := made45 us.length hul
    have hmk := hmk W
    obtain ⟨p, cap, hvk, hp⟩ := own_form hst.row
    have SW : w.heap.size ≤ W.heap.size := hB.size
    have HL0 : Hid (Lp w.heap.size W.heap.size D0 w (W.alloc (.cells mc 49)) vk us 0) := Lp.start hst hK hB SW mc hmc
    have hbK1 : (W.alloc (.cells mc 49)).cell? ⟨w.heap.size + 1 + 1, 0, none⟩ = some vk := (hst.alloc _).boxK.cell
    subst hvk
    have HD : Hid (us.map Ent.data = gpre xs (List.range xs.length)) := hd
    have HNE : Hid (∀ j, j < us.length → (nth us j).ls ≠ []) := hne
    have HP : Hid (0 < us.length → ∃ g, p = some ⟨g, 0, none⟩) := hp
    clear hst hd hB hK hne hp hS hU hBL hBK St0 hB0 hmm
    gi_wp2_with fail
    gi_loopw [58] (fun s58 wr => ∃ (i : Nat), s58 = .int .i64 i ∧ i ≤ us.length ∧ Hid (Lp w.heap.size W.heap.size D0 w wr (.slice p us.length cap) us i))
      (fun s58 _ => us.length - (intOf s58).toNat)
    case atStart => exact ⟨0, rfl, Nat.zero_le _, HL0.out⟩
    case round =>
      clear HL0 hmk hbK hbK1
      obtain ⟨i, rfl, hi, HL⟩ := hrel
      by_cases hlt : i < us.length
      · have hltz : (i : Int) < (us.length : Int) := by omega
        obtain ⟨g, rfl⟩ := HP.out (by omega)
        obtain ⟨lb, lcap, cur, hv, hlb, hlbs, hg, h1, h2, h3, htk⟩ := HL.out.lines i hlt (HNE.out i hlt)
        rw [if_neg (Nat.lt_irrefl _)] at htk
        have hcp : wr.cell? ⟨g, i, none⟩ = some (.pointer (some ⟨(nth us i).ub, 0, none⟩)) := by
          have := HL.out.row.cellAt i (by omega)
          rw [this, List.getElem?_map, List.getElem?_eq_getElem hlt, ← nth_eq us i hlt]; rfl
        have hcu := (cells_two (HL.out.ent i hlt).1).2.1
        have HLE : Hid ((nth us i).ls.length ≤ 16777216) := Nat.le_trans (linesN_one (us.map Ent.data) (nth us i).data (List.mem_map_of_mem (nth_mem us i hlt))) HLN.out
        rw [hv] at hcu
        have HV : Hid ((nth us i).v = .slice (some ⟨lb, 0, none⟩) (nth us i).ls.length lcap) := hv
        have HG : Hid (wr.heap[lb]? = some (.cells cur 3 (0, 0))) := hg
        have HT : Hid (cur.toList.take (nth us i).ls.length = (nth us i).ls.map (Value.int .i64)) := htk
        have HS3 : Hid (cur.size = lcap * 1) := h3
        clear hv hg htk h3
        gi_wp2_with (refine ⟨trivial, ?_⟩; gi_at_call 43; refine (callsIn_wide.2 (Try.slices_Sort_int lb 0 lcap (nth us i).ls wr (holds_of_blockI HG.out HT.out) hlbs (by have := HLE.out; omega))).mono ?_; rintro e w1 ⟨rfl, nn, os, hw1⟩; obtain ⟨hu1, hr1, ⟨cf, hf1, hfs1⟩, HLP⟩ := HL.out.step hlt HV.out hlb HG.out h1 h2 HS3.out nn os w1 hw1; have HLP' : Hid _ := HLP; have hcu0 := (cells_two hu1).1; have hcu1 := (cells_two hu1).2.1; rw [HV.out] at hcu1; obtain ⟨x0, x1, hx0, hz0, hx1, hz1⟩ := two_free hf1 hfs1 hlt (.string (nth us i).m); clear HLP hw1 hu1 hf1 hfs1 hr1)
        go_roundw
        case rel =>
          refine ⟨i + 1, by go_num, by omega, ?_⟩
          have := HLP'.out
          rw [HV.out] at this
          exact this
        case measure => simp [intOf]; omega
      · have hie : i = us.length := by omega
        subst hie
        have hltz : ¬ (us.length : Int) < (us.length : Int) := by omega
        clear HP
        gi_wp2_with (refine ⟨trivial, ?_⟩; gi_at_call 44; refine (callsIn_wide.2 (unm_sorted HL.out HNE.out hul)).mono ?_; rintro e w1 ⟨rfl, hdf, hbl, rs, hans, hrl, hlaid⟩; have HA : Hid (Below w.heap.size w w1 ∧ Ans (us.map Ent.data) rs ∧ Laid w.heap.size w1 W.heap.size rs) := ⟨hbl, hans, hlaid⟩; have HDF : Hid (w1.heap[D0]? = some (.deferred (some []))) := hdf; clear hbl hans hlaid hdf)
        refine ⟨by simp, .inl ⟨_, _, rfl, run_takeDeferred HDF.out, ?_⟩⟩
        refine ⟨_, results_tmp rfl _ _ _, ?_⟩
        have hn0 : w.heap.size ≤ D0 := by have := hD0; simp at this; omega
        exact ⟨below_putObj hn0 HA.out.1, _, rs, by rw [hrl]; rfl, by rw [← HD.out]; exact HA.out.2.1, laid_putObj HDF.out HA.out.2.2⟩
  case stop =>
    rintro D c pre W _ _ h _
    exact h.elim
end Go.Proofs.Qxb6613730a
