import Derived.Test.Qxb6613730aLp
set_option linter.unusedVariables false
namespace Go.Proofs.Qxb6613730a
open Go.RowKit Go.Shelf Go.Sort

def keyOf (gs : List (ByteArray × List Int)) (i : Nat) : Int := nth (srt (nth gs i).2) 0
/-- THE ANSWER OVER THE GROUPS gs: their lines sorted, the groups by their first line, those of one first line in the groups' order. -/
def Ans (gs rs : List (ByteArray × List Int)) : Prop :=
  ∃ σ : List Nat, σ.Perm (List.range gs.length) ∧ rs = σ.map (fun i => ((nth gs i).1, srt (nth gs i).2)) ∧ σ.Pairwise (fun a b => keyOf gs a < keyOf gs b ∨ (keyOf gs a = keyOf gs b ∧ a < b))

/-- The answer as it lies in memory, in blocks at and above n₀. -/
def Laid (n₀ : Nat) (W : World) (fb : Nat) (rs : List (ByteArray × List Int)) : Prop :=
  n₀ ≤ fb ∧ fb < W.heap.size ∧ ∀ j, j < rs.length → ∃ lb cap, W.cell? ⟨fb, j * 2, none⟩ = some (.string (nth rs j).1) ∧ W.cell? ⟨fb, j * 2 + 1, none⟩ = some (.slice (some ⟨lb, 0, none⟩) (nth rs j).2.length cap) ∧ n₀ ≤ lb ∧ lb < W.heap.size ∧ (nth rs j).2.length ≤ cap ∧ cap ≤ maxLen ∧ 0 < (nth rs j).2.length ∧
    ∀ t, t < (nth rs j).2.length → W.cell? ⟨lb, t, none⟩ = some (.int .i64 (nth (nth rs j).2 t))

theorem lt_zero_cmp (a b : Int) : Lib.compareInt a b < 0 ↔ a < b := by
  unfold Lib.compareInt
  split
  · simp_all
  · split <;> simp_all

theorem nth_data [Inhabited Ent] (us : List Ent) (i : Nat) (hi : i < us.length) : nth (us.map Ent.data) i = ((nth us i).m, (nth us i).ls) := by
  rw [nth_eq _ _ (by simpa using hi), List.getElem_map, nth_eq _ _ hi]; rfl

theorem cells_of_take {W : World} {b : Nat} {cur : Array Value} {ts : List Int} (h : W.heap[b]? = some (.cells cur 3 (0, 0))) (ht : cur.toList.take ts.length = ts.map (Value.int .i64)) (t : Nat) (hlt : t < ts.length) : W.cell? ⟨b, t, none⟩ = some (.int .i64 (nth ts t)) := by
  have := (holds_of_blockI h ht t (by simpa using hlt)).1
  rw [Nat.zero_add] at this
  rw [this, nth_eq ts t hlt]
  simp [hlt]

set_option maxHeartbeats 1000000 in
theorem unm_sort [Inhabited Ent] {n₀ fb D0 : Nat} {w W : World} {vk : Value} {us : List Ent} (h : Lp n₀ fb D0 w W vk us us.length) (hne : ∀ j, j < us.length → (nth us j).ls ≠ []) (h0 : 0 < us.length) (hsz : us.length ≤ 16777216) :
    Calls Try.prog 44 #[.slice (some ⟨fb, 0, none⟩) us.length us.length, .func (.func 45) #[] #[]] W fun e W' => e = .returned (.tuple #[]) ∧ W'.heap[D0]? = some (.deferred (some [])) ∧ Below n₀ w W' ∧ ∃ rs, Ans (us.map Ent.data) rs ∧ rs.length = us.length ∧ Laid n₀ W' fb rs := by
  have cb : ∀ x, cl us.length x < us.length := fun x => cl_bnd us.length x h0
  let enc : Nat → List Value := fun x => [.string (nth us (cl us.length x)).m, (nth us (cl us.length x)).v]
  let key : Nat → Int := fun x => nth (srt (nth us (cl us.length x)).ls) 0
  obtain ⟨F, hF, hFs, hFc⟩ := h.found
  have hlen : ∀ x, 0 < (nth us (cl us.length x)).ls.length := fun x => List.length_pos_iff.2 (hne _ (cb x))
  have hds : (Array.range us.length).size = us.length := Array.size_range
  have hget : ∀ x, x < us.length → (Array.range us.length)[x]! = x := fun x hx => by simp [hx]
  have hcl : ∀ x, x < us.length → cl us.length x = x := fun x hx => by unfold cl; rw [if_pos hx]
  have hH : HoldsK enc 2 W fb 0 (Array.range us.length) := by
    intro t ht
    rw [size_flatK, hds] at ht
    rw [get_flatK _ _ _ t (by rw [hds]; exact ht), Nat.zero_add, hget _ (by omega)]
    have hq : t / 2 < us.length := by omega
    rcases Nat.mod_two_eq_zero_or_one t with hm | hm
    · have e : t = t / 2 * 2 := by omega
      have := (hFc (t / 2) hq).1
      rw [← e] at this
      rw [hm]; simp only [enc, hcl _ hq]
      exact heap_cell hF this
    · have e : t = t / 2 * 2 + 1 := by omega
      have := (hFc (t / 2) hq).2
      rw [← e] at this
      rw [hm]; simp only [enc, hcl _ hq]
      exact heap_cell hF this
  have hfb : fb < W.heap.size := lt_of_heap hF
  have hR : RowK enc 2 W fb 0 (Array.range us.length) := by
    refine ⟨fun _ => rfl, fun x v hv => ?_, hH, hfb⟩
    obtain ⟨lb, cap, cur, hl, _⟩ := h.lines _ (cb x) (hne _ (cb x))
    simp only [enc, List.mem_cons, List.not_mem_nil, or_false] at hv
    rcases hv with rfl | rfl
    · rfl
    · rw [hl]; rfl
  have hcmp : CmpLays Try.prog 45 #[] enc 2 (fun x y => Lib.compareInt (key x) (key y)) fb 0 (Array.range us.length).size W := by
    intro m os dk hs x y
    obtain ⟨la, ca, cura, hva, _, hlta, hha, _, _, _, htka⟩ := h.lines _ (cb x) (hne _ (cb x))
    obtain ⟨lb, cb', curb, hvb, _, hltb, hhb, _, _, _, htkb⟩ := h.lines _ (cb y) (hne _ (cb y))
    rw [if_pos (cb x)] at htka
    rw [if_pos (cb y)] at htkb
    have e1 : (enc x).toArray = #[.string (nth us (cl us.length x)).m, .slice (some ⟨la, 0, none⟩) (nth us (cl us.length x)).ls.length ca] := by simp only [enc, hva]
    have e2 : (enc y).toArray = #[.string (nth us (cl us.length y)).m, .slice (some ⟨lb, 0, none⟩) (nth us (cl us.length y)).ls.length cb'] := by simp only [enc, hvb]
    rw [e1, e2]
    have hcell : ∀ b v, b < W.heap.size → b ≠ fb → W.cell? ⟨b, 0, none⟩ = some v → (sortWorldK enc 2 W fb 0 m dk os).cell? ⟨b, 0, none⟩ = some v := fun b v hb hbf hc => by
      unfold sortWorldK
      rw [cell?_grow _ _ _ (by simpa [putRowK] using hb), cell?_putRowK_other _ _ _ _ _ _ _ hbf]
      exact hc
    have hsize : W.heap.size ≤ (sortWorldK enc 2 W fb 0 m dk os).heap.size := by simp [sortWorldK, putRowK]
    refine closure45 _ _ la _ ca lb _ cb' (key x) (key y) _ (hlen x) (hlen y) ?_ ?_ (by omega) (by omega)
    · exact hcell la _ hlta (fun e => ne_of_tag hha hF (by decide) e) (cells_of_take hha (by rw [srt_length]; exact htka) 0 (by rw [srt_length]; exact hlen x))
    · exact hcell lb _ hltb (fun e => ne_of_tag hhb hF (by decide) e) (cells_of_take hhb (by rw [srt_length]; exact htkb) 0 (by rw [srt_length]; exact hlen y))
  have hc := sortStable_w (P := Try.prog) stabL 2 (fun w => Try.isAgg49 w) (fun w => Try.sizeOf49 w) enc key id (fun x y => Lib.compareInt (key x) (key y)) (fun x y => lt_zero_cmp _ _) 45 #[] fb 0 us.length (Array.range us.length) W (enters_of Try.func45 (by kernel_rfl) rfl) hcmp hR (by rw [hds]; omega) (fun i hi => hget i (by rwa [hds] at hi))
  rw [hds] at hc
  refine hc.mono ?_
  rintro e W' ⟨rfl, d', ⟨⟨hs', _, hp⟩, hsrt⟩, hsw⟩
  rw [hds] at hs'
  have hW' := hsw
  obtain ⟨q, os, rfl⟩ := hW'
  have hkeep : ∀ b, b < W.heap.size → b ≠ fb → (sortWorldK enc 2 W fb 0 q d' os).heap[b]? = W.heap[b]? := fun b hb hbf => by
    unfold sortWorldK
    rw [heap_grow_old _ _ (by simpa [putRowK] using hb)]
    simp [putRowK, putRow, mapBlock, Sort.ahead, Array.getElem?_modify, Ne.symm hbf]
  have hsize : W.heap.size ≤ (sortWorldK enc 2 W fb 0 q d' os).heap.size := by simp [sortWorldK, putRowK]
  have hdf : D0 ≠ fb := fun e => by have := h.defer; rw [e, hF] at this; cases this
  have hperm : d'.toList.Perm (List.range us.length) := by
    rw [show d'.extract 0 us.length = d' by rw [← hs']; simp, show (Array.range us.length).extract 0 us.length = Array.range us.length from Array.ext (by simp) (fun i h1 h2 => by simp)] at hp
    simpa using hp
  have hmem : ∀ x ∈ d'.toList, x < us.length := fun x hx => List.mem_range.1 (hperm.mem_iff.1 hx)
  have hdl : d'.toList.length = us.length := by simpa using hs'
  have hHd : HoldsK enc 2 (sortWorldK enc 2 W fb 0 q d' os) fb 0 d' := hsw.holds hfb hH (by rw [hs', hds])
  have hkey : ∀ x, x < us.length → keyOf (us.map Ent.data) x = key x := fun x hx => by
    unfold keyOf; simp only [key, nth_data us x hx, hcl x hx]
  refine ⟨rfl, (hkeep _ (lt_of_heap h.defer) hdf).trans h.defer, ⟨h.below.os, h.below.tape, h.below.output, Nat.le_trans h.below.size hsize, fun k hk => ?_⟩, d'.toList.map (fun i => ((nth (us.map Ent.data) i).1, srt (nth (us.map Ent.data) i).2)), ⟨d'.toList, by simpa using hperm, rfl, ?_⟩, by simpa using hs', h.fbne.1, by omega, ?_⟩
  · have hkf : k < fb := Nat.lt_of_lt_of_le hk h.fbne.1
    rw [hkeep k (by omega) (by omega)]; exact h.below.block k hk
  · rw [List.pairwise_iff_getElem]
    intro i j hi hj hij
    have := hsrt i j (Nat.zero_le _) hij (by omega)
    rw [getElem!_pos d' i (by simpa using hi), getElem!_pos d' j (by simpa using hj)] at this
    rw [hkey _ (hmem _ (List.getElem_mem hi)), hkey _ (hmem _ (List.getElem_mem hj))]
    simpa [Stab.T] using this
  · intro j hj
    rw [List.length_map, hdl] at hj
    have hx : d'[j]! < us.length := by
      rw [getElem!_pos d' j (by omega)]; exact hmem _ (by simp)
    have hnth : nth (d'.toList.map (fun i => ((nth (us.map Ent.data) i).1, srt (nth (us.map Ent.data) i).2))) j = ((nth us d'[j]!).m, srt (nth us d'[j]!).ls) := by
      rw [nth_eq _ _ (by simpa [hs'] using hj), List.getElem_map]
      rw [getElem!_pos d' j (by omega)] at hx ⊢
      simp only [Array.getElem_toList]
      rw [nth_data us _ hx]
    rw [hnth]
    have c0 := (hHd.cell (i := j) (c := 0) (by omega) (by omega)).1
    have c1 := (hHd.cell (i := j) (c := 1) (by omega) (by omega)).1
    generalize d'[j]! = x at *
    obtain ⟨lb, cap, cur, hv, hlb, hlt, hh, b1, b2, b3, htk⟩ := h.lines x hx (hne x hx)
    rw [if_pos hx] at htk
    have hlf : lb ≠ fb := ne_of_tag hh hF (by decide)
    refine ⟨lb, cap, ?_, ?_, hlb, by omega, by rw [srt_length]; exact b1, b2, by rw [srt_length]; exact List.length_pos_iff.2 (hne x hx), fun t ht => ?_⟩
    · simpa [enc, hcl x hx] using c0
    · simpa [enc, hcl x hx, hv, srt_length] using c1
    · exact cells_of_take ((hkeep lb hlt hlf).trans hh) (by rw [srt_length]; exact htk) t ht
end Go.Proofs.Qxb6613730a
