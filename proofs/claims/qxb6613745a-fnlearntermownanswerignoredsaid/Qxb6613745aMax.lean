import Derived.Test.Qxb6613745aSeq
set_option linter.unusedVariables false
namespace Go.Proofs.Qxb6613745a
open Go.RowKit Go.Maps

set_option maxHeartbeats 1000000 in
theorem collect (Bm b nn : Nat) (D0 : DataW Unit) (w : World) (hBm : Bm < w.heap.size) (hm : w.cell? ⟨Bm, 0, none⟩ = some (.map (some b))) (hown : w.ownsMap Try.prog 9 (plainElem Try.prog 30) b nn D0) (hnn : Maps.size D0 ≤ 8192) :
    Calls Try.prog 39 #[.func (.func 45) #[] #[.pointer (some ⟨Bm, 0, none⟩)]] w (SeqPost w D0) := by
  have hc := callsIn_wide.1 (appendSeq Bm b nn D0 w hBm hm hown hnn)
  clear hm hown
  go_enter Try.func39, Try.ntmps39
  go_wp2_with fail
  refine hc.mono ?_
  rintro _ W1 ⟨hB, v, xs, rfl, hS, ho⟩
  have HP : Hid (SeqPost w D0 (.returned v) W1) := ⟨hB, v, xs, rfl, hS, ho⟩
  clear hB hS ho hc
  go_wp2
  go_ret
  exact HP.out

/-- Each of them lies between 0 and T. -/
def AllLe (T : Int) (xs : List Int) : Prop := ∀ x ∈ xs, 0 ≤ x ∧ x ≤ T
/-- A number up to T. -/
def LePost (T : Int) (e : Ending) : Prop := ∃ m : Int, e = .returned (.int .u64 m) ∧ 0 ≤ m ∧ m ≤ T

theorem u64_cell {W : World} {base g n cap : Nat} {xs : List Int} (h : W.ownsRow base 30 1 (.slice (some ⟨g, 0, none⟩) n cap) n (xs.map (Value.int .u64))) (hl : xs.length = n) (j : Nat) (hj : j < n) : W.cell? ⟨g, j, none⟩ = some (.int .u64 (nth xs j)) := by
  subst hl
  rw [h.cellAt j (by omega), List.getElem?_map, List.getElem?_eq_getElem hj, ← nth_eq xs j hj]; rfl

set_option maxHeartbeats 1000000 in
set_option maxRecDepth 100000 in
theorem max38 (base g cap : Nat) (xs : List Int) (T : Int) (w : World) (ho : w.ownsRow base 30 1 (.slice (some ⟨g, 0, none⟩) xs.length cap) xs.length (xs.map (Value.int .u64))) (h0 : 0 < xs.length) (hT : AllLe T xs) (hx : xs.length ≤ 9223372036854775807) :
    Calls Try.prog 38 #[.slice (some ⟨g, 0, none⟩) xs.length cap] w fun e w' => LePost T e ∧ w' = w := by
  have HC : Hid (∀ j, j < xs.length → w.cell? ⟨g, j, none⟩ = some (.int .u64 (nth xs j))) := fun j hj => u64_cell ho rfl j hj
  have HT : Hid (∀ j, j < xs.length → 0 ≤ nth xs j ∧ nth xs j ≤ T) := fun j hj => hT _ (nth_mem xs j hj)
  have hc0 := HC.out 0 h0
  have hlz : ¬ (xs.length : Int) < 1 := by omega
  have hpz : (0 : Int) < (xs.length : Int) := by omega
  have ht0 := HT.out 0 h0
  clear ho hT
  go_enter Try.func38, Try.ntmps38
  go_wp2_with fail
  go_loop [3, 4] (fun s3 s4 => ∃ (i : Nat) (m : Int), s4 = .int .i64 i ∧ i ≤ xs.length ∧ s3 = .int .u64 m ∧ 0 ≤ m ∧ m ≤ T) (fun _ s4 => xs.length - (intOf s4).toNat)
  case atStart => exact ⟨1, nth xs 0, rfl, h0, rfl, ht0.1, ht0.2⟩
  case round =>
    obtain ⟨i, m, rfl, hi, rfl, hm0, hm1⟩ := hrel
    by_cases hlt : i < xs.length
    · have hltz : (i : Int) < (xs.length : Int) := by omega
      have hci := HC.out i hlt
      have hti := HT.out i hlt
      clear hc0 ht0
      generalize nth xs i = y at *
      go_wp2_with fail
      refine ⟨⟨i + 1, if m < y then y else m, by go_num, by omega, rfl, ?_, ?_⟩, by simp [intOf]; omega⟩
      · split <;> omega
      · split <;> omega
    · have hltz : ¬ (i : Int) < (xs.length : Int) := by omega
      go_wp2
      go_ret
      exact ⟨⟨m, rfl, hm0, hm1⟩, rfl⟩

/-! ### The values of the map -/
theorem amap_vals (an : List (ByteArray × Int)) (ok : AnsOk an) (k : List UInt8) (v : Int) (h : ∀ z, (amap an).atKey (.string k) z = .lit (.int .u64 v)) : ∃ a ∈ an, a.2 = v := by
  induction an using snoc_ind with
  | h0 => have := h .nil; simp [amap, DataW.atKey] at this
  | h1 an a ih =>
    have ok' : AnsOk an := fun x hx => ok x (by simp [hx])
    by_cases hk : Lit.string k = keyS a.1
    · have := h .nil
      rw [hk, amap_snoc, Maps.atKey_put_same (amap_tidy an ok').isMap (keyS_lit (ok a (by simp)).1)] at this
      exact ⟨a, by simp, by simpa using this⟩
    · obtain ⟨a', ha', e⟩ := ih ok' (fun z => by
        have := h z
        rwa [amap_snoc, Maps.atKey_put_other hk] at this)
      exact ⟨a', by simp [ha'], e⟩
theorem allV_le {an : List (ByteArray × Int)} (ok : AnsOk an) {T : Int} (hT : ∀ a ∈ an, a.2 ≤ T) {xs : List Int} (h : AllV (amap an) xs) : AllLe T xs := by
  obtain ⟨ps, _, hv, rfl⟩ := h
  intro x hx
  obtain ⟨p, hp, rfl⟩ := List.mem_map.1 hx
  obtain ⟨a, ha, e⟩ := amap_vals an ok p.1 p.2 (hv p hp)
  have := ok a ha
  have h2 := hT a ha
  rw [e] at this h2
  exact ⟨this.2.1, h2⟩
theorem allV_pos {an : List (ByteArray × Int)} (ok : AnsOk an) (h0 : an ≠ []) {xs : List Int} (h : AllV (amap an) xs) : 0 < xs.length := by
  obtain ⟨ps, hk, _, rfl⟩ := h
  obtain ⟨a, l, rfl⟩ := List.exists_cons_of_ne_nil h0
  have : Maps.has (amap (a :: l)) (keyS a.1) = true := by
    rw [amap_has _ ok]; simp [ids, isIn]
  have := (hk _).2 this
  rw [List.length_map]
  obtain ⟨p, hp, _⟩ := List.mem_map.1 this
  exact List.length_pos_of_mem hp
end Go.Proofs.Qxb6613745a
