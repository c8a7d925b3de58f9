import Derived.Test.Qxb6613730aAcc
import Derived.Test.Qxb6613730aBytes2
import Derived.Deep.QuietTactic
import Derived.BigQuiet
set_option linter.unusedVariables false
namespace Go.Proofs.Qxb6613730a
open Go.RowKit Go.Shelf

set_option maxRecDepth 100000 in
set_option maxHeartbeats 1000000 in
/-- zzHasKind, the kind being there. -/
theorem hasKind (n₀ fb c : Nat) (rs : List (ByteArray × List Int)) (m : ByteArray) (W : World) (hL : Laid n₀ W fb rs) (hm : m ∈ names rs) (hn : rs.length ≤ 4096) :
    Calls Try.prog 23 #[.slice (some ⟨fb, 0, none⟩) rs.length c, .string m] W fun e W' => e = .returned (.bool true) ∧ W' = W := by
  obtain ⟨r, hr, hrm⟩ := List.mem_map.1 hm
  obtain ⟨i0, hi0, rfl⟩ := nth_of_mem rs r hr
  have HM : Hid ((nth rs i0).1 = m) := hrm
  have HL : Hid (Laid n₀ W fb rs) := hL
  clear hm hr hrm hL
  go_enter Try.func23, Try.ntmps23
  go_wp2
  go_loop [8] (fun s8 => ∃ (i : Nat), s8 = .int .i64 i ∧ i ≤ i0) (fun s8 => rs.length - (intOf s8).toNat)
  case atStart => exact ⟨0, rfl, Nat.zero_le _⟩
  case round =>
    obtain ⟨i, rfl, hi⟩ := hrel
    have hlt : (i : Int) < (rs.length : Int) := by omega
    obtain ⟨lb, cap, c0, _⟩ := HL.out.2.2 i (by omega)
    by_cases he : (nth rs i).1 = m
    · have hb := bytesEq he
      rw [he] at c0
      clear he hb
      go_wp2
      go_ret
      exact ⟨rfl, rfl⟩
    · have hb := bytesNe he
      have hne : i ≠ i0 := fun e => he (by rw [e]; exact HM.out)
      clear he
      go_wp2
      go_round
      case rel => exact ⟨i + 1, by go_num, by omega⟩
      case measure => simp [intOf]; omega

/-! ### The lines of one kind: plain -/
def lsOf (m : ByteArray) (ps : List (ByteArray × Int)) : List Int := ps.filterMap fun p => if p.1 = m then some p.2 else none
theorem lsOf_append (m : ByteArray) (ps qs : List (ByteArray × Int)) : lsOf m (ps ++ qs) = lsOf m ps ++ lsOf m qs := List.filterMap_append
theorem lsOf_len (m : ByteArray) (ps : List (ByteArray × Int)) : (lsOf m ps).length ≤ ps.length := List.length_filterMap_le _ _
theorem lsOf_hit (m : ByteArray) (z : Int) : lsOf m [(m, z)] = [z] := by simp [lsOf]
theorem lsOf_miss (m k : ByteArray) (z : Int) (h : k ≠ m) : lsOf m [(k, z)] = [] := by simp [lsOf, h]

theorem lsOf_nil (m : ByteArray) (ps : List (ByteArray × Int)) (h : m ∉ ps.map Prod.fst) : lsOf m ps = [] := by
  unfold lsOf
  rw [List.filterMap_eq_nil_iff]
  intro p hp
  rw [if_neg (fun e => h (by rw [← e]; exact List.mem_map_of_mem hp))]

theorem addUse_mem (k : ByteArray) (z : Int) : ∀ (g : List (ByteArray × List Int)), (names g).Nodup → ∀ p ∈ addUse k z g, (p ∈ g ∧ p.1 ≠ k) ∨ (p.1 = k ∧ ∃ ls, ((k, ls) ∈ g ∨ (k ∉ names g ∧ ls = [])) ∧ p.2 = ls ++ [z])
  | [], _, p, hp => by
    simp [addUse] at hp; subst hp
    exact .inr ⟨rfl, [], .inr ⟨by simp [names], rfl⟩, rfl⟩
  | q :: r, hn, p, hp => by
    have hn' : q.1 ∉ names r ∧ (names r).Nodup := by simpa [names] using hn
    unfold addUse at hp
    split at hp
    · rename_i hq
      rcases List.mem_cons.1 hp with rfl | hp
      · exact .inr ⟨hq, q.2, .inl (by rw [← hq]; simp), rfl⟩
      · refine .inl ⟨by simp [hp], fun e => hn'.1 ?_⟩
        rw [hq, ← e]; exact List.mem_map_of_mem hp
    · rename_i hq
      rcases List.mem_cons.1 hp with rfl | hp
      · exact .inl ⟨by simp, hq⟩
      · rcases addUse_mem k z r hn'.2 p hp with ⟨h1, h2⟩ | ⟨h1, ls, h2, h3⟩
        · exact .inl ⟨by simp [h1], h2⟩
        · refine .inr ⟨h1, ls, ?_, h3⟩
          rcases h2 with h2 | ⟨h2, h4⟩
          · exact .inl (by simp [h2])
          · refine .inr ⟨fun e => ?_, h4⟩
            simp only [names, List.map_cons, List.mem_cons] at e
            exact e.elim (fun e => hq e.symm) h2

/-- EACH GROUP HAS THE LINE OF EVERY USE OF ITS KIND. -/
theorem gf_lines (ps : List (ByteArray × Int)) : ∀ p ∈ gf ps, p.2 = lsOf p.1 ps := by
  induction ps using snoc_ind with
  | h0 => intro p hp; simp [gf] at hp
  | h1 ps q ih =>
    intro p hp
    rw [gf_snoc] at hp
    rw [lsOf_append]
    rcases addUse_mem q.1 q.2 (gf ps) (names_nodup ps) p hp with ⟨h1, h2⟩ | ⟨h1, ls, h2, h3⟩
    · rw [show q = (q.1, q.2) from rfl, lsOf_miss _ _ _ (fun e => h2 e.symm), List.append_nil]
      exact ih p h1
    · have hs : lsOf p.1 [q] = [q.2] := by rw [h1, show q = (q.1, q.2) from rfl]; exact lsOf_hit _ _
      rw [hs, h3, h1]
      congr 1
      rcases h2 with h2 | ⟨h2, rfl⟩
      · exact ih _ h2
      · rw [lsOf_nil _ _ (fun e => h2 ((names_mem ps q.1).2 e))]

theorem ans_lines {zs : List Int} {kk : List (List ByteArray)} {rs : List (ByteArray × List Int)} (h : Ans (groups (zs.zip kk)) rs) : ∀ r ∈ rs, r.2 = srt (lsOf r.1 (flatU (zs.zip kk))) := by
  obtain ⟨σ, hp, rfl, _⟩ := h
  intro r hr
  obtain ⟨i, hi, rfl⟩ := List.mem_map.1 hr
  have hi' : i < (groups (zs.zip kk)).length := List.mem_range.1 (hp.mem_iff.1 hi)
  have := gf_lines (flatU (zs.zip kk)) (nth (groups (zs.zip kk)) i) (by rw [← groups_flat]; exact nth_mem _ i hi')
  simp only [this]

/-! ### The order of the groups -/
theorem firstAt_append : ∀ (l r : List ByteArray) (m : ByteArray), m ∈ l → firstAt m (l ++ r) = firstAt m l
  | [], _, _, h => by simp at h
  | x :: l, r, m, h => by
    by_cases hx : x = m
    · simp [firstAt, hx]
    · simp [firstAt, hx, firstAt_append l r m (by simpa [Ne.symm hx] using h)]
theorem firstUse_append (l r : List ByteArray) (m : ByteArray) (h : m ∈ l) : firstUse (l ++ r) m = firstUse l m := by
  unfold firstUse; rw [firstAt_append l r m h]
theorem names_order (ps : List (ByteArray × Int)) : (names (gf ps)).Pairwise fun a b => firstUse (ps.map Prod.fst) a < firstUse (ps.map Prod.fst) b := by
  induction ps using snoc_ind with
  | h0 => simp [gf, names]
  | h1 ps p ih =>
    have hold : (names (gf ps)).Pairwise fun a b => firstUse ((ps ++ [p]).map Prod.fst) a < firstUse ((ps ++ [p]).map Prod.fst) b := by
      refine ih.imp_of_mem ?_
      intro a b ha hb hab
      rw [List.map_append, firstUse_append _ _ _ ((names_mem ps a).1 ha), firstUse_append _ _ _ ((names_mem ps b).1 hb)]
      exact hab
    rw [gf_snoc]
    by_cases hp : p.1 ∈ names (gf ps)
    · rw [names_old _ _ _ hp]; exact hold
    · rw [names_new _ _ _ hp, List.pairwise_append]
      refine ⟨hold, by simp, fun a ha b hb => ?_⟩
      simp at hb; subst hb
      have h1 : p.1 ∉ ps.map Prod.fst := fun e => hp ((names_mem ps p.1).2 e)
      rw [List.map_append, List.map_singleton]
      have h2 := firstUse_early (ps.map Prod.fst) [p.1] a ((names_mem ps a).1 ha)
      have h3 := firstUse_hit (ps.map Prod.fst) [] p.1 h1
      omega
end Go.Proofs.Qxb6613730a
