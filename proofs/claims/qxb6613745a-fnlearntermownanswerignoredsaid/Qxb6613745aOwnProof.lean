import Derived.Test.Qxb6613745aOwn
import Derived.Test.Qxb6613745aOpen
import Derived.ShutString
namespace Go.Proofs.Qxb6613745a.fnLearnTermOwnAnswerIgnored
open Go.ChangeShapes Go.WideShapes Go.ChangeAt Go.RowKit
open Go.ChangeMaps (open_string shut_string)
set_option linter.unusedVariables false

set_option maxRecDepth 100000 in
theorem lifted (os : Os) (started : os.Started) (H : Type) (enc : TypeId × Value → H) :
    ReturnsInHanded {} Try.checked os 6 .any (Rows.fnLearnTermOwnAnswerIgnoredSpec.pre6 enc Try.prog Try.f6 Rows.fnLearnTermOwnAnswerIgnoredRow.domain false) (Rows.fnLearnTermOwnAnswerIgnoredSpec.post enc Try.prog Try.f6 false true false false) := by
  refine returnsInHanded_of_change (C := Try.checked) own started (by kernel_rfl) Try.func6
    (ChangeSpec.witness6 (enc := enc) (C := Try.checked) false ⟨#[], #[.string ⟨#[]⟩, .int .u64 0, .slice none 0 0, .slice none 0 0, .int .u64 0], []⟩ 8 (by kernel_rfl) (by kernel_rfl) (by kernel_rfl) (by kernel_rfl)) ?_
  intro W base args ds gs before hval0 hW hcnd _
  have hval : ∀ (j : Nat) t v, Try.f6.params[j]? = some t → args[j]? = some v → Value.okWide Try.prog W .any base t v := hval0
  have hW' := hW
  obtain ⟨p, q, hA0, hV, rfl, hfz, hnd⟩ := hW
  have hA : DataW.TrodAll enc Try.prog W 0 (fun _ => true) true Try.f6.params.toList args.toList ds p := hA0
  rw [Try.params6] at hA hval
  obtain ⟨v0, vs0, d0, ds0, p0, q0, hargs, rfl, rfl, h0, r0⟩ := trodAll_cons hA
  obtain ⟨v1, vs1, d1, ds1, p1, q1, rfl, rfl, rfl, h1, r1⟩ := trodAll_cons r0
  obtain ⟨v2, vs2, d2, ds2, p2, q2, rfl, rfl, rfl, h2, r2⟩ := trodAll_cons r1
  obtain ⟨v3, vs3, d3, ds3, p3, q3, rfl, rfl, rfl, h3, r3⟩ := trodAll_cons r2
  obtain ⟨v4, vs4, d4, ds4, p4, q4, rfl, rfl, rfl, h4, r4⟩ := trodAll_cons r3
  obtain ⟨rfl, rfl, rfl⟩ := trodAll_nil r4
  obtain rfl : args = #[v0, v1, v2, v3, v4] := by cases args; simp_all
  obtain ⟨rfl, rfl⟩ := trodVars_none hV
  obtain ⟨id, rfl, rfl, rfl, hids⟩ := open_string Try.underlying9 (hval 0 9 v0 rfl rfl) h0
  obtain ⟨t, rfl, rfl, rfl, wt⟩ := open_int Try.underlying30 (hval 1 30 v1 rfl rfl) h1
  obtain ⟨pm, ms, cm, rfl, bm, nm, hm⟩ := open22 (hval 2 22 v2 rfl rfl) h2
  obtain ⟨pa, an, ca, rfl, ba, na, ha⟩ := open31 (hval 3 31 v3 rfl rfl) h3
  obtain ⟨t2, rfl, rfl, rfl, wt2⟩ := open_int Try.underlying30 (hval 4 30 v4 rfl rfl) h4
  have m1 : IntKind.min .u64 = 0 := by decide
  have m2 : IntKind.max .u64 = 18446744073709551615 := by decide
  have wb := wt2
  simp only [Lit.wf, m1, m2, Bool.and_eq_true, decide_eq_true_eq] at wb
  clear hA0 hval0
  simp only [List.append_nil, List.nil_append] at hW'
  have hlt : ∀ x ∈ p2 ++ p3, x.block < W.heap.size := fun x hx => by simpa using hW'.lt x hx
  refine (own_w id t pm pa cm ca t2 ms an W hm ha nm na bm ba hids wb.1 wb.2).mono fun e W' ⟨he, hB⟩ => ?_
  subst he
  have k2 := Below.trod laidOut (by kernel_rfl) (of_decide_eq_true (by kernel_rfl)) h2 hB (fun x hx => hlt x (List.mem_append_left _ hx))
  have k3 := Below.trod laidOut (by kernel_rfl) (of_decide_eq_true (by kernel_rfl)) h3 hB (fun x hx => hlt x (List.mem_append_right _ hx))
  exact ⟨_, rfl, ⟨_, _, _, [], [] ++ ([] ++ (p2 ++ (p3 ++ ([] ++ [])))), [], hW', trodAll_cons_mk (shut_bool Try.underlying4 _) trodAll_mk0, trodAll_cons_mk (shut_string Try.underlying9 hids) (trodAll_cons_mk (shut_int Try.underlying30 wt) (trodAll_cons_mk k2 (trodAll_cons_mk k3 (trodAll_cons_mk (shut_int Try.underlying30 wt2) trodAll_mk0)))), rfl, hB.frame _, fun h => by cases h⟩⟩

theorem over : Rows.fnLearnTermOwnAnswerIgnoredRow.holds Try.pinned (OpenSpec.ofChange Rows.fnLearnTermOwnAnswerIgnoredSpec) :=
  OpenClaim.holds_of_wide 6 Try.f6 rfl rfl rfl rfl rfl rfl rfl ⟨rfl, rfl, rfl, rfl, rfl⟩ rfl rfl rfl rfl rfl (by kernel_rfl) Try.func6 (by kernel_rfl)
    (of_decide_eq_true (by kernel_rfl)) (by unfold Func.isWrapper; first | (rw [if_pos (by decide +kernel)]; kernel_rfl) | (rw [if_neg (by decide +kernel)]; exact ⟨rfl, rfl⟩))
    (fun os started H enc _ => lifted os started H enc)

/-- THE STATEMENT. -/
theorem proved : Rows.FnLearnTermOwnAnswerIgnoredSaid :=
  over
#print axioms proved
end Go.Proofs.Qxb6613745a.fnLearnTermOwnAnswerIgnored
