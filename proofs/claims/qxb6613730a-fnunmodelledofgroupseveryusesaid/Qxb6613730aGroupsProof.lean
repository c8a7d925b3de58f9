import Derived.Test.Qxb6613730aGroups
import Derived.Test.Qxb6613730aOpen
import Derived.ShutString
namespace Go.Proofs.Qxb6613730a.fnUnmodelledOfGroupsEveryUse
open Go.ChangeShapes Go.WideShapes Go.ChangeAt Go.RowKit
set_option linter.unusedVariables false

set_option maxRecDepth 100000 in
theorem lifted (os : Os) (started : os.Started) (H : Type) (enc : TypeId × Value → H) :
    ReturnsInHanded {} Try.checked os 6 .any (Rows.fnUnmodelledOfGroupsEveryUseSpec.pre6 enc Try.prog Try.f6 Rows.fnUnmodelledOfGroupsEveryUseRow.domain false) (Rows.fnUnmodelledOfGroupsEveryUseSpec.post enc Try.prog Try.f6 false true false false) := by
  refine returnsInHanded_of_change (C := Try.checked) own started (by kernel_rfl) Try.func6
    (ChangeSpec.witness6 (enc := enc) (C := Try.checked) false ⟨#[], #[.slice none 0 0, .slice none 0 0], []⟩ 8 (by kernel_rfl) (by kernel_rfl) (by kernel_rfl) (by kernel_rfl)) ?_
  intro W base args ds gs before hval0 hW hcnd _
  have hval : ∀ (j : Nat) t v, Try.f6.params[j]? = some t → args[j]? = some v → Value.okWide Try.prog W .any base t v := hval0
  have hW' := hW
  obtain ⟨p, q, hA0, hV, rfl, hfz, hnd⟩ := hW
  have hA : DataW.TrodAll enc Try.prog W 0 (fun _ => true) true Try.f6.params.toList args.toList ds p := hA0
  rw [Try.params6] at hA hval
  obtain ⟨v0, vs0, d0, ds0, p0, q0, hargs, rfl, rfl, h0, r0⟩ := trodAll_cons hA
  obtain ⟨v1, vs1, d1, ds1, p1, q1, rfl, rfl, rfl, h1, r1⟩ := trodAll_cons r0
  obtain ⟨rfl, rfl, rfl⟩ := trodAll_nil r1
  obtain rfl : args = #[v0, v1] := by cases args; simp_all
  obtain ⟨rfl, rfl⟩ := trodVars_none hV
  obtain ⟨pl, zs, cl0, rfl, hzl, hz⟩ := open43 (hval 0 43 v0 rfl rfl) h0
  obtain ⟨pk, kk, ck, rfl, hkl, hk⟩ := open35 (hval 1 35 v1 rfl rfl) h1
  clear hA0 hval0
  simp only [List.append_nil] at hW'
  have hlt : ∀ x ∈ p0 ++ p1, x.block < W.heap.size := fun x hx => by simpa using hW'.lt x hx
  refine (groups_w pl pk cl0 ck zs kk W hz hk hzl hkl).mono fun e W' ⟨he, hB⟩ => ?_
  subst he
  have k0 := Below.trod laidOut (by kernel_rfl) (of_decide_eq_true (by kernel_rfl)) h0 hB (fun x hx => hlt x (List.mem_append_left _ hx))
  have k1 := Below.trod laidOut (by kernel_rfl) (of_decide_eq_true (by kernel_rfl)) h1 hB (fun x hx => hlt x (List.mem_append_right _ hx))
  exact ⟨_, rfl, ⟨_, _, _, [], p0 ++ (p1 ++ []), [], hW', trodAll_cons_mk (shut_bool Try.underlying4 _) trodAll_mk0, trodAll_cons_mk k0 (trodAll_cons_mk k1 trodAll_mk0), rfl, hB.frame _, fun h => by cases h⟩⟩

theorem over : Rows.fnUnmodelledOfGroupsEveryUseRow.holds Try.pinned (OpenSpec.ofChange Rows.fnUnmodelledOfGroupsEveryUseSpec) :=
  OpenClaim.holds_of_wide 6 Try.f6 rfl rfl rfl rfl rfl rfl rfl ⟨rfl, rfl, rfl, rfl, rfl⟩ rfl rfl rfl rfl rfl (by kernel_rfl) Try.func6 (by kernel_rfl)
    (of_decide_eq_true (by kernel_rfl)) (by unfold Func.isWrapper; first | (rw [if_pos (by decide +kernel)]; kernel_rfl) | (rw [if_neg (by decide +kernel)]; exact ⟨rfl, rfl⟩))
    (fun os started H enc _ => lifted os started H enc)

/-- THE STATEMENT. -/
theorem proved : Rows.FnUnmodelledOfGroupsEveryUseSaid :=
  over
#print axioms proved
end Go.Proofs.Qxb6613730a.fnUnmodelledOfGroupsEveryUse
