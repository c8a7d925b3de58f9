import Derived.Test.Qxb6613730aShelf
import Derived.Test.Qxb6613730aStabU
import Derived.Test.Qxb6613730aBase
import Derived.Deep.QuietTactic
import Derived.BigQuiet
set_option linter.unusedVariables false
namespace Go.Proofs.Qxb6613730a
open Go.Shelf Go.RowKit Go.Lib Go.Sort

theorem cell_two_allocs (W : World) (o1 o2 : Obj) (a : Addr) (v : Value) (hb : a.block < W.heap.size) (h : W.cell? a = some v) : ((W.alloc o1).alloc o2).cell? a = some v := by
  rw [alloc_eq_grow, alloc_eq_grow, grow_grow, cell?_grow _ _ _ hb]; exact h

set_option maxHeartbeats 1000000 in
/-- THE CLOSURE OF UnmodelledOf: 'cmp.Compare(a.Lines[0], b.Lines[0])': two blocks are laid. -/
theorem closure45 (x y : ByteArray) (ba la ca bb lb cb : Nat) (za zb : Int) (W : World) (ha : 0 < la) (hb : 0 < lb) (hca : W.cell? ⟨ba, 0, none⟩ = some (.int .i64 za)) (hcb : W.cell? ⟨bb, 0, none⟩ = some (.int .i64 zb)) (hba : ba < W.heap.size) (hbb : bb < W.heap.size) :
    Calls Try.prog 45 #[.agg #[.string x, .slice (some ⟨ba, 0, none⟩) la ca], .agg #[.string y, .slice (some ⟨bb, 0, none⟩) lb cb]] W fun e w' => e = .returned (.int .i64 (Lib.compareInt za zb)) ∧ ∃ q os', w' = grow (W.drewN q) os' := by
  have hcon := fun W' => Try.cmp_Compare_int za zb W'
  generalize Lib.compareInt za zb = r at hcon ⊢
  have h1 : ((W.alloc (.cells #[.string x, .slice (some ⟨ba, 0, none⟩) la ca] 49)).alloc (.cells #[.string y, .slice (some ⟨bb, 0, none⟩) lb cb] 49)).cell? ⟨ba, 0, none⟩ = some (.int .i64 za) := cell_two_allocs W _ _ _ _ hba hca
  have h2 : ((W.alloc (.cells #[.string x, .slice (some ⟨ba, 0, none⟩) la ca] 49)).alloc (.cells #[.string y, .slice (some ⟨bb, 0, none⟩) lb cb] 49)).cell? ⟨bb, 0, none⟩ = some (.int .i64 zb) := cell_two_allocs W _ _ _ _ hbb hcb
  have laz : (0 : Int) < (la : Int) := by omega
  have lbz : (0 : Int) < (lb : Int) := by omega
  go_enter Try.func45, Try.ntmps45
  go_wp2
  go_quiet ((go_at_call 46; exact Calls.quiet_of_same (hcon _)))
  go_wp2
  go_ret
  exact ⟨rfl, nq, _, by rw [alloc_eq_grow, alloc_eq_grow, grow_grow]; rfl⟩

end Go.Proofs.Qxb6613730a
