import Derived.Test.Qxb6613745aMax
import Derived.Laws.Tables
set_option linter.unusedVariables false
namespace Go.Proofs.Qxb6613745a
open Go.RowKit Go.Maps

/-- The cells of the joining core's configuration. -/
def cfgCells (id : ByteArray) : Array Value := #[.string id, .slice none 0 0, .int .i64 0, .int .i64 0, .int .i64 0, .int .i64 0, .int .i64 0, .string ⟨#[]⟩, .pointer none, .bool false, .bool true]
theorem cfg_run (id : ByteArray) (w : World) : (Instr.build 59 #[(0, .string id), (10, .bool true)]).run Try.prog w = .ok (.agg (cfgCells id)) w := run_build w 59 _ _ (by kernel_rfl)
/-- What the cells of a core hold that we read. -/
def CoreCells (cs : Array Value) (id : ByteArray) (t : Int) (p : Option Addr) (n c : Nat) (av : Value) : Prop :=
  cs[0]? = some (.string id) ∧ cs[10]? = some (.bool true) ∧ cs[11]? = some (.slice p n c) ∧ cs[12]? = some (.int .u64 0) ∧ cs[20]? = some (.int .u64 0) ∧ cs[22]? = some (.int .u64 t) ∧ cs[58]? = some av
theorem core_run (id : ByteArray) (t : Int) (p : Option Addr) (n c b : Nat) : ∃ cs, (∀ w, (Instr.build 74 #[(0, .agg (cfgCells id)), (11, .int .u64 t), (1, .slice p n c), (40, .map (some b))]).run Try.prog w = .ok (.agg cs) w) ∧ cs.size = 60 ∧ CoreCells cs id t p n c (.map (some b)) :=
  ⟨(Try.prog.built 74 [(0, .agg (cfgCells id)), (11, .int .u64 t), (1, .slice p n c), (40, .map (some b))]).getD #[], fun w => run_build w 74 _ _ (by kernel_rfl), by kernel_rfl, by kernel_rfl, by kernel_rfl, by kernel_rfl, by kernel_rfl, by kernel_rfl, by kernel_rfl, by kernel_rfl⟩

/-- The core as it lies in block cb. -/
def CoreAt (W : World) (cb : Nat) (id : ByteArray) (t : Int) (p : Option Addr) (n c : Nat) (av : Value) : Prop := ∃ cs, W.heap[cb]? = some (.cells cs 74 (0, 0)) ∧ CoreCells cs id t p n c av

def CorePost (w : World) (id : ByteArray) (t : Int) (p : Option Addr) (n c b : Nat) (e : Ending) (w' : World) : Prop :=
  e = .returned (.pointer (some ⟨w.heap.size, 0, none⟩)) ∧ RowKit.Below w.heap.size w w' ∧ CoreAt w' w.heap.size id t p n c (.map (some b))

theorem wpList_build74 (w : World) {ops : Array Oper} {rest : List Oper} {o : Oper} {a : Act} {Q : Exit → Act → World → Prop} (hg : o.guard = none) (parts : Array (Nat × Operand)) (hop : o.op = Op.build 74 parts) (cs : Array Value)
    (hrun : (Instr.build 74 (parts.map fun x => (x.1, a.eval x.2))).run Try.prog w = .ok (.agg cs) w) (hK : wpList Try.prog ops Q rest (a.put o.dst (.agg cs)) w) : wpList Try.prog ops Q (o :: rest) a w := by
  refine wpList_plain hg fun K hK' => ?_
  unfold Oper.wp
  simp [execOp, hop, hrun, Result.andThen]
  exact hK' _ _ hK

set_option maxHeartbeats 2000000 in
set_option maxRecDepth 100000 in
theorem newCore (id : ByteArray) (t : Int) (p : Option Addr) (n c b : Nat) (w : World) : Calls Try.prog 24 #[.string id, .int .u64 t, .slice p n c, .map (some b)] w (CorePost w id t p n c b) := by
  have h59 := cfg_run id w
  obtain ⟨cs, h74, hs, hcs⟩ := core_run id t p n c b
  replace h74 := h74 w
  have HCS : Hid (CoreCells cs id t p n c (.map (some b))) := hcs
  unfold cfgCells at h74 h59
  clear hcs
  go_enter Try.func24, Try.ntmps24
  go_wp2_with (refine wpList_build74 _ rfl _ rfl cs (by simpa [Act.eval] using h74) ?_)
  go_ret
  refine ⟨rfl, (Below.refl _ w).alloc (Nat.le_refl _) _, cs, ?_, HCS.out⟩
  show (w.heap.push _)[w.heap.size]? = _
  simp

theorem CoreAt.cells {W : World} {cb : Nat} {id : ByteArray} {t : Int} {p : Option Addr} {n c : Nat} {av : Value} (h : CoreAt W cb id t p n c av) :
    W.cell? ⟨cb, 0, none⟩ = some (.string id) ∧ W.cell? ⟨cb, 10, none⟩ = some (.bool true) ∧ W.cell? ⟨cb, 11, none⟩ = some (.slice p n c) ∧ W.cell? ⟨cb, 12, none⟩ = some (.int .u64 0) ∧ W.cell? ⟨cb, 20, none⟩ = some (.int .u64 0) ∧ W.cell? ⟨cb, 22, none⟩ = some (.int .u64 t) ∧ W.cell? ⟨cb, 58, none⟩ = some av ∧ W.frozen? ⟨cb, 58, none⟩ = false ∧ cb < W.heap.size := by
  obtain ⟨cs, hc, h0, h1, h2, h3, h4, h5, h6⟩ := h
  exact ⟨(heap_cell hc h0).1, (heap_cell hc h1).1, (heap_cell hc h2).1, (heap_cell hc h3).1, (heap_cell hc h4).1, (heap_cell hc h5).1, (heap_cell hc h6).1, (heap_cell hc h6).2, lt_of_heap hc⟩
theorem CoreAt.below {A W : World} {cb : Nat} {id : ByteArray} {t : Int} {p : Option Addr} {n c : Nat} {av : Value} (h : CoreAt A cb id t p n c av) (hB : RowKit.Below A.heap.size A W) : CoreAt W cb id t p n c av := by
  obtain ⟨cs, hc, h2⟩ := h
  exact ⟨cs, (hB.block cb (lt_of_heap hc)).trans hc, h2⟩
theorem CoreAt.clear {W : World} {cb : Nat} {id : ByteArray} {t : Int} {p : Option Addr} {n c : Nat} {av : Value} (h : CoreAt W cb id t p n c av) : CoreAt (W.setCell ⟨cb, 58, none⟩ (.map none)) cb id t p n c (.map none) := by
  obtain ⟨cs, hc, h0, h1, h2, h3, h4, h5, h6⟩ := h
  have hlt : 58 < cs.size := (Array.getElem?_eq_some_iff.1 h6).1
  refine ⟨_, setCell_at hc 58 (.map none), ?_, ?_, ?_, ?_, ?_, ?_, ?_⟩
  · rw [Array.getElem?_setIfInBounds_ne (by omega)]; exact h0
  · rw [Array.getElem?_setIfInBounds_ne (by omega)]; exact h1
  · rw [Array.getElem?_setIfInBounds_ne (by omega)]; exact h2
  · rw [Array.getElem?_setIfInBounds_ne (by omega)]; exact h3
  · rw [Array.getElem?_setIfInBounds_ne (by omega)]; exact h4
  · rw [Array.getElem?_setIfInBounds_ne (by omega)]; exact h5
  · rw [Array.getElem?_setIfInBounds_self_of_lt hlt]

set_option maxHeartbeats 1000000 in
theorem answers27 (cb : Nat) (id : ByteArray) (t : Int) (p : Option Addr) (n c : Nat) (av : Value) (hav : av = .map none ∨ ∃ b, av = .map (some b)) (w : World) (h : CoreAt w cb id t p n c av) : Calls Try.prog 27 #[.pointer (some ⟨cb, 0, none⟩)] w fun e w' => e = .returned av ∧ w' = w := by
  obtain ⟨_, _, _, _, _, _, h6, _⟩ := h.cells
  clear h
  rcases hav with rfl | ⟨b, rfl⟩
  · go_enter Try.func27, Try.ntmps27
    go_wp2
    go_ret
    exact ⟨rfl, rfl⟩
  · go_enter Try.func27, Try.ntmps27
    go_wp2
    go_ret
    exact ⟨rfl, rfl⟩
set_option maxHeartbeats 1000000 in
theorem term28 (cb : Nat) (id : ByteArray) (t : Int) (p : Option Addr) (n c : Nat) (av : Value) (w : World) (h : CoreAt w cb id t p n c av) : Calls Try.prog 28 #[.pointer (some ⟨cb, 0, none⟩)] w fun e w' => e = .returned (.int .u64 t) ∧ w' = w := by
  obtain ⟨_, _, _, _, _, h5, _⟩ := h.cells
  clear h
  go_enter Try.func28, Try.ntmps28
  go_wp2
  go_ret
  exact ⟨rfl, rfl⟩
end Go.Proofs.Qxb6613745a
