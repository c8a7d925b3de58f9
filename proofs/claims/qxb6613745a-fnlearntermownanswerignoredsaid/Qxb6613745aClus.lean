import Derived.Test.Qxb6613745aJoin
import Derived.Deep.Cut
import Derived.Deep.CutRange
import Derived.Deep.DeepCutAuto
import Derived.Shelf.RegionOpenPlain
import Derived.Laws.Cover3
set_option linter.unusedVariables false
namespace Go.Proofs.Qxb6613745a
open Go.RowKit

theorem info62 : (Try.prog.info? 62).map (fun i => (i.zero, i.size, i.bytes)) = some (some (.agg #[.string ⟨#[]⟩, .string ⟨#[]⟩]), 2, 32) := by kernel_rfl
theorem made47 (n : Nat) (hn : n ≤ 16777216) : ∃ mc : Array Value, mc.size = n * 2 ∧ ∀ W : World, (Instr.makeSlice 47 (.int .i64 (n : Int)) (.int .i64 (n : Int))).run Try.prog W = .ok (.slice (some ⟨W.heap.size, 0, none⟩) n n) (W.alloc (.cells mc 62)) := by
  obtain ⟨i, hi, hz, hs, hb⟩ := info_parts info62
  refine ⟨madeCells (Value.agg #[.string ⟨#[]⟩, .string ⟨#[]⟩]).cells (n * i.size), by rw [size_madeCells, hs], fun W => ?_⟩
  have := run_make (P := Try.prog) W 47 62 i _ Try.underlying47 hi hz .i64 .i64 n n (by omega) (by omega) (by rw [hb]; omega) (by omega)
  simpa using this

theorem setCell_at {W : World} {b : Nat} {cur : Array Value} {t : TypeId} {m : Nat × Nat} (h : W.heap[b]? = some (.cells cur t m)) (o : Nat) (v : Value) : (W.setCell ⟨b, o, none⟩ v).heap[b]? = some (.cells (cur.setIfInBounds o v) t m) := by
  obtain ⟨hlt, hk⟩ := Array.getElem?_eq_some_iff.1 h
  show (W.heap.modify b _)[b]? = _
  rw [Array.getElem?_eq_getElem (by rw [Array.size_modify]; exact hlt), Array.getElem_modify_self, hk]
  rfl
theorem heap_cell {W : World} {b : Nat} {cur : Array Value} {t : TypeId} {o : Nat} {v : Value} (h : W.heap[b]? = some (.cells cur t (0, 0))) (hv : cur[o]? = some v) : W.cell? ⟨b, o, none⟩ = some v ∧ W.frozen? ⟨b, o, none⟩ = false := by
  simp [World.cell?, World.frozen?, h, hv]
theorem Below.drewN {B : Nat} {A W : World} (h : RowKit.Below B A W) (q : Nat) : RowKit.Below B A (W.drewN q) := ⟨h.os, h.tape, h.output, h.size, h.block⟩

/-- The block that is being filled with the members, i of them there. -/
structure Fill (n₀ fb : Nat) (w W : World) (ms : List (ByteArray × ByteArray)) (i : Nat) : Prop where
  below : RowKit.Below n₀ w W
  base : n₀ ≤ fb
  row : ∃ cur, W.heap[fb]? = some (.cells cur 62 (0, 0)) ∧ cur.size = ms.length * 2 ∧ ∀ j, j < i → cur[j * 2]? = some (.string (nth ms j).1) ∧ cur[j * 2 + 1]? = some (.string (nth ms j).2)
theorem Fill.free {n₀ fb : Nat} {w W : World} {ms : List (ByteArray × ByteArray)} {i : Nat} (h : Fill n₀ fb w W ms i) (hi : i < ms.length) (v : Value) :
    ∃ x0 x1, W.cell? ⟨fb, i * 2, none⟩ = some x0 ∧ W.frozen? ⟨fb, i * 2, none⟩ = false ∧ (W.setCell ⟨fb, i * 2, none⟩ v).cell? ⟨fb, i * 2 + 1, none⟩ = some x1 ∧ (W.setCell ⟨fb, i * 2, none⟩ v).frozen? ⟨fb, i * 2 + 1, none⟩ = false := by
  obtain ⟨cf, hc, hs, _⟩ := h.row
  have a0 := heap_cell hc (Array.getElem?_eq_getElem (show i * 2 < cf.size by omega))
  have a1 := heap_cell (setCell_at hc (i * 2) v) (Array.getElem?_eq_getElem (show i * 2 + 1 < (cf.setIfInBounds (i * 2) v).size by simp; omega))
  exact ⟨_, _, a0.1, a0.2, a1.1, a1.2⟩
theorem Fill.step {n₀ fb : Nat} {w W : World} {ms : List (ByteArray × ByteArray)} {i : Nat} (h : Fill n₀ fb w W ms i) (hi : i < ms.length) :
    Fill n₀ fb w ((W.setCell ⟨fb, i * 2, none⟩ (.string (nth ms i).1)).setCell ⟨fb, i * 2 + 1, none⟩ (.string (nth ms i).2)) ms (i + 1) := by
  obtain ⟨cf, hc, hs, hj⟩ := h.row
  refine ⟨(h.below.setCell h.base _).setCell h.base _, h.base, _, setCell_at (setCell_at hc _ _) _ _, by simp [hs], fun j hj' => ?_⟩
  by_cases hji : j = i
  · subst hji
    constructor
    · rw [Array.getElem?_setIfInBounds_ne (by omega), Array.getElem?_setIfInBounds_self_of_lt (by omega)]
    · rw [Array.getElem?_setIfInBounds_self_of_lt (by simp; omega)]
  · have := hj j (by omega)
    constructor
    · rw [Array.getElem?_setIfInBounds_ne (by omega), Array.getElem?_setIfInBounds_ne (by omega)]; exact this.1
    · rw [Array.getElem?_setIfInBounds_ne (by omega), Array.getElem?_setIfInBounds_ne (by omega)]; exact this.2
theorem Fill.drew {n₀ fb : Nat} {w W : World} {ms : List (ByteArray × ByteArray)} {i : Nat} (h : Fill n₀ fb w W ms i) : Fill n₀ fb w W.drew ms i := ⟨h.below.drew, h.base, h.row⟩

/-- Each member's strings have a length. -/
def MemOk (ms : List (ByteArray × ByteArray)) : Prop := ∀ a ∈ ms, a.1.size ≤ maxLen ∧ a.2.size ≤ maxLen
theorem MemIn.ok {w : World} {B : Nat} {p : Option Addr} {ms : List (ByteArray × ByteArray)} (h : MemIn w B p ms) : MemOk ms := fun a ha => by
  obtain ⟨i, hi, rfl⟩ := nth_of_mem ms a ha
  obtain ⟨_, _, _, _, _, _, h1, h2⟩ := h i hi
  exact ⟨h1, h2⟩
theorem Fill.mem {n₀ fb : Nat} {w W : World} {ms : List (ByteArray × ByteArray)} (h : Fill n₀ fb w W ms ms.length) (ok : MemOk ms) : MemIn W W.heap.size (some ⟨fb, 0, none⟩) ms := by
  obtain ⟨cf, hc, hs, hj⟩ := h.row
  intro j hjl
  have := hj j hjl
  exact ⟨fb, 0, rfl, lt_of_heap hc, by rw [Nat.zero_add]; exact (heap_cell hc this.1).1, by rw [Nat.zero_add]; exact (heap_cell hc this.2).1, (ok _ (nth_mem ms j hjl)).1, (ok _ (nth_mem ms j hjl)).2⟩

theorem eql_nil (t e : TypeId) (a : Option Addr) (l c : Nat) (w : World) (h : Try.prog.underlying t = some (.slice e)) : (binOp .eql t (.slice a l c) (.slice none 0 0)).run Try.prog w = .ok (.bool a.isNone) w := by
  simp only [binOp]
  simp [run_equal_slice_nil w t e a l c h]

theorem mixedOrders : Try.prog.follows .mixedOrders = true := by kernel_rfl

/-- A slice of members of the call's own, or nil where there are none. -/
def ClusPost (w : World) (ms : List (ByteArray × ByteArray)) (e : Ending) (w' : World) : Prop := RowKit.Below w.heap.size w w' ∧ ∃ p c, e = .returned (.slice p ms.length c) ∧ (p = none → ms = [] ∧ c = 0) ∧ MemIn w' w'.heap.size p ms

set_option maxHeartbeats 2000000 in
set_option maxRecDepth 100000 in
/-- zzB1toCluster. -/
theorem toCluster (p : Option Addr) (c : Nat) (ms : List (ByteArray × ByteArray)) (w : World) (hM : MemIn w w.heap.size p ms) (n1 : p = none → ms = [] ∧ c = 0) (b1 : ms.length ≤ 4096) :
    Calls Try.prog 23 #[.slice p ms.length c] w (ClusPost w ms) := by
  have mixed := mixedOrders
  cases p with
  | none =>
    obtain ⟨rfl, rfl⟩ := n1 rfl
    have heq := eql_nil 22 27 none 0 0 w Try.underlying22
    go_enter Try.func23, Try.ntmps23
    go_wp2
    go_ret
    exact ⟨Below.refl _ _, none, 0, rfl, fun _ => ⟨rfl, rfl⟩, fun j hj => absurd hj (Nat.not_lt_zero _)⟩
  | some ad =>
    have heq := eql_nil 22 27 (some ad) ms.length c w Try.underlying22
    have HM : Hid (MemIn w w.heap.size (some ad) ms) := hM
    obtain ⟨mc, hmc, hmk⟩ := made47 ms.length (by omega)
    have hmk := hmk w
    clear hM n1
    go_enter Try.func23, Try.ntmps23
    go_wp2_with fail
    go_loopw [4] (fun s4 wv => ∃ (i : Nat), s4 = .int .i64 i ∧ i ≤ ms.length ∧ Hid (Fill w.heap.size w.heap.size w wv ms i)) (fun s4 _ => ms.length - (intOf s4).toNat)
    case atStart =>
      refine ⟨0, rfl, Nat.zero_le _, ⟨(Below.refl _ w).alloc (Nat.le_refl _) _, Nat.le_refl _, mc, ?_, hmc, fun j hj => absurd hj (Nat.not_lt_zero _)⟩⟩
      show (w.heap.push _)[w.heap.size]? = _
      simp
    case round =>
      obtain ⟨i, rfl, hi, HF⟩ := hrel
      clear hmk
      by_cases hlt : i < ms.length
      · have hltz : (i : Int) < (ms.length : Int) := by omega
        obtain ⟨b, off, hab, hb, h1, h2, _, _⟩ := HM.out i hlt
        have hab' : ad = ⟨b, off, none⟩ := by simpa using hab
        subst hab'
        clear hab
        have e1 : wr.drew.cell? ⟨b, off + i * 2, none⟩ = some (.string (nth ms i).1) := (HF.out.below.cell (p := ⟨b, off + i * 2, none⟩) hb).trans h1
        have e2 : wr.drew.cell? ⟨b, off + i * 2 + 1, none⟩ = some (.string (nth ms i).2) := (HF.out.below.cell (p := ⟨b, off + i * 2 + 1, none⟩) hb).trans h2
        obtain ⟨x0, x1, f0, f1, f2, f3⟩ := HF.out.drew.free hlt (.string (nth ms i).1)
        have f0' : wr.cell? ⟨w.heap.size, i * 2, none⟩ = some x0 := f0
        have f1' : wr.frozen? ⟨w.heap.size, i * 2, none⟩ = false := f1
        have f2' : (wr.setCell ⟨w.heap.size, i * 2, none⟩ (.string (nth ms i).1)).cell? ⟨w.heap.size, i * 2 + 1, none⟩ = some x1 := f2
        have f3' : (wr.setCell ⟨w.heap.size, i * 2, none⟩ (.string (nth ms i).1)).frozen? ⟨w.heap.size, i * 2 + 1, none⟩ = false := f3
        have f4' : wr.frozen? ⟨w.heap.size, i * 2 + 1, none⟩ = false := by
          obtain ⟨cf, hcf, _⟩ := HF.out.row
          simp [World.frozen?, hcf]
        have HF2 : Hid (Fill w.heap.size w.heap.size w ((wr.setCell ⟨w.heap.size, i * 2, none⟩ (.string (nth ms i).1)).setCell ⟨w.heap.size, i * 2 + 1, none⟩ (.string (nth ms i).2)).drew ms (i + 1)) := (HF.out.step hlt).drew
        clear h1 h2
        go_wp2_with fail
        go_big_region_o
        go_wp2_with fail
        go_roundw
        case rel => exact ⟨i + 1, by go_num, by omega, HF2.out⟩
        case measure => simp [intOf]; omega
      · have hltz : ¬ (i : Int) < (ms.length : Int) := by omega
        have hie : i = ms.length := by omega
        subst hie
        go_wp2
        go_ret
        exact ⟨HF.out.below, some ⟨w.heap.size, 0, none⟩, ms.length, rfl, fun h => absurd h (by simp), HF.out.mem HM.out.ok⟩
end Go.Proofs.Qxb6613745a
