import Derived.Test.Qxb6613745aClus
import Derived.Maps.OwnSet
import Derived.Maps.OwnRows
set_option linter.unusedVariables false
namespace Go.Proofs.Qxb6613745a
open Go.RowKit

def keyS (k : ByteArray) : Lit := .string k.data.toList
theorem keyS_ne {k m : ByteArray} (h : k ≠ m) : keyS k ≠ keyS m := fun e => h (ByteArray.ext (Array.toList_inj.1 (by simpa [keyS] using e)))
theorem keyS_of {k : ByteArray} (hk : k.size ≤ maxLen) : keyOf Try.prog 9 (.string k) = some (keyS k) := WideMaps.keyOf_string_mk Try.underlying9 hk
theorem keyed9 : Maps.Keyed Try.prog 9 := Maps.string_keyed Try.underlying9
theorem keyS_lit {k : ByteArray} (hk : k.size ≤ maxLen) : WideAt.IsKeyLit (keyS k) := keyed9.key (keyS_of hk)

/-- The map of the answers, a later one over an earlier one. -/
def amap (an : List (ByteArray × Int)) : DataW Unit := an.foldl (fun m a => m.put (keyS a.1) (.lit (.int .u64 a.2))) (.map [])
theorem amap_snoc (an : List (ByteArray × Int)) (a : ByteArray × Int) : amap (an ++ [a]) = (amap an).put (keyS a.1) (.lit (.int .u64 a.2)) := by simp [amap]
theorem snoc_ind {α : Type} {P : List α → Prop} (h0 : P []) (h1 : ∀ l x, P l → P (l ++ [x])) (l : List α) : P l := by
  have : ∀ l : List α, P l.reverse := fun l => by
    induction l with
    | nil => exact h0
    | cons x l ih => rw [List.reverse_cons]; exact h1 _ _ ih
  have := this l.reverse
  rwa [List.reverse_reverse] at this
theorem amap_tidy (an : List (ByteArray × Int)) (ok : AnsOk an) : Maps.Tidy (amap an) := by
  induction an using snoc_ind with
  | h0 => exact Maps.tidy_empty
  | h1 an a ih => rw [amap_snoc]; exact (ih (fun x hx => ok x (by simp [hx]))).put (keyS_lit (ok a (by simp)).1) _
theorem isIn_snoc (k x : ByteArray) : ∀ l, isIn k (l ++ [x]) = (isIn k l || decide (x = k))
  | [] => by by_cases h : x = k <;> simp [isIn, h]
  | y :: l => by
    rw [List.cons_append, isIn, isIn, isIn_snoc k x l]
    by_cases h : y = k <;> simp [h]
theorem ids_snoc (an : List (ByteArray × Int)) (a : ByteArray × Int) : ids (an ++ [a]) = ids an ++ [a.1] := by simp [ids]
theorem amap_has (an : List (ByteArray × Int)) (ok : AnsOk an) (k : ByteArray) : Maps.has (amap an) (keyS k) = isIn k (ids an) := by
  induction an using snoc_ind with
  | h0 => rfl
  | h1 an a ih =>
    have ok' : AnsOk an := fun x hx => ok x (by simp [hx])
    rw [amap_snoc, ids_snoc, isIn_snoc]
    by_cases h : a.1 = k
    · subst h
      rw [Maps.has_put_same (amap_tidy an ok').isMap (keyS_lit (ok a (by simp)).1)]
      simp
    · rw [Maps.has_put_other (keyS_ne (fun e => h e.symm)), ih ok']
      simp [h]
/-- How many names there are. -/
def dcnt : List ByteArray → Nat
  | [] => 0
  | x :: r => (if isIn x r then 0 else 1) + dcnt r
theorem amap_size_snoc (an : List (ByteArray × Int)) (a : ByteArray × Int) (ok : AnsOk (an ++ [a])) : Maps.size (amap (an ++ [a])) = if isIn a.1 (ids an) then Maps.size (amap an) else Maps.size (amap an) + 1 := by
  have ok' : AnsOk an := fun x hx => ok x (by simp [hx])
  rw [amap_snoc, Maps.size_put (amap_tidy an ok'), amap_has an ok']

/-- The call's own map holds the answers. -/
def AMap (W : World) (b : Nat) (an : List (ByteArray × Int)) : Prop := W.ownsMap Try.prog 9 (plainElem (H := Unit) Try.prog 30) b an.length (amap an)
theorem wfU {t : Int} (h0 : 0 ≤ t) (h1 : t ≤ 18446744073709551615) : (Lit.int .u64 t).wf = true := by
  have e1 : IntKind.min .u64 = 0 := by decide
  have e2 : IntKind.max .u64 = 18446744073709551615 := by decide
  simp only [Lit.wf, e1, e2, h0, h1, decide_true, Bool.and_self]
theorem makeMapN (n : Nat) (w : World) : (Instr.makeMap 36 (some (.int .i64 (n : Int)))).run Try.prog w = .ok (.map (some w.heap.size)) (w.alloc (.map #[] 0)) := by
  simp [Instr.makeMap, run_underlying Try.underlying36, asInt, asIntOf]
theorem AMap.put {W : World} {b : Nat} {an : List (ByteArray × Int)} (h : AMap W b an) (a : ByteArray × Int) (hl : an.length < 100000) (hs : a.1.size ≤ maxLen) (h0 : 0 ≤ a.2) (h1 : a.2 ≤ 18446744073709551615) :
    ∃ w', (Instr.mapUpdate 36 (.map (some b)) (.string a.1) (.int .u64 a.2)).run Try.prog W = .ok () w' ∧ AMap w' b (an ++ [a]) ∧ W.grownBy w' (some b) := by
  obtain ⟨w', hr, ho, hg⟩ := World.ownsMap.update h keyed9 Try.underlying36 (by unfold maxLen; omega) (keyS_of hs) (plainElem_int Try.underlying30 (wfU h0 h1))
  refine ⟨w', hr, ?_, hg⟩
  unfold AMap
  rw [amap_snoc, List.length_append]
  exact ho

/-- The map's block, the world below it untouched. -/
def AmapPost (w : World) (an : List (ByteArray × Int)) (e : Ending) (w' : World) : Prop := RowKit.Below w.heap.size w w' ∧ ∃ b, e = .returned (.map (some b)) ∧ w.heap.size ≤ b ∧ b < w'.heap.size ∧ AMap w' b an

set_option maxHeartbeats 2000000 in
set_option maxRecDepth 100000 in
/-- zzB1answerMap. -/
theorem answerMap (p : Option Addr) (c : Nat) (an : List (ByteArray × Int)) (w : World) (hA : AnsIn w w.heap.size p an) (b1 : an.length ≤ 8192) :
    Calls Try.prog 25 #[.slice p an.length c] w (AmapPost w an) := by
  have mixed := mixedOrders
  have hmm := makeMapN an.length w
  have HA : Hid (AnsIn w w.heap.size p an) := hA
  clear hA
  go_enter Try.func25, Try.ntmps25
  go_wp2_with fail
  go_loopw [4] (fun s4 wv => ∃ (i : Nat), s4 = .int .i64 i ∧ i ≤ an.length ∧ Hid (RowKit.Below w.heap.size w wv) ∧ Hid (AMap wv w.heap.size (an.take i))) (fun s4 _ => an.length - (intOf s4).toNat)
  case atStart => exact ⟨0, rfl, Nat.zero_le _, (Below.refl _ w).alloc (Nat.le_refl _) _, World.ownsMap_made w Try.prog 9 _⟩
  case round =>
    obtain ⟨i, rfl, hi, HB, HM⟩ := hrel
    clear hmm
    by_cases hlt : i < an.length
    · have hltz : (i : Int) < (an.length : Int) := by omega
      obtain ⟨b, off, rfl, hb, h1, h2, hs, h0, h9⟩ := HA.out i hlt
      have e1 : wr.cell? ⟨b, off + i * 2, none⟩ = some (.string (nth an i).1) := (HB.out.cell (p := ⟨b, off + i * 2, none⟩) hb).trans h1
      have e2 : wr.cell? ⟨b, off + i * 2 + 1, none⟩ = some (.int .u64 (nth an i).2) := (HB.out.cell (p := ⟨b, off + i * 2 + 1, none⟩) hb).trans h2
      have e3 : wr.drew.cell? ⟨b, off + i * 2, none⟩ = some (.string (nth an i).1) := e1
      have e4 : wr.drew.cell? ⟨b, off + i * 2 + 1, none⟩ = some (.int .u64 (nth an i).2) := e2
      obtain ⟨w2, hup, hM2, hg2⟩ := AMap.put (W := wr.drew) HM.out (nth an i) (by rw [List.length_take]; omega) hs h0 h9
      have HM2 : Hid (AMap w2 w.heap.size (an.take (i + 1))) := by
        refine (?_ : AMap _ _ _)
        rw [take_nth an i hlt]; exact hM2
      have HB2 : Hid (RowKit.Below w.heap.size w w2) := HB.out.drew.grown hg2 HB.out.size (by rintro k h; cases h; exact Nat.le_refl _)
      clear h1 h2 hM2 hg2 hs h0 h9
      go_wp2_with fail
      go_big_region_o
      go_wp2_with fail
      go_roundw
      case rel => exact ⟨i + 1, by go_num, by omega, HB2.out, HM2.out⟩
      case measure => simp [intOf]; omega
    · have hltz : ¬ (i : Int) < (an.length : Int) := by omega
      have HM' : Hid (AMap wr w.heap.size an) := by
        have := HM.out
        rw [List.take_of_length_le (by omega)] at this
        exact this
      go_wp2
      go_ret
      exact ⟨HB.out, w.heap.size, rfl, Nat.le_refl _, World.ownsMap.lt HM'.out, HM'.out⟩
end Go.Proofs.Qxb6613745a
