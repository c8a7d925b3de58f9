import Derived.Test.Qxb6613730aUnm2
import Derived.Test.Qxb6613730aGuards
set_option linter.unusedVariables false
namespace Go.Proofs.Qxb6613730a
open Go.RowKit Go.Shelf

theorem StrsIn.below {A W : World} {B : Nat} {p : Option Addr} {ss : List ByteArray} (h : Below B A W) (hs : StrsIn A B p ss) : StrsIn W B p ss := fun j hj => by
  obtain ⟨b, off, h1, h2, h3, h4⟩ := hs j hj
  exact ⟨b, off, h1, h2, (h.cell (p := ⟨b, off + j, none⟩) h2).trans h3, h4⟩
theorem StrsIn.mono {A : World} {B B' : Nat} {p : Option Addr} {ss : List ByteArray} (h : B ≤ B') (hs : StrsIn A B p ss) : StrsIn A B' p ss := fun j hj => by
  obtain ⟨b, off, h1, h2, h3, h4⟩ := hs j hj
  exact ⟨b, off, h1, by omega, h3, h4⟩
theorem IntsIn.below {A W : World} {B : Nat} {p : Option Addr} {zs : List Int} (h : Below B A W) (hs : IntsIn A B p zs) : IntsIn W B p zs := fun j hj => by
  obtain ⟨b, off, h1, h2, h3⟩ := hs j hj
  exact ⟨b, off, h1, h2, (h.cell (p := ⟨b, off + j, none⟩) h2).trans h3⟩
theorem IntsIn.mono {A : World} {B B' : Nat} {p : Option Addr} {zs : List Int} (h : B ≤ B') (hs : IntsIn A B p zs) : IntsIn A B' p zs := fun j hj => by
  obtain ⟨b, off, h1, h2, h3⟩ := hs j hj
  exact ⟨b, off, h1, by omega, h3⟩
theorem StrssIn.below {A W : World} {B : Nat} {p : Option Addr} {kk : List (List ByteArray)} (h : Below B A W) (hs : StrssIn A B p kk) : StrssIn W B p kk := fun j hj => by
  obtain ⟨b, off, q, d, h1, h2, h3, h4, h5⟩ := hs j hj
  exact ⟨b, off, q, d, h1, h2, (h.cell (p := ⟨b, off + j, none⟩) h2).trans h3, h4, h5.below h⟩
theorem StrssIn.mono {A : World} {B B' : Nat} {p : Option Addr} {kk : List (List ByteArray)} (h : B ≤ B') (hs : StrssIn A B p kk) : StrssIn A B' p kk := fun j hj => by
  obtain ⟨b, off, q, d, h1, h2, h3, h4, h5⟩ := hs j hj
  exact ⟨b, off, q, d, h1, by omega, h3, h4, h5.mono h⟩

/-- The pairs that the iterator yields, out of the two slices. -/
theorem exists_uses [Inhabited Use] {w : World} {B : Nat} {pl pk : Option Addr} {zs : List Int} {kk : List (List ByteArray)} (hz : IntsIn w B pl zs) (hk : StrssIn w B pk kk) (hl : zs.length = kk.length) :
    ∃ xs : List Use, xs.length = zs.length ∧ UsesIn w B pl pk xs ∧ (∀ i, i < xs.length → StrsIn w B (nth xs i).q (nth xs i).ss ∧ (nth xs i).ss = nth kk i) ∧ xs.map (fun u => (u.line, u.ss)) = zs.zip kk := by
  have hex : ∀ j, ∃ u : Use, j < kk.length → u.line = nth zs j ∧ u.ss = nth kk j ∧ (∃ b off, pk = some ⟨b, off, none⟩ ∧ b < B ∧ w.cell? ⟨b, off + j, none⟩ = some (.slice u.q u.ss.length u.d)) ∧ StrsIn w B u.q u.ss := fun j => by
    by_cases hj : j < kk.length
    · obtain ⟨b, off, q, d, h1, h2, h3, h4, h5⟩ := hk j hj
      exact ⟨⟨nth zs j, q, d, nth kk j⟩, fun _ => ⟨rfl, rfl, ⟨b, off, h1, h2, h3⟩, h5⟩⟩
    · exact ⟨default, fun h => absurd h hj⟩
  obtain ⟨f, hf⟩ := Classical.axiomOfChoice hex
  have hlen : ((List.range zs.length).map f).length = zs.length := by simp
  have hn : ∀ i, i < zs.length → nth ((List.range zs.length).map f) i = f i := fun i hi => by
    rw [nth_eq _ _ (by simpa using hi)]; simp
  refine ⟨(List.range zs.length).map f, hlen, fun i hi => ?_, fun i hi => ?_, ?_⟩
  · rw [hlen] at hi
    rw [hn i hi]
    obtain ⟨h1, h2, h3, _⟩ := hf i (by omega)
    obtain ⟨b, off, e1, e2, e3⟩ := hz i hi
    exact ⟨⟨b, off, e1, e2, by rw [h1]; exact e3⟩, h3⟩
  · rw [hlen] at hi
    rw [hn i hi]
    exact ⟨(hf i (by omega)).2.2.2, (hf i (by omega)).2.1⟩
  · apply List.ext_getElem (by simp [hl])
    intro i h1 h2
    simp at h1 h2
    obtain ⟨e1, e2, _⟩ := hf i (by omega)
    simp [e1, e2, nth_eq zs i h1, nth_eq kk i (by omega)]

theorem gpre_range [Inhabited Use] (xs : List Use) : gpre xs (List.range xs.length) = groups (xs.map fun u => (u.line, u.ss)) := by
  unfold gpre
  congr 1
  apply List.ext_getElem (by simp)
  intro i h1 h2
  simp at h1
  simp [cl_lt _ _ h1, nth_eq xs i h1]

theorem row_le_pairs (kk : List (List ByteArray)) (i : Nat) (hi : i < kk.length) : (nth kk i).length ≤ pairsN kk := by
  have h1 := pairsN_take_succ kk i hi
  have h2 := pairsN_take_le kk (i + 1)
  omega

theorem Laid.mono {n₀ n₁ : Nat} {W : World} {fb : Nat} {rs : List (ByteArray × List Int)} (h : n₁ ≤ n₀) (hl : Laid n₀ W fb rs) : Laid n₁ W fb rs := by
  refine ⟨by have := hl.1; omega, hl.2.1, fun j hj => ?_⟩
  obtain ⟨lb, cap, c0, c1, h1, h2⟩ := hl.2.2 j hj
  exact ⟨lb, cap, c0, c1, by omega, h2⟩
theorem Laid.below {n₀ : Nat} {A W : World} {fb : Nat} {rs : List (ByteArray × List Int)} (h : Below A.heap.size A W) (hl : Laid n₀ A fb rs) : Laid n₀ W fb rs := by
  have hs := h.size
  refine ⟨hl.1, by have := hl.2.1; omega, fun j hj => ?_⟩
  obtain ⟨lb, cap, c0, c1, h1, h2, h3, h4, h5, h6⟩ := hl.2.2 j hj
  exact ⟨lb, cap, (h.cell (p := ⟨fb, _, none⟩) hl.2.1).trans c0, (h.cell (p := ⟨fb, _, none⟩) hl.2.1).trans c1, h1, by omega, h3, h4, h5, fun t ht => (h.cell (p := ⟨lb, t, none⟩) h2).trans (h6 t ht)⟩

theorem cell_two_boxes (w : World) (u v : Value) (s t : TypeId) : ((w.alloc (.cells #[u] s)).alloc (.cells #[v] t)).cell? ⟨w.heap.size, 0, none⟩ = some u := by simp

set_option maxHeartbeats 1000000 in
/-- ZZUnmodelledOf. -/
theorem zzunm (pl pk : Option Addr) (cl0 ck : Nat) (zs : List Int) (kk : List (List ByteArray)) (w : World) (hz : IntsIn w w.heap.size pl zs) (hk : StrssIn w w.heap.size pk kk) (hl : zs.length = kk.length) (hn : kk.length ≤ 4096) (hp : pairsN kk ≤ 4096) :
    Calls Try.prog 22 #[.slice pl zs.length cl0, .slice pk kk.length ck] w (UnmPost w (groups (zs.zip kk))) := by
  haveI : Inhabited Use := ⟨⟨0, none, 0, []⟩⟩
  haveI : Inhabited Ent := ⟨⟨⟨#[]⟩, 0, .slice none 0 0, []⟩⟩
  obtain ⟨xs, hxl, hU, hS, hxz⟩ := exists_uses hz hk hl
  have B0 : Below w.heap.size w ((w.alloc (.cells #[.slice pl zs.length cl0] 43)).alloc (.cells #[.slice pk kk.length ck] 35)) := ((Below.refl _ w).alloc (Nat.le_refl _) _).alloc (by simp) _
  have hc := callsIn_wide.1 (unm_w w.heap.size (w.heap.size + 1) pl pk cl0 kk.length ck xs (by omega) (by unfold maxLen; omega) ((w.alloc (.cells #[.slice pl zs.length cl0] 43)).alloc (.cells #[.slice pk kk.length ck] 35))
    (by rw [hxl]; exact cell_two_boxes w _ _ _ _) (by have := cell_new_at (w.alloc (.cells #[.slice pl zs.length cl0] 43)) (.slice pk kk.length ck) 35 (w.heap.size + 1) (by simp); exact this) (by simp; omega) (by simp)
    (fun i hi => by
      obtain ⟨⟨b, off, h1, h2, h3⟩, b', off', h4, h5, h6⟩ := (hU.below B0) i hi
      exact ⟨⟨b, off, h1, by simp; omega, h3⟩, b', off', h4, by simp; omega, h6⟩)
    (fun i hi => ⟨((hS i hi).1.below B0).mono (by simp; omega), by
      rw [(hS i hi).2]
      have := row_le_pairs kk i (by omega)
      omega⟩) (by omega))
  rw [gpre_range, hxz] at hc
  generalize groups (zs.zip kk) = gs at *
  have hpost : ∀ e W', UnmPost ((w.alloc (.cells #[.slice pl zs.length cl0] 43)).alloc (.cells #[.slice pk kk.length ck] 35)) gs e W' → UnmPost w gs e W' := by
    rintro e W' ⟨hb, fb, rs, he, ha, hla⟩
    exact ⟨B0.trans (hb.mono (by simp; omega)), fb, rs, he, ha, hla.mono (by simp; omega)⟩
  clear B0 hU hS hxz hz hk
  have hc' := hc.mono hpost
  clear hc hpost hl hxl hn hp
  go_enter Try.func22, Try.ntmps22
  go_wp2_with fail
  refine hc'.mono ?_
  rintro e W' ⟨hb, fb, rs, rfl, ha, hla⟩
  have HP : Hid (UnmPost w gs (.returned (.slice (some ⟨fb, 0, none⟩) rs.length rs.length)) W') := ⟨hb, fb, rs, rfl, ha, hla⟩
  clear hb ha hla hc'
  go_wp2
  go_ret
  exact HP.out
end Go.Proofs.Qxb6613730a
