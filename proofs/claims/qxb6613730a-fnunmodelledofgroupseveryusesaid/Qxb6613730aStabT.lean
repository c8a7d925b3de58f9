import Derived.Test.Qxb6613730aStabS
set_option linter.unusedVariables false
namespace Go.Proofs.Qxb6613730a
open Go.Shelf Go.RowKit Go.Lib Go.Sort
variable {P : Program} {α : Type} [Inhabited α]

/-- slices.symMergeCmpFunc, whole. -/
theorem symMerge_w (L : StabL P) (k : Nat) (aE : ∀ w, (isAgg 49).run P w = .ok true w) (zE : ∀ w, (Go.sizeOf 49).run P w = .ok k w) (enc : α → List Value) (key : α → Int) (org : α → Nat) (cf : α → α → Int) (hcf : ∀ x y, cf x y < 0 ↔ key x < key y) (g : Nat) (cb : Array Value) (blk off cap : Nat) (d0 : Array α) (w0 : World)
    (eg : ∀ args w, (callFunc g args).run P w = .ok (.enter g args) w) (hcmp : CmpLays P g cb enc k cf blk off d0.size w0) (R : RowK enc k w0 blk off d0) (hsz : d0.size < 4611686018427387904) :
    ∀ (N a m b : Nat) (d : Array α) (w : World), b - a < N → d0.size = d.size → SWK enc k w0 blk off d w → a < m → m < b → b ≤ d.size → Stab.Srt key org d a m → Stab.Srt key org d m b → Stab.Cross org d a m b →
    Calls P 71 #[.slice (some ⟨blk, off, none⟩) d.size cap, .int .i64 a, .int .i64 m, .int .i64 b, .func (.func g) #[] cb] w fun e w' => e = .returned (.tuple #[]) ∧ ∃ d', Stab.Merged key org d d' a b ∧ SWK enc k w0 blk off d' w' := by
  intro N
  induction N with
  | zero => intro _ _ _ _ _ h; exact absurd h (Nat.not_lt_zero _)
  | succ N ih =>
    intro a m b d w hN hs S ham hmb hb h1 h2 hc
    by_cases c1 : m = a + 1
    · subst c1
      have := symMerge_one (P := P) L k aE zE enc key org cf hcf g cb blk off cap a b d0 d w0 w eg hcmp R hs S hmb hb (by omega) h2 hc
      rwa [show ((a : Int) + 1) = ((a + 1 : Nat) : Int) by omega] at this
    · by_cases c2 : b = m + 1
      · subst c2
        have := symMerge_last (P := P) L k aE zE enc key org cf hcf g cb blk off cap a m d0 d w0 w eg hcmp R hs S (by omega) hb (by omega) h1 hc
        rwa [show ((m : Int) + 1) = ((m + 1 : Nat) : Int) by omega] at this
      · by_cases c3 : (a + b) / 2 < m
        · exact symMerge_main (P := P) L k aE zE enc key org cf hcf g cb blk off cap a m b ((a + b) / 2) ((a + b) / 2 + m - b) ((a + b) / 2) d0 d w0 w eg hcmp R hs S (by omega) (by omega) hb (by omega) h1 h2 hc rfl (.inl ⟨c3, rfl, rfl⟩)
            (fun a' m' b' d' w' hlt hs' S' q1 q2 q3 q4 q5 q6 => ih a' m' b' d' w' (by omega) hs' S' q1 q2 q3 q4 q5 q6)
        · exact symMerge_main (P := P) L k aE zE enc key org cf hcf g cb blk off cap a m b ((a + b) / 2) a m d0 d w0 w eg hcmp R hs S (by omega) (by omega) hb (by omega) h1 h2 hc rfl (.inr ⟨by omega, rfl, rfl⟩)
            (fun a' m' b' d' w' hlt hs' S' q1 q2 q3 q4 q5 q6 => ih a' m' b' d' w' (by omega) hs' S' q1 q2 q3 q4 q5 q6)

/-- The shelf's numbers at this program. -/
def insRen : Ren := ⟨fun | 20 => 70 | n => n, fun | 22 => 45 | 24 => 49 | 25 => 98 | n => n, fun n => n⟩

theorem insBody : Try.f70 = { SlBodyF.n20 insRen with name := Try.f70.name } := by kernel_rfl

/-- The shelf's laying of slices.insertionSortCmpFunc. -/
theorem insLays (L : StabL P) : SlLaysF0.n20 P insRen :=
  { mixed := L.mixed
    f20 := ⟨Try.f70.name, by kernel_rfl, by rw [← insBody]; exact L.f70⟩
    t0 := L.t0, a0 := L.a0, z0 := L.z0, v0 := L.v0
    t3 := L.t3, a3 := L.a3, z3 := L.z3, v3 := L.v3
    t4 := L.t4, a4 := L.a4, z4 := L.z4, v4 := L.v4
    t22 := L.t45, a22 := L.a45, z22 := L.z45, v22 := L.v45
    t25 := L.t98, a25 := L.a98, z25 := L.z98, v25 := L.v98 }

/-- .. from a world of the sort's to a world of the sort's. -/
theorem insertion_w (L : StabL P) (k : Nat) (aE : ∀ w, (isAgg 49).run P w = .ok true w) (zE : ∀ w, (Go.sizeOf 49).run P w = .ok k w) (enc : α → List Value) (key : α → Int) (org : α → Nat) (cf : α → α → Int) (hcf : ∀ x y, cf x y < 0 ↔ key x < key y) (g : Nat) (cb : Array Value) (blk off cap a b : Nat) (d0 d : Array α) (w0 w : World)
    (eg : ∀ args w, (callFunc g args).run P w = .ok (.enter g args) w) (hcmp : CmpLays P g cb enc k cf blk off d0.size w0) (R : RowK enc k w0 blk off d0) (hs : d0.size = d.size) (S : SWK enc k w0 blk off d w) (hab : a ≤ b) (hb : b ≤ d.size) (hsz : d.size < 4611686018427387904)
    (ho : ∀ p q, a ≤ p → p < q → q < b → org d[p]! < org d[q]!) :
    Calls P 70 #[.slice (some ⟨blk, off, none⟩) d.size cap, .int .i64 a, .int .i64 b, .func (.func g) #[] cb] w fun e w' => e = .returned (.tuple #[]) ∧ ∃ d', Stab.Merged key org d d' a b ∧ SWK enc k w0 blk off d' w' := by
  have hC : CmpLays P g cb enc k cf blk off d.size w := fun m os dk hdk x y => by
    obtain ⟨n0, os0, rfl⟩ := S
    rw [sortWorldK_on enc k w0 blk off n0 m d dk os0 os R.hblk hdk]
    exact hcmp _ _ dk (by omega) x y
  have eLt : ltOf cf = Stab.ltK key := by
    funext x y
    unfold ltOf Stab.ltK
    rw [decide_eq_decide]; exact hcf x y
  have hI := Stab.ins_stable key org d a b hab hb ho
  have hc : Calls P 70 #[.slice (some ⟨blk, off, none⟩) d.size cap, .int .i64 a, .int .i64 b, .func (.func g) #[] cb] w fun e w' => e = .returned (.tuple #[]) ∧ ∃ n os, w' = sortWorldK enc k w blk off n (Sort.insertionSort (ltOf cf) d a b) os :=
    AnyQ.insertionSortCmpFunc (ρ := insRen) (insLays L) k aE zE enc R.hk R.h1 cf g cb blk off cap a b d w eg hC (S.holds R.hblk R.hH hs.symm) (S.lt R.hblk) hab hb hsz
  refine hc.mono ?_
  rintro e w' ⟨rfl, n, os, rfl⟩
  refine ⟨rfl, _, ⟨hI.1, hI.2⟩, ?_⟩
  rw [← eLt] at hI ⊢
  exact S.on R.hblk n _ os hI.1.1
end Go.Proofs.Qxb6613730a
