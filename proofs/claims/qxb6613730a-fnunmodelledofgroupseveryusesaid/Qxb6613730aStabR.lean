import Derived.Test.Qxb6613730aStabL
set_option linter.unusedVariables false
namespace Go.Proofs.Qxb6613730a
open Go.Shelf Go.RowKit Go.Lib Go.Sort
variable {P : Program} {α : Type} [Inhabited α]

set_option maxHeartbeats 4000000 in
set_option maxRecDepth 1000000 in
/-- slices.rotateCmpFunc. -/
theorem rotate_w (L : StabL P) (k : Nat) (aE : ∀ w, (isAgg 49).run P w = .ok true w) (zE : ∀ w, (Go.sizeOf 49).run P w = .ok k w) (enc : α → List Value) (fv : Value) (blk off cap a m b : Nat) (d0 d : Array α) (w0 w : World)
    (R : RowK enc k w0 blk off d0) (hs : d0.size = d.size) (S : SWK enc k w0 blk off d w) (ham : a < m) (hmb : m < b) (hb : b ≤ d.size) (hsz : d.size < 4611686018427387904) :
    Calls P 85 #[.slice (some ⟨blk, off, none⟩) d.size cap, .int .i64 a, .int .i64 m, .int .i64 b, fv] w fun e w' => e = .returned (.tuple #[]) ∧ SWK enc k w0 blk off (Stab.rot d a m b) w' := by
  have mixed := L.mixed; have t0 := L.t0; have a0 := L.a0; have z0 := L.z0; have v0 := L.v0; have t3 := L.t3; have a3 := L.a3; have z3 := L.z3; have v3 := L.v3; have t4 := L.t4; have a4 := L.a4; have z4 := L.z4; have v4 := L.v4; have t45 := L.t45; have a45 := L.a45; have z45 := L.z45; have v45 := L.v45
  have e94 : ∀ args w, (callFunc 94 args).run P w = .ok (.enter 94 args) w := enters_of L.f94 (by kernel_rfl) rfl
  have S0 : Aside (SWK enc k w0 blk off d w) := S
  clear S
  go_enter L.f85, Try.ntmps85
  go_wp2
  go_loopg [10, 11] (b - a) (fun kx s10 s11 wr => ∃ (i j : Nat) (dk : Array α), s10 = .int .i64 i ∧ s11 = .int .i64 j ∧ 0 < i ∧ 0 < j ∧ i ≤ m - a ∧ j ≤ b - m ∧ i + j ≤ kx ∧ dk.size = d.size ∧ Aside (SWK enc k w0 blk off dk wr) ∧ Hid (Stab.rot dk (m - i) m (m + j) = Stab.rot d a m b))
  case atStart => exact ⟨m - a, b - m, d, by congr 1; omega, by congr 1; omega, by omega, by omega, by omega, by omega, by omega, rfl, S0, (show _ = _ by rw [show m - (m - a) = a by omega, show m + (b - m) = b by omega])⟩
  case round =>
    clear S0
    obtain ⟨i, j, dk, rfl, rfl, hi0, hj0, him, hjb, hkx, hds, S1, HE⟩ := hrel
    have q1 : (0 : Int) < i := by omega
    have q2 : (0 : Int) < j := by omega
    have q3 : (i : Int) ≤ m := by omega
    by_cases hij : i = j
    · subst hij
      have hb1 : ((i : Int) != (i : Int)) = false := by simp
      have hc := swapRange_w (P := P) L k aE zE enc fv blk off cap (m - i) m i d0 dk w0 wr R (by omega) S1.out (by omega) (by omega) (by omega)
      rw [hds, show ((m - i : Nat) : Int) = (m : Int) - (i : Int) by omega] at hc
      have HF : Hid (Stab.swapN dk (m - i) m i = Stab.rot d a m b) := by
        show _ = _
        rw [← HE.out]; exact Stab.rot_last dk m i (by omega) (by omega)
      clear S1 HE
      go_wp2_with fail
      go_wp2_with (go_at_fn 94; refine hc.mono ?_; rintro e w1 ⟨rfl, hw1⟩)
      go_end0
      refine ⟨rfl, ?_⟩
      rw [← HF.out]
      exact hw1
    · have hb1 : ((i : Int) != (j : Int)) = true := by rw [bne_iff_ne]; omega
      by_cases hgt : j < i
      · have hgz : (j : Int) < (i : Int) := by omega
        have hc := swapRange_w (P := P) L k aE zE enc fv blk off cap (m - i) m j d0 dk w0 wr R (by omega) S1.out (by omega) (by omega) (by omega)
        rw [hds, show ((m - i : Nat) : Int) = (m : Int) - (i : Int) by omega] at hc
        have HF : Hid (Stab.rot (Stab.swapN dk (m - i) m j) (m - (i - j)) m (m + j) = Stab.rot d a m b) := by
          show _ = _
          rw [← HE.out]; exact Stab.rot_stepL dk m i j (by omega) (by omega) hgt
        clear S1 HE
        go_wp2_with (go_at_fn 94; refine hc.mono ?_; rintro e w1 ⟨rfl, hw1⟩)
        go_roundg (i - j + j)
        case measure => omega
        case rel => exact ⟨i - j, j, _, by congr 1; omega, rfl, by omega, hj0, by omega, hjb, Nat.le_refl _, by rw [Stab.swapN_size]; exact hds, hw1, HF⟩
      · have hgz : ¬ (j : Int) < (i : Int) := by omega
        have hc := swapRange_w (P := P) L k aE zE enc fv blk off cap (m - i) (m + j - i) i d0 dk w0 wr R (by omega) S1.out (by omega) (by omega) (by omega)
        rw [hds, show ((m - i : Nat) : Int) = (m : Int) - (i : Int) by omega, show ((m + j - i : Nat) : Int) = (m : Int) + (j : Int) - (i : Int) by omega] at hc
        have HF : Hid (Stab.rot (Stab.swapN dk (m - i) (m + j - i) i) (m - i) m (m + (j - i)) = Stab.rot d a m b) := by
          show _ = _
          rw [← HE.out]; exact Stab.rot_stepR dk m i j (by omega) (by omega) (by omega)
        clear S1 HE
        go_wp2_with (go_at_fn 94; refine hc.mono ?_; rintro e w1 ⟨rfl, hw1⟩)
        go_roundg (i + (j - i))
        case measure => omega
        case rel => exact ⟨i, j - i, _, rfl, by congr 1; omega, hi0, by omega, him, by omega, Nat.le_refl _, by rw [Stab.swapN_size]; exact hds, hw1, HF⟩

end Go.Proofs.Qxb6613730a
