import Derived.Test.Qxb6613730aStabT
import Derived.Test.Qxb6613730aStab3
set_option linter.unusedVariables false
namespace Go.Proofs.Qxb6613730a
open Go.Shelf Go.RowKit Go.Lib Go.Sort
variable {P : Program} {α : Type} [Inhabited α]

set_option maxHeartbeats 8000000 in
set_option maxRecDepth 1000000 in
/-- slices.stableCmpFunc. -/
theorem stable_w (L : StabL P) (k : Nat) (aE : ∀ w, (isAgg 49).run P w = .ok true w) (zE : ∀ w, (Go.sizeOf 49).run P w = .ok k w) (enc : α → List Value) (key : α → Int) (org : α → Nat) (cf : α → α → Int) (hcf : ∀ x y, cf x y < 0 ↔ key x < key y) (g : Nat) (cb : Array Value) (blk off cap : Nat) (d : Array α) (w : World)
    (eg : ∀ args w, (callFunc g args).run P w = .ok (.enter g args) w) (hcmp : CmpLays P g cb enc k cf blk off d.size w) (R : RowK enc k w blk off d) (hsz : d.size < 2305843009213693952) (horg : ∀ i, i < d.size → org d[i]! = i) :
    Calls P 53 #[.slice (some ⟨blk, off, none⟩) d.size cap, .int .i64 d.size, .func (.func g) #[] cb] w fun e w' => e = .returned (.tuple #[]) ∧ ∃ d', Stab.Merged key org d d' 0 d.size ∧ SWK enc k w blk off d' w' := by
  have mixed := L.mixed; have t0 := L.t0; have a0 := L.a0; have z0 := L.z0; have v0 := L.v0; have t3 := L.t3; have a3 := L.a3; have z3 := L.z3; have v3 := L.v3; have t4 := L.t4; have a4 := L.a4; have z4 := L.z4; have v4 := L.v4; have t45 := L.t45; have a45 := L.a45; have z45 := L.z45; have v45 := L.v45; have t98 := L.t98; have a98 := L.a98; have z98 := L.z98; have v98 := L.v98
  have e70 : ∀ args w, (callFunc 70 args).run P w = .ok (.enter 70 args) w := enters_of L.f70 (by kernel_rfl) rfl
  have e71 : ∀ args w, (callFunc 71 args).run P w = .ok (.enter 71 args) w := enters_of L.f71 (by kernel_rfl) rfl
  have INS : Aside (∀ (a b : Nat) (dk : Array α) (W : World), dk.size = d.size → SWK enc k w blk off dk W → a ≤ b → b ≤ d.size → (∀ p q, a ≤ p → p < q → q < b → org dk[p]! < org dk[q]!) →
      Calls P 70 #[.slice (some ⟨blk, off, none⟩) d.size cap, .int .i64 a, .int .i64 b, .func (.func g) #[] cb] W fun e w' => e = .returned (.tuple #[]) ∧ ∃ d', Stab.Merged key org dk d' a b ∧ SWK enc k w blk off d' w') := fun a b dk W hs S q1 q2 q3 => by
    have := insertion_w (P := P) L k aE zE enc key org cf hcf g cb blk off cap a b d dk w W eg hcmp R hs.symm S q1 (by omega) (by omega) q3
    rwa [hs] at this
  have SYM : Aside (∀ (a m b : Nat) (dk : Array α) (W : World), dk.size = d.size → SWK enc k w blk off dk W → a < m → m < b → b ≤ d.size → Stab.Srt key org dk a m → Stab.Srt key org dk m b → Stab.Cross org dk a m b →
      Calls P 71 #[.slice (some ⟨blk, off, none⟩) d.size cap, .int .i64 a, .int .i64 m, .int .i64 b, .func (.func g) #[] cb] W fun e w' => e = .returned (.tuple #[]) ∧ ∃ d', Stab.Merged key org dk d' a b ∧ SWK enc k w blk off d' w') := fun a m b dk W hs S q1 q2 q3 q4 q5 q6 => by
    have := symMerge_w (P := P) L k aE zE enc key org cf hcf g cb blk off cap d w eg hcmp R (by omega) (b - a + 1) a m b dk W (by omega) hs.symm S q1 q2 (by omega) q4 q5 q6
    rwa [hs] at this
  have S0 : Aside (SWK enc k w blk off d w) := SWK.start R.hH
  have P0 : Aside (Stab.Pass1 key org d d d.size 0) := Stab.pass1_start key org d d.size horg
  clear hcmp hcf R horg
  go_enter L.f53, Try.ntmps53
  go_wp2
  go_loopg [7, 8] d.size (fun kx s7 s8 wr => ∃ (a : Nat) (dk : Array α), s7 = .int .i64 a ∧ s8 = .int .i64 (a + 20 : Nat) ∧ a ≤ d.size ∧ 20 ∣ a ∧ d.size - a ≤ kx ∧ Aside (SWK enc k w blk off dk wr) ∧ Aside (Stab.Pass1 key org d dk d.size a))
  case atStart => exact ⟨0, d, rfl, rfl, Nat.zero_le _, Nat.dvd_zero _, by omega, S0, P0⟩
  case round =>
    clear S0 P0
    obtain ⟨a, dk, rfl, rfl, had, hdv, hkx, S1, P1⟩ := hrel
    by_cases hle : a + 20 ≤ d.size
    · have hlez : ((a + 20 : Nat) : Int) ≤ (d.size : Int) := by omega
      have hc := INS.out a (a + 20) dk wr P1.out.sz S1.out (by omega) hle (Stab.pass1_org key org d dk d.size a (a + 20) P1.out hle)
      clear S1
      go_wp2_with fail
      refine hc.mono ?_
      rintro _ w1 ⟨rfl, d1, M1, S1⟩
      have P2 : Aside (Stab.Pass1 key org d d1 d.size (a + 20)) := Stab.pass1_step key org d dk d1 d.size a P1.out (Nat.le_refl _) hdv hle M1
      have S2 : Aside (SWK enc k w blk off d1 w1) := S1
      clear P1 M1 S1 hc
      go_wp2
      go_roundg (d.size - (a + 20))
      case measure => omega
      case rel => exact ⟨a + 20, d1, rfl, by go_num, hle, by omega, Nat.le_refl _, S2, P2⟩
    · have hlez : decide ((a : Int) + 20 ≤ (d.size : Int)) = false := decide_eq_false (by omega)
      have hlez' : ¬ ((a : Int) + 20 ≤ (d.size : Int)) := by omega
      have hc := INS.out a d.size dk wr P1.out.sz S1.out had (Nat.le_refl _) (Stab.pass1_org key org d dk d.size a d.size P1.out (Nat.le_refl _))
      clear S1
      go_wp2_with fail
      refine hc.mono ?_
      rintro _ w1 ⟨rfl, d1, M1, S1⟩
      have P2 : Aside (d1.size = d.size ∧ PermIn 0 d.size d d1 ∧ Stab.Blks key org 20 d.size d1) := ⟨M1.1.1.trans P1.out.sz, Stab.pass1_end key org d dk d1 d.size a P1.out (Nat.le_refl _) hdv had (by omega) M1⟩
      have S2 : Aside (SWK enc k w blk off d1 w1) := S1
      clear P1 M1 S1 hc
      go_wp2
      go_loopg [6] (d.size + 20) (fun kx s6 wr => ∃ (bs : Nat) (dk : Array α), s6 = .int .i64 bs ∧ 20 ≤ bs ∧ bs ≤ 2 * d.size + 20 ∧ d.size + 20 - bs ≤ kx ∧ Aside (SWK enc k w blk off dk wr) ∧ Aside (dk.size = d.size ∧ PermIn 0 d.size d dk ∧ Stab.Blks key org bs d.size dk))
      case atStart => exact ⟨20, d1, rfl, Nat.le_refl _, by omega, by omega, S2, P2⟩
      case round =>
        clear S2 P2
        obtain ⟨bs, dk, rfl, hbs, hbs2, hkx, S1, P1⟩ := hrel
        by_cases hlt : bs < d.size
        · have hltz : (bs : Int) < (d.size : Int) := by omega
          have P2 : Aside (Stab.Pass2 key org d dk bs d.size 0) := Stab.pass2_start key org d dk bs d.size P1.out.1 P1.out.2.1 P1.out.2.2
          clear P1
          go_wp2
          go_loopg [7, 8] d.size (fun kx s7 s8 wr => ∃ (a2 : Nat) (dk : Array α), s7 = .int .i64 a2 ∧ s8 = .int .i64 (a2 + 2 * bs : Nat) ∧ a2 ≤ d.size ∧ Hid (2 * bs ∣ a2) ∧ d.size - a2 ≤ kx ∧ Aside (SWK enc k w blk off dk wr) ∧ Aside (Stab.Pass2 key org d dk bs d.size a2))
          case atStart => exact ⟨0, dk, rfl, by congr 1; omega, Nat.zero_le _, Nat.dvd_zero _, by omega, S1, P2⟩
          case round =>
            clear S1 P2
            obtain ⟨a2, dk, rfl, rfl, had2, HDV, hkx2, S1, P1⟩ := hrel
            by_cases hle2 : a2 + 2 * bs ≤ d.size
            · have hlez2 : (a2 : Int) + 2 * (bs : Int) ≤ (d.size : Int) := by omega
              have TB := Stab.pass2_two key org d dk bs d.size a2 P1.out (by omega) HDV.out (by omega)
              rw [Nat.min_eq_left hle2] at TB
              have hc := SYM.out a2 (a2 + bs) (a2 + 2 * bs) dk wr P1.out.sz S1.out (by omega) (by omega) hle2 TB.1.1 TB.2.1 (Stab.blk_cross key org dk _ _ _ TB.1 TB.2)
              clear S1 TB
              rw [show ((a2 + bs : Nat) : Int) = (a2 : Int) + (bs : Int) by omega, show ((a2 + 2 * bs : Nat) : Int) = (a2 : Int) + 2 * (bs : Int) by omega] at hc
              go_wp2_with fail
              refine hc.mono ?_
              rintro _ w1 ⟨rfl, d1, M1, S1⟩
              have P2 : Aside (Stab.Pass2 key org d d1 bs d.size (a2 + 2 * bs)) := Stab.pass2_step key org d dk d1 bs d.size a2 P1.out (by omega) (Nat.le_refl _) HDV.out hle2 M1
              have S2 : Aside (SWK enc k w blk off d1 w1) := S1
              clear P1 M1 S1 hc
              go_wp2
              go_roundg (d.size - (a2 + 2 * bs))
              case measure => omega
              case rel => exact ⟨a2 + 2 * bs, d1, by go_num, by first | rfl | go_num | (congr 1; omega), hle2, (Nat.dvd_add_right HDV.out).2 (Nat.dvd_refl _), Nat.le_refl _, S2, P2⟩
            · have hlez2 : ¬ ((a2 : Int) + 2 * (bs : Int) ≤ (d.size : Int)) := by omega
              by_cases hm : a2 + bs < d.size
              · have hmz : (a2 : Int) + (bs : Int) < (d.size : Int) := by omega
                have TB := Stab.pass2_two key org d dk bs d.size a2 P1.out (by omega) HDV.out hm
                rw [Nat.min_eq_right (by omega)] at TB
                have hc := SYM.out a2 (a2 + bs) d.size dk wr P1.out.sz S1.out (by omega) (by omega) (Nat.le_refl _) TB.1.1 TB.2.1 (Stab.blk_cross key org dk _ _ _ TB.1 TB.2)
                clear S1 TB
                rw [show ((a2 + bs : Nat) : Int) = (a2 : Int) + (bs : Int) by omega] at hc
                go_wp2_with fail
                refine hc.mono ?_
                rintro _ w1 ⟨rfl, d1, M1, S1⟩
                have P2 : Aside (d1.size = d.size ∧ PermIn 0 d.size d d1 ∧ Stab.Blks key org (2 * bs) d.size d1) := Stab.pass2_end key org d dk d1 bs d.size a2 P1.out (by omega) (Nat.le_refl _) HDV.out hm (by omega) M1
                have S2 : Aside (SWK enc k w blk off d1 w1) := S1
                clear P1 M1 S1 hc
                go_wp2
                go_roundg (d.size + 20 - 2 * bs)
                case measure => omega
                case rel => exact ⟨2 * bs, d1, by congr 1; omega, by omega, by omega, Nat.le_refl _, S2, P2⟩
              · have hmz : ¬ ((a2 : Int) + (bs : Int) < (d.size : Int)) := by omega
                have P2 : Aside (dk.size = d.size ∧ PermIn 0 d.size d dk ∧ Stab.Blks key org (2 * bs) d.size dk) := ⟨P1.out.sz, Stab.pass2_idle key org d dk bs d.size a2 P1.out (by omega) HDV.out (by omega) had2⟩
                clear P1
                go_wp2
                go_roundg (d.size + 20 - 2 * bs)
                case measure => omega
                case rel => exact ⟨2 * bs, dk, by congr 1; omega, by omega, by omega, Nat.le_refl _, S1, P2⟩
        · have hltz : ¬ (bs : Int) < (d.size : Int) := by omega
          have F : Aside (∃ d', Stab.Merged key org d d' 0 d.size ∧ SWK enc k w blk off d' wr) := ⟨dk, ⟨P1.out.2.1, Stab.blks_all key org bs d.size dk P1.out.2.2 (by omega)⟩, S1.out⟩
          clear P1 S1
          go_wp2
          go_end0
          exact ⟨rfl, F.out⟩

set_option maxHeartbeats 4000000 in
set_option maxRecDepth 1000000 in
/-- **slices.SortStableFunc: the row holds a permutation of what it held, sorted by (key, place).** -/
theorem sortStable_w (L : StabL P) (k : Nat) (aE : ∀ w, (isAgg 49).run P w = .ok true w) (zE : ∀ w, (Go.sizeOf 49).run P w = .ok k w) (enc : α → List Value) (key : α → Int) (org : α → Nat) (cf : α → α → Int) (hcf : ∀ x y, cf x y < 0 ↔ key x < key y) (g : Nat) (cb : Array Value) (blk off cap : Nat) (d : Array α) (w : World)
    (eg : ∀ args w, (callFunc g args).run P w = .ok (.enter g args) w) (hcmp : CmpLays P g cb enc k cf blk off d.size w) (R : RowK enc k w blk off d) (hsz : d.size < 2305843009213693952) (horg : ∀ i, i < d.size → org d[i]! = i) :
    Calls P 44 #[.slice (some ⟨blk, off, none⟩) d.size cap, .func (.func g) #[] cb] w fun e w' => e = .returned (.tuple #[]) ∧ ∃ d', Stab.Merged key org d d' 0 d.size ∧ SWK enc k w blk off d' w' := by
  have mixed := L.mixed; have t0 := L.t0; have a0 := L.a0; have z0 := L.z0; have v0 := L.v0; have t3 := L.t3; have a3 := L.a3; have z3 := L.z3; have v3 := L.v3; have t4 := L.t4; have a4 := L.a4; have z4 := L.z4; have v4 := L.v4; have t45 := L.t45; have a45 := L.a45; have z45 := L.z45; have v45 := L.v45; have t98 := L.t98; have a98 := L.a98; have z98 := L.z98; have v98 := L.v98
  have e53 : ∀ args w, (callFunc 53 args).run P w = .ok (.enter 53 args) w := enters_of L.f53 (by kernel_rfl) rfl
  have hc := stable_w (P := P) L k aE zE enc key org cf hcf g cb blk off cap d w eg hcmp R hsz horg
  clear hcmp hcf R horg
  go_enter L.f44, Try.ntmps44
  go_wp2_with fail
  refine hc.mono ?_
  rintro _ w1 ⟨rfl, d1, M1, S1⟩
  have F : Aside (∃ d', Stab.Merged key org d d' 0 d.size ∧ SWK enc k w blk off d' w1) := ⟨d1, M1, S1⟩
  clear M1 S1 hc
  go_wp2
  go_end0
  exact ⟨rfl, F.out⟩
end Go.Proofs.Qxb6613730a
