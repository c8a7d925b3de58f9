import Derived.Test.Qxb6613730aStabN
import Derived.Deep.Cut
import Derived.Deep.CutRange
set_option linter.unusedVariables false
namespace Go.Proofs.Qxb6613730a
open Go.Shelf Go.RowKit Go.Lib Go.Sort
variable {P : Program} {α : Type} [Inhabited α]

set_option maxHeartbeats 8000000 in
set_option maxRecDepth 1000000 in
/-- slices.symMergeCmpFunc, its main road: both parts have two elements or more. -/
theorem symMerge_main (L : StabL P) (k : Nat) (aE : ∀ w, (isAgg 49).run P w = .ok true w) (zE : ∀ w, (Go.sizeOf 49).run P w = .ok k w) (enc : α → List Value) (key : α → Int) (org : α → Nat) (cf : α → α → Int) (hcf : ∀ x y, cf x y < 0 ↔ key x < key y) (g : Nat) (cb : Array Value) (blk off cap a m b mid s0 r0 : Nat) (d0 d : Array α) (w0 w : World)
    (eg : ∀ args w, (callFunc g args).run P w = .ok (.enter g args) w) (hcmp : CmpLays P g cb enc k cf blk off d0.size w0) (R : RowK enc k w0 blk off d0) (hs : d0.size = d.size) (S : SWK enc k w0 blk off d w) (ham : a + 1 < m) (hmb : m + 1 < b) (hb : b ≤ d.size) (hsz : d.size < 4611686018427387904)
    (h1 : Stab.Srt key org d a m) (h2 : Stab.Srt key org d m b) (hc : Stab.Cross org d a m b)
    (hmid : mid = (a + b) / 2) (hcase : (mid < m ∧ s0 = mid + m - b ∧ r0 = mid) ∨ (m ≤ mid ∧ s0 = a ∧ r0 = m))
    (ih : ∀ (a' m' b' : Nat) (d' : Array α) (w' : World), b' - a' < b - a → d0.size = d'.size → SWK enc k w0 blk off d' w' → a' < m' → m' < b' → b' ≤ d'.size → Stab.Srt key org d' a' m' → Stab.Srt key org d' m' b' → Stab.Cross org d' a' m' b' →
      Calls P 71 #[.slice (some ⟨blk, off, none⟩) d'.size cap, .int .i64 a', .int .i64 m', .int .i64 b', .func (.func g) #[] cb] w' fun e w'' => e = .returned (.tuple #[]) ∧ ∃ d'', Stab.Merged key org d' d'' a' b' ∧ SWK enc k w0 blk off d'' w'') :
    Calls P 71 #[.slice (some ⟨blk, off, none⟩) d.size cap, .int .i64 a, .int .i64 m, .int .i64 b, .func (.func g) #[] cb] w fun e w' => e = .returned (.tuple #[]) ∧ ∃ d', Stab.Merged key org d d' a b ∧ SWK enc k w0 blk off d' w' := by
  have mixed := L.mixed; have t0 := L.t0; have a0 := L.a0; have z0 := L.z0; have v0 := L.v0; have t3 := L.t3; have a3 := L.a3; have z3 := L.z3; have v3 := L.v3; have t4 := L.t4; have a4 := L.a4; have z4 := L.z4; have v4 := L.v4; have t45 := L.t45; have a45 := L.a45; have z45 := L.z45; have v45 := L.v45; have t98 := L.t98; have a98 := L.a98; have z98 := L.z98; have v98 := L.v98; have t110 := L.t110; have a110 := L.a110; have z110 := L.z110; have v110 := L.v110
  have e71 : ∀ args w, (callFunc 71 args).run P w = .ok (.enter 71 args) w := enters_of L.f71 (by kernel_rfl) rfl
  have e85 : ∀ args w, (callFunc 85 args).run P w = .ok (.enter 85 args) w := enters_of L.f85 (by kernel_rfl) rfl
  have S0 : Aside (SWK enc k w0 blk off d w) := S
  clear S
  have HCF0 : Hid (∀ x y, cf x y < 0 ↔ key x < key y) := hcf
  have IH : Aside _ := ih
  clear hcf ih
  have hone : ((m : Int) - (a : Int) == 1) = false := by rw [beq_eq_false_iff_ne]; omega
  have htwo : ((b : Int) - (m : Int) == 1) = false := by rw [beq_eq_false_iff_ne]; omega
  have HZ : Hid (((a : Int) + (b : Int)) / 2 = (mid : Int)) := (show _ = _ by omega)
  have q1 : a + 1 < mid := by omega
  have q2 : mid + 1 < b := by omega
  have q3 : 2 * mid ≤ a + b := by omega
  have q4 : a + b ≤ 2 * mid + 1 := by omega
  have HMID : Hid (mid = (a + b) / 2) := hmid
  clear hmid
  have hs0 : a ≤ s0 := by omega
  have hsr : s0 ≤ r0 := by omega
  have hr0 : r0 ≤ m := by omega
  have hrm : r0 ≤ mid := by omega
  have hnb : mid + m - s0 ≤ b := by omega
  have HC : Hid ((mid < m ∧ s0 = mid + m - b ∧ r0 = mid) ∨ (m ≤ mid ∧ s0 = a ∧ r0 = m)) := hcase
  rcases hcase with ⟨hm1, e1, e2⟩ | ⟨hm1, e1, e2⟩
  all_goals
    have E1 : Hid _ := e1
    have E2 : Hid _ := e2
    clear e1 e2
    have hmz : ((a : Int) + (b : Int)) / 2 < (m : Int) ∨ ¬ ((a : Int) + (b : Int)) / 2 < (m : Int) := Classical.em _
    first
      | have hmz1 : ((a : Int) + (b : Int)) / 2 < (m : Int) := by rw [HZ.out]; omega
      | have hmz1 : ¬ ((a : Int) + (b : Int)) / 2 < (m : Int) := by rw [HZ.out]; omega
    clear hmz
    go_enter L.f71, Try.ntmps71
    go_wp2
    rw [HZ.out]
    go_loopg [20, 21] (b - a) (fun kx s20 s21 wr => ∃ (s r : Nat), s20 = .int .i64 s ∧ s21 = .int .i64 r ∧ s0 ≤ s ∧ s ≤ r ∧ r ≤ r0 ∧ r - s ≤ kx ∧ Aside (SWK enc k w0 blk off d wr) ∧ Hid (s = s0 ∨ key d[s - 1]! ≤ key d[mid + m - s]!) ∧ Hid (r = r0 ∨ key d[mid + m - 1 - r]! < key d[r]!))
    case atStart => exact ⟨s0, r0, by first | (rw [E1.out]; done) | (rw [E1.out]; congr 1; omega), by rw [E2.out], Nat.le_refl _, hsr, Nat.le_refl _, by omega, S0, .inl rfl, .inl rfl⟩
    case round =>
      clear S0 E1 E2
      obtain ⟨s, r, rfl, rfl, hss, hsr', hrr, hkx, S1, HI, HJ⟩ := hrel
      by_cases hlt : s < r
      · have hltz : (s : Int) < (r : Int) := by omega
        obtain ⟨c, hh⟩ : ∃ h : Nat, (s + r) / 2 = h := ⟨_, rfl⟩
        have hh1 : s ≤ c := by omega
        have hh2 : c < r := by omega
        have HZ2 : Hid (((s : Int) + (r : Int)) / 2 = (c : Int)) := (show _ = _ by omega)
        clear hh
        go_wp2_with fail
        rw [HZ2.out]
        obtain ⟨pc, hpc⟩ : ∃ pc : Nat, mid + m - 1 - c = pc := ⟨_, rfl⟩
        have hpz : ((mid : Int) + (m : Int) - 1 - (c : Int)).toNat = pc := by omega
        have hpp : (c : Int) ≤ (mid : Int) + (m : Int) - 1 := by omega
        have hpb : (mid : Int) + (m : Int) - 1 - (c : Int) < (d.size : Int) := by omega
        have rpz : IntKind.i64.wrap ((mid : Int) + (m : Int) - 1 - (c : Int)) = (mid : Int) + (m : Int) - 1 - (c : Int) := by rw [IntKind.wrap_i64]; omega
        have HPC : Hid (mid + m - 1 - c = pc) := hpc
        have bh : (c : Int) < (d.size : Int) := by omega
        have bp : (pc : Int) < (d.size : Int) := by omega
        have lh := S1.out.ld R (by omega) P pc (by omega)
        have la := S1.out.ld R (by omega) P c (by omega)
        have hcg := S1.out.cmp hcmp (by omega) d[pc]! d[c]!
        have SG : Aside (∀ nq osq, SWK enc k w0 blk off d (grow (wr.drewN nq) osq)) := fun nq osq => S1.out.grown nq osq
        have HCF : Hid (cf d[pc]! d[c]! < 0 ↔ key d[pc]! < key d[c]!) := HCF0.out _ _
        clear S1 hpc
        generalize hx : d[pc]! = x at lh hcg HCF
        generalize hy : d[c]! = y at la hcg HCF
        have HX : Hid (d[pc]! = x) := hx
        have HY : Hid (d[c]! = y) := hy
        clear hx hy
        go_quiet_grown (first | (go_at_fn g; refine Calls.grown_of (hcg _ _)))
        clear lh la hcg
        have S2 : Aside (SWK enc k w0 blk off d (grow (wr.drewN nq) osq)) := SG.out nq osq
        clear SG hpz rpz
        generalize grow (wr.drewN nq) osq = w2 at S2 ⊢
        by_cases hlv : cf x y < 0
        · have hd : (!decide (cf x y < 0)) = false := by rw [decide_eq_true hlv]; rfl
          rw [hd]
          go_wp2
          go_roundg (c - s)
          case measure => omega
          case rel => exact ⟨s, c, rfl, rfl, hss, hh1, by omega, Nat.le_refl _, S2, HI, .inr (by rw [HPC.out, HX.out, HY.out]; exact HCF.out.1 hlv)⟩
        · have hd : (!decide (cf x y < 0)) = true := by rw [decide_eq_false hlv]; rfl
          rw [hd]
          go_wp2
          go_roundg (r - (c + 1))
          case measure => omega
          case rel => exact ⟨c + 1, r, by go_num, rfl, by omega, by omega, hrr, Nat.le_refl _, S2, .inr (by rw [Nat.add_sub_cancel, show mid + m - (c + 1) = pc by have := HPC.out; omega, HX.out, HY.out]; have := HCF.out; omega), HJ⟩
      · have hltz : ¬ (s : Int) < (r : Int) := by omega
        obtain rfl : s = r := by omega
        obtain ⟨e, he⟩ : ∃ e : Nat, mid + m - s = e := ⟨_, rfl⟩
        have hse : s + (e - m) = mid := by omega
        have hme : m ≤ e := by omega
        have heb : e ≤ b := by omega
        have hem : mid ≤ e := by omega
        have hsm : s ≤ m := by omega
        have has : a ≤ s := by omega
        have HEZ : Hid ((mid : Int) + (m : Int) - (s : Int) = (e : Int)) := (show _ = _ by omega)
        have HCUT : Hid (Stab.Cut key org d a s m e b) := by
          refine Stab.cut_of key org d a s m e b has hsm hme heb hb h1 h2 hc ?_ ?_
          · rcases HI.out with h | h
            · have := HC.out; omega
            · by_cases hsa : s = a
              · exact .inl hsa
              · by_cases heb' : e = b
                · exact .inr (.inl heb')
                · rw [he] at h
                  have := hc (s - 1) e (by omega) (by omega) hme (by omega)
                  exact .inr (.inr (show _ ∨ _ by omega))
          · rcases HJ.out with h | h
            · have := HC.out; omega
            · rw [show mid + m - 1 - s = e - 1 by omega] at h
              exact .inr (.inr (.inl h))
        have HSE : Hid (s + (e - m) = mid) := hse
        clear HI HJ h1 h2 hc he hse
        have hsR : (Stab.rot d s m e).size = d.size := Stab.rot_size _ _ _ _
        -- what the two recursions owe, from the rotated row on
        have REC1 : Aside (∀ W, SWK enc k w0 blk off (Stab.rot d s m e) W → a < s → s < mid → Calls P 71 #[.slice (some ⟨blk, off, none⟩) d.size cap, .int .i64 a, .int .i64 s, .int .i64 mid, .func (.func g) #[] cb] W fun e1 w'' => e1 = .returned (.tuple #[]) ∧ ∃ d'', Stab.Merged key org (Stab.rot d s m e) d'' a mid ∧ SWK enc k w0 blk off d'' w'') := fun W SW q5 q6 => by
          have C := HCUT.out
          have := IH.out a s mid (Stab.rot d s m e) W (by omega) (by omega) SW q5 q6 (by omega) C.srtL (by have := C.srtM1; rwa [HSE.out] at this) (by have := C.cross1; rwa [HSE.out] at this)
          rwa [hsR] at this
        have REC2 : Aside (∀ W d1, Stab.Merged key org (Stab.rot d s m e) d1 a mid → SWK enc k w0 blk off d1 W → mid < e → e < b → Calls P 71 #[.slice (some ⟨blk, off, none⟩) d.size cap, .int .i64 mid, .int .i64 e, .int .i64 b, .func (.func g) #[] cb] W fun e1 w'' => e1 = .returned (.tuple #[]) ∧ ∃ d'', Stab.Merged key org d1 d'' mid b ∧ SWK enc k w0 blk off d'' w'') := fun W d1 M1 SW q5 q6 => by
          have C := HCUT.out
          have e1 : ∀ t, mid ≤ t → d1[t]! = (Stab.rot d s m e)[t]! := fun t ht => M1.1.2.1 t (.inr ht)
          have hs1 : d1.size = d.size := by rw [M1.1.1, hsR]
          have := IH.out mid e b d1 W (by omega) (by omega) SW q5 q6 (by omega)
            (fun i j hi hij hj => by rw [e1 i hi, e1 j (by omega)]; exact C.srtM2 i j (by rw [HSE.out]; exact hi) hij hj)
            (fun i j hi hij hj => by rw [e1 i (by omega), e1 j (by omega)]; exact C.srtR i j hi hij hj)
            (fun i j hi hij hj hj' => by rw [e1 i hi, e1 j (by omega)]; exact C.cross2 i j (by rw [HSE.out]; exact hi) hij hj hj')
          rwa [hs1] at this
        have FIN : Aside (∀ d1 d2, Stab.Merged key org (Stab.rot d s m e) d1 a mid → Stab.Merged key org d1 d2 mid b → Stab.Merged key org d d2 a b) := fun d1 d2 M1 M2 =>
          Stab.merged_of key org d d1 d2 a s m e b has hsm hme heb hb HCUT.out (by rw [HSE.out]; exact M1) (by rw [HSE.out]; exact M2)
        have IDLE1 : Aside (s ≤ a ∨ mid ≤ s → Stab.Merged key org (Stab.rot d s m e) (Stab.rot d s m e) a mid) := fun q =>
          Stab.merged_idle key org _ a s mid HCUT.out.srtL (by have := HCUT.out.srtM1; rwa [HSE.out] at this) q
        have IDLE2 : Aside (∀ d1, Stab.Merged key org (Stab.rot d s m e) d1 a mid → e ≤ mid ∨ b ≤ e → Stab.Merged key org d1 d1 mid b) := fun d1 M1 q => by
          have C := HCUT.out
          have e1 : ∀ t, mid ≤ t → d1[t]! = (Stab.rot d s m e)[t]! := fun t ht => M1.1.2.1 t (.inr ht)
          exact Stab.merged_idle key org d1 mid e b (fun i j hi hij hj => by rw [e1 i hi, e1 j (by omega)]; exact C.srtM2 i j (by rw [HSE.out]; exact hi) hij hj)
            (fun i j hi hij hj => by rcases q with q | q; · rw [e1 i (by omega), e1 j (by omega)]; exact C.srtR i j hi hij hj
                                     · omega) q
        clear HCUT IH
        by_cases g1 : s < m
        · by_cases g2 : m < e
          · by_cases g3 : a < s
            · by_cases g4 : e < b
              · -- rotate, both recursions
                have hez : (mid : Int) + (m : Int) - (s : Int) = (e : Int) := HEZ.out
                have z0 : (s : Int) < (m : Int) := by omega
                have z1 : (m : Int) < (e : Int) := by omega
                have z2 : (a : Int) < (s : Int) := by omega
                have z3 : (s : Int) < (mid : Int) := by omega
                have z4 : (mid : Int) < (e : Int) := by omega
                have z5 : (e : Int) < (b : Int) := by omega
                have hc85 := rotate_w (P := P) L k aE zE enc (.func (.func g) #[] cb) blk off cap s m e d0 d w0 wr R hs S1.out (by omega) (by omega) (by omega) hsz
                clear S1
                go_wp2_with fail
                refine hc85.mono ?_
                rintro _ w1 ⟨rfl, SR⟩
                clear hc85
                have c71 := REC1.out w1 SR (by omega) (by omega)
                clear SR
                go_wp2_with fail
                refine c71.mono ?_
                rintro _ w2 ⟨rfl, d1, M1, SW1⟩
                clear c71
                have MM1 : Aside _ := M1
                clear M1
                have c72 := REC2.out w2 d1 MM1.out SW1 (by omega) (by omega)
                clear SW1
                go_wp2_with fail
                refine c72.mono ?_
                rintro _ w3 ⟨rfl, d2, M2, SW2⟩
                clear c72
                have F : Aside (∃ d', Stab.Merged key org d d' a b ∧ SWK enc k w0 blk off d' w3) := ⟨d2, FIN.out d1 d2 MM1.out M2, SW2⟩
                clear M2 SW2
                go_wp2
                go_end0
                exact ⟨rfl, F.out⟩
              · -- rotate, the left one
                have hez : (mid : Int) + (m : Int) - (s : Int) = (e : Int) := HEZ.out
                have z0 : (s : Int) < (m : Int) := by omega
                have z1 : (m : Int) < (e : Int) := by omega
                have z2 : (a : Int) < (s : Int) := by omega
                have z3 : (s : Int) < (mid : Int) := by omega
                have z4 : (mid : Int) < (e : Int) := by omega
                have z5 : ¬ (e : Int) < (b : Int) := by omega
                have hc85 := rotate_w (P := P) L k aE zE enc (.func (.func g) #[] cb) blk off cap s m e d0 d w0 wr R hs S1.out (by omega) (by omega) (by omega) hsz
                clear S1
                go_wp2_with fail
                refine hc85.mono ?_
                rintro _ w1 ⟨rfl, SR⟩
                clear hc85
                have c71 := REC1.out w1 SR (by omega) (by omega)
                clear SR
                go_wp2_with fail
                refine c71.mono ?_
                rintro _ w2 ⟨rfl, d1, M1, SW1⟩
                clear c71
                have MM1 : Aside _ := M1
                clear M1
                have F : Aside (∃ d', Stab.Merged key org d d' a b ∧ SWK enc k w0 blk off d' w2) := ⟨d1, FIN.out d1 d1 MM1.out (IDLE2.out d1 MM1.out (by omega)), SW1⟩
                clear SW1
                go_wp2
                go_end0
                exact ⟨rfl, F.out⟩
            · by_cases g4 : e < b
              · -- rotate, the right one
                have hez : (mid : Int) + (m : Int) - (s : Int) = (e : Int) := HEZ.out
                have z0 : (s : Int) < (m : Int) := by omega
                have z1 : (m : Int) < (e : Int) := by omega
                have z2 : ¬ (a : Int) < (s : Int) := by omega
                have z3 : (s : Int) < (mid : Int) := by omega
                have z4 : (mid : Int) < (e : Int) := by omega
                have z5 : (e : Int) < (b : Int) := by omega
                have hc85 := rotate_w (P := P) L k aE zE enc (.func (.func g) #[] cb) blk off cap s m e d0 d w0 wr R hs S1.out (by omega) (by omega) (by omega) hsz
                clear S1
                go_wp2_with fail
                refine hc85.mono ?_
                rintro _ w1 ⟨rfl, SR⟩
                clear hc85
                obtain ⟨d1, M1, SW1⟩ : ∃ d1, Stab.Merged key org (Stab.rot d s m e) d1 a mid ∧ SWK enc k w0 blk off d1 w1 := ⟨_, IDLE1.out (by omega), SR⟩
                clear SR
                have MM1 : Aside _ := M1
                clear M1
                have c72 := REC2.out w1 d1 MM1.out SW1 (by omega) (by omega)
                clear SW1
                go_wp2_with fail
                refine c72.mono ?_
                rintro _ w3 ⟨rfl, d2, M2, SW2⟩
                clear c72
                have F : Aside (∃ d', Stab.Merged key org d d' a b ∧ SWK enc k w0 blk off d' w3) := ⟨d2, FIN.out d1 d2 MM1.out M2, SW2⟩
                clear M2 SW2
                go_wp2
                go_end0
                exact ⟨rfl, F.out⟩
              · -- rotate alone
                have hez : (mid : Int) + (m : Int) - (s : Int) = (e : Int) := HEZ.out
                have z0 : (s : Int) < (m : Int) := by omega
                have z1 : (m : Int) < (e : Int) := by omega
                have z2 : ¬ (a : Int) < (s : Int) := by omega
                have z3 : (s : Int) < (mid : Int) := by omega
                have z4 : (mid : Int) < (e : Int) := by omega
                have z5 : ¬ (e : Int) < (b : Int) := by omega
                have hc85 := rotate_w (P := P) L k aE zE enc (.func (.func g) #[] cb) blk off cap s m e d0 d w0 wr R hs S1.out (by omega) (by omega) (by omega) hsz
                clear S1
                go_wp2_with fail
                refine hc85.mono ?_
                rintro _ w1 ⟨rfl, SR⟩
                clear hc85
                obtain ⟨d1, M1, SW1⟩ : ∃ d1, Stab.Merged key org (Stab.rot d s m e) d1 a mid ∧ SWK enc k w0 blk off d1 w1 := ⟨_, IDLE1.out (by omega), SR⟩
                clear SR
                have MM1 : Aside _ := M1
                clear M1
                have F : Aside (∃ d', Stab.Merged key org d d' a b ∧ SWK enc k w0 blk off d' w1) := ⟨d1, FIN.out d1 d1 MM1.out (IDLE2.out d1 MM1.out (by omega)), SW1⟩
                clear SW1
                go_wp2
                go_end0
                exact ⟨rfl, F.out⟩
          · by_cases g3 : mid < m
            · -- e = m: the right one
              have hez : (mid : Int) + (m : Int) - (s : Int) = (e : Int) := HEZ.out
              have z0 : (s : Int) < (m : Int) := by omega
              have z1 : ¬ (m : Int) < (e : Int) := by omega
              have z2 : (a : Int) < (s : Int) := by omega
              have z3 : ¬ (s : Int) < (mid : Int) := by omega
              have z4 : (mid : Int) < (e : Int) := by omega
              have z5 : (e : Int) < (b : Int) := by omega
              have SR : SWK enc k w0 blk off (Stab.rot d s m e) wr := by rw [Stab.rot_none d s m e hsm hme (by omega) (by omega)]; exact S1.out
              clear S1
              obtain ⟨d1, M1, SW1⟩ : ∃ d1, Stab.Merged key org (Stab.rot d s m e) d1 a mid ∧ SWK enc k w0 blk off d1 wr := ⟨_, IDLE1.out (by omega), SR⟩
              clear SR
              have MM1 : Aside _ := M1
              clear M1
              have c72 := REC2.out wr d1 MM1.out SW1 (by omega) (by omega)
              clear SW1
              go_wp2_with fail
              refine c72.mono ?_
              rintro _ w3 ⟨rfl, d2, M2, SW2⟩
              clear c72
              have F : Aside (∃ d', Stab.Merged key org d d' a b ∧ SWK enc k w0 blk off d' w3) := ⟨d2, FIN.out d1 d2 MM1.out M2, SW2⟩
              clear M2 SW2
              go_wp2
              go_end0
              exact ⟨rfl, F.out⟩
            · have := HSE.out; omega
        · first
            | (exfalso; omega)
            | (by_cases g3 : m < mid
               · -- s = m: the left one
                 have hez : (mid : Int) + (m : Int) - (s : Int) = (e : Int) := HEZ.out
                 have z0 : ¬ (s : Int) < (m : Int) := by omega
                 have z1 : (a : Int) < (s : Int) := by omega
                 have z2 : (s : Int) < (mid : Int) := by omega
                 have z3 : ¬ (mid : Int) < (e : Int) := by omega
                 have SR : SWK enc k w0 blk off (Stab.rot d s m e) wr := by rw [Stab.rot_none d s m e hsm hme (by omega) (by omega)]; exact S1.out
                 clear S1
                 have c71 := REC1.out wr SR (by omega) (by omega)
                 clear SR
                 go_wp2_with fail
                 refine c71.mono ?_
                 rintro _ w2 ⟨rfl, d1, M1, SW1⟩
                 clear c71
                 have MM1 : Aside _ := M1
                 clear M1
                 have F : Aside (∃ d', Stab.Merged key org d d' a b ∧ SWK enc k w0 blk off d' w2) := ⟨d1, FIN.out d1 d1 MM1.out (IDLE2.out d1 MM1.out (by omega)), SW1⟩
                 clear SW1
                 go_wp2
                 go_end0
                 exact ⟨rfl, F.out⟩
               · -- s = m = mid: nothing
                 have hez : (mid : Int) + (m : Int) - (s : Int) = (e : Int) := HEZ.out
                 have z0 : ¬ (s : Int) < (m : Int) := by omega
                 have z1 : (a : Int) < (s : Int) := by omega
                 have z2 : ¬ (s : Int) < (mid : Int) := by omega
                 have z3 : ¬ (mid : Int) < (e : Int) := by omega
                 have SR : SWK enc k w0 blk off (Stab.rot d s m e) wr := by rw [Stab.rot_none d s m e hsm hme (by omega) (by omega)]; exact S1.out
                 clear S1
                 obtain ⟨d1, M1, SW1⟩ : ∃ d1, Stab.Merged key org (Stab.rot d s m e) d1 a mid ∧ SWK enc k w0 blk off d1 wr := ⟨_, IDLE1.out (by omega), SR⟩
                 clear SR
                 have MM1 : Aside _ := M1
                 clear M1
                 have F : Aside (∃ d', Stab.Merged key org d d' a b ∧ SWK enc k w0 blk off d' wr) := ⟨d1, FIN.out d1 d1 MM1.out (IDLE2.out d1 MM1.out (by omega)), SW1⟩
                 clear SW1
                 go_wp2
                 go_end0
                 exact ⟨rfl, F.out⟩)
end Go.Proofs.Qxb6613730a
