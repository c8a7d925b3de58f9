import Derived.Test.Qxb6613730aStabR
set_option linter.unusedVariables false
namespace Go.Proofs.Qxb6613730a
open Go.Shelf Go.RowKit Go.Lib Go.Sort
variable {P : Program} {α : Type} [Inhabited α]

set_option maxHeartbeats 4000000 in
set_option maxRecDepth 1000000 in
/-- slices.symMergeCmpFunc where data[a:m] is one element. -/
theorem symMerge_one (L : StabL P) (k : Nat) (aE : ∀ w, (isAgg 49).run P w = .ok true w) (zE : ∀ w, (Go.sizeOf 49).run P w = .ok k w) (enc : α → List Value) (key : α → Int) (org : α → Nat) (cf : α → α → Int) (hcf : ∀ x y, cf x y < 0 ↔ key x < key y) (g : Nat) (cb : Array Value) (blk off cap a b : Nat) (d0 d : Array α) (w0 w : World)
    (eg : ∀ args w, (callFunc g args).run P w = .ok (.enter g args) w) (hcmp : CmpLays P g cb enc k cf blk off d0.size w0) (R : RowK enc k w0 blk off d0) (hs : d0.size = d.size) (S : SWK enc k w0 blk off d w) (hmb : a + 1 < b) (hb : b ≤ d.size) (hsz : d.size < 4611686018427387904)
    (h2 : Stab.Srt key org d (a + 1) b) (hc : Stab.Cross org d a (a + 1) b) :
    Calls P 71 #[.slice (some ⟨blk, off, none⟩) d.size cap, .int .i64 a, .int .i64 ((a : Int) + 1), .int .i64 b, .func (.func g) #[] cb] w fun e w' => e = .returned (.tuple #[]) ∧ ∃ d', Stab.Merged key org d d' a b ∧ SWK enc k w0 blk off d' w' := by
  have mixed := L.mixed; have t0 := L.t0; have a0 := L.a0; have z0 := L.z0; have v0 := L.v0; have t3 := L.t3; have a3 := L.a3; have z3 := L.z3; have v3 := L.v3; have t4 := L.t4; have a4 := L.a4; have z4 := L.z4; have v4 := L.v4; have t45 := L.t45; have a45 := L.a45; have z45 := L.z45; have v45 := L.v45; have t98 := L.t98; have a98 := L.a98; have z98 := L.z98; have v98 := L.v98; have t110 := L.t110; have a110 := L.a110; have z110 := L.z110; have v110 := L.v110
  have S0 : Aside (SWK enc k w0 blk off d w) := S
  clear S
  have HCF0 : Hid (∀ x y, cf x y < 0 ↔ key x < key y) := hcf
  clear hcf
  have hone : ((a : Int) + 1 - (a : Int) == 1) = true := by rw [beq_iff_eq]; omega
  go_enter L.f71, Try.ntmps71
  go_wp2
  go_loopg [10, 11] (b - a) (fun kx s10 s11 wr => ∃ (i j : Nat), s10 = .int .i64 i ∧ s11 = .int .i64 j ∧ a + 1 ≤ i ∧ i ≤ j ∧ j ≤ b ∧ j - i ≤ kx ∧ Aside (SWK enc k w0 blk off d wr) ∧ Hid (i = a + 1 ∨ key d[i - 1]! < key d[a]!) ∧ Hid (j = b ∨ key d[a]! ≤ key d[j]!))
  case atStart => exact ⟨a + 1, b, by go_num, rfl, by omega, by omega, by omega, by omega, S0, .inl rfl, .inl rfl⟩
  case round =>
    clear S0
    obtain ⟨i, j, rfl, rfl, hai, hij, hjb, hkx, S1, HI, HJ⟩ := hrel
    by_cases hlt : i < j
    · have hltz : (i : Int) < (j : Int) := by omega
      obtain ⟨h, hh⟩ : ∃ h : Nat, (i + j) / 2 = h := ⟨_, rfl⟩
      have hh1 : i ≤ h := by omega
      have hh2 : h < j := by omega
      have HZ : Hid (((i : Int) + (j : Int)) / 2 = (h : Int)) := (show _ = _ by omega)
      clear hh
      go_wp2_with fail
      rw [HZ.out]
      have bh : (h : Int) < (d.size : Int) := by omega
      have ba : (a : Int) < (d.size : Int) := by omega
      have lh := S1.out.ld R (by omega) P h (by omega)
      have la := S1.out.ld R (by omega) P a (by omega)
      have hcg := S1.out.cmp hcmp (by omega) d[h]! d[a]!
      have SG : Aside (∀ nq osq, SWK enc k w0 blk off d (grow (wr.drewN nq) osq)) := fun nq osq => S1.out.grown nq osq
      have HCF : Hid (cf d[h]! d[a]! < 0 ↔ key d[h]! < key d[a]!) := HCF0.out _ _
      clear S1
      generalize hx : d[h]! = x at lh hcg HCF
      generalize hy : d[a]! = y at la hcg HCF
      have HX : Hid (d[h]! = x) := hx
      have HY : Hid (d[a]! = y) := hy
      clear hx hy
      go_quiet_grown (first | (go_at_fn g; refine Calls.grown_of (hcg _ _)))
      clear lh la hcg
      have S2 : Aside (SWK enc k w0 blk off d (grow (wr.drewN nq) osq)) := SG.out nq osq
      clear SG
      generalize grow (wr.drewN nq) osq = w2 at S2 ⊢
      by_cases hlv : cf x y < 0
      · go_wp2
        go_roundg (j - (h + 1))
        case measure => omega
        case rel => exact ⟨h + 1, j, by go_num, rfl, by omega, by omega, hjb, Nat.le_refl _, S2, .inr (by rw [Nat.add_sub_cancel, HX.out, HY.out]; exact HCF.out.1 hlv), HJ⟩
      · go_wp2
        go_roundg (h - i)
        case measure => omega
        case rel => exact ⟨i, h, rfl, rfl, hai, hh1, by omega, Nat.le_refl _, S2, HI, .inr (by rw [HX.out, HY.out]; have := HCF.out; omega)⟩
    · have hltz : ¬ (i : Int) < (j : Int) := by omega
      obtain rfl : i = j := by omega
      have HM : Hid (Stab.Merged key org d (Stab.rot d a (a + 1) i) a b) := by
        refine Stab.merged_up key org d a i b hai hjb hb h2 hc ?_ ?_
        · rcases HI.out with h | h
          · exact .inl h
          · exact .inr (.inl h)
        · rcases HJ.out with h | h
          · exact .inl h
          · by_cases hib : i = b
            · exact .inl hib
            · have := hc a i (Nat.le_refl _) (by omega) (by omega) (by omega)
              exact .inr (show _ ∨ _ by omega)
      clear HI HJ h2 hc
      go_wp2
      go_loopg [13] (b - a) (fun kx s13 wr => ∃ (q : Nat), s13 = .int .i64 q ∧ a ≤ q ∧ q + 1 ≤ i ∧ i - q ≤ kx ∧ Aside (SWK enc k w0 blk off (Stab.rot d a (a + 1) (q + 1)) wr))
      case atStart => exact ⟨a, rfl, Nat.le_refl _, by omega, by omega, by rw [Stab.rot_none d a (a + 1) (a + 1) (by omega) (by omega) (by omega) (.inr rfl)]; exact S1⟩
      case round =>
        clear S1
        obtain ⟨q, rfl, haq, hqi, hkx, S1⟩ := hrel
        by_cases hlt' : q + 1 < i
        · have hltz' : (q : Int) < (i : Int) - 1 := by omega
          have hsN : (Stab.rot d a (a + 1) (q + 1)).size = d.size := Stab.rot_size _ _ _ _
          have HN : Hid (Stab.rot d a (a + 1) (q + 1 + 1) = swp (Stab.rot d a (a + 1) (q + 1)) q (q + 1)) := (Stab.rot_up d a q haq (by omega)).symm
          generalize Stab.rot d a (a + 1) (q + 1) = dk at S1 hsN HN
          go_wp2_with fail
          have ba : (q : Int) < (d.size : Int) := by omega
          have ec : ((q : Int) + 1).toNat = q + 1 := by omega
          have pc : (0 : Int) ≤ (q : Int) + 1 := by omega
          have bc : (q : Int) + 1 < (d.size : Int) := by omega
          have ra : IntKind.i64.wrap (q : Int) = (q : Int) := by rw [IntKind.wrap_i64]; omega
          have rc : IntKind.i64.wrap ((q : Int) + 1) = (q : Int) + 1 := by rw [IntKind.wrap_i64]; omega
          have S2 : Aside (SWK enc k w0 blk off (swp dk q (q + 1)) ((wr.drew.setCells blk (off + q * k) (enc dk[q + 1]!)).setCells blk (off + (q + 1) * k) (enc dk[q]!))) := S1.out.swapped R q (q + 1) (by omega) (by omega)
          have l44a := S1.out.ld1 R (by omega) P q (by omega)
          have l44b := S1.out.ld1 R (by omega) P (q + 1) (by omega)
          have s44a := S1.out.st1 R (by omega) P q (by omega) dk[q + 1]!
          have s44b := S1.out.st2 R (by omega) P q (q + 1) (by omega) (by omega) dk[q + 1]! dk[q]!
          have n44a : (enc dk[q]!).length = k := R.hk _
          have n44b : (enc dk[q + 1]!).length = k := R.hk _
          generalize enc dk[q]! = cI44 at S2 l44a s44b n44a
          generalize enc dk[q + 1]! = cJ44 at S2 l44b s44a s44b n44b
          clear S1
          go_big_region_o
          clear l44a l44b s44a s44b
          generalize (wr.drew.setCells blk (off + q * k) cJ44).setCells blk (off + (q + 1) * k) cI44 = w2 at S2 ⊢
          go_wp2
          go_roundg (i - (q + 1))
          case measure => omega
          case rel => exact ⟨q + 1, by go_num, by omega, by omega, Nat.le_refl _, by rw [HN.out]; exact S2⟩
        · have hltz' : ¬ (q : Int) < (i : Int) - 1 := by omega
          go_wp2
          refine bodyPost_ret (results_none rfl _ _ _) rfl ?_
          obtain rfl : i = q + 1 := by omega
          exact ⟨rfl, _, HM.out, S1.out⟩
end Go.Proofs.Qxb6613730a
