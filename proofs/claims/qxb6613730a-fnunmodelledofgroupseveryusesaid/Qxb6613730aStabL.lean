import Derived.Test.Qxb6613730aRows
import Derived.Test.Qxb6613730aStab2
import Derived.Shelf.SlSortCmp.KitK
import Derived.Sort.WalkB2
import Derived.Sort.WalkB12
import Derived.Deep.LoopGhost
/-! slices.SortStableFunc's family, walked over whatever program bears its bodies (so that an element's number of cells stays a variable). -/
set_option linter.unusedVariables false
namespace Go.Proofs.Qxb6613730a
open Go.Shelf Go.RowKit Go.Lib Go.Sort

structure StabL (P : Program) : Prop where
  mixed : P.follows .mixedOrders = true
  f44 : P.funcs[44]? = some Try.f44
  f53 : P.funcs[53]? = some Try.f53
  f70 : P.funcs[70]? = some Try.f70
  f71 : P.funcs[71]? = some Try.f71
  f85 : P.funcs[85]? = some Try.f85
  f94 : P.funcs[94]? = some Try.f94
  t0 : P.underlying 0 = some (TypeDesc.tuple #[])
  a0 : ∀ w, (isAgg 0).run P w = .ok false w
  z0 : ∀ w, (Go.sizeOf 0).run P w = .ok 1 w
  v0 : ∀ w, (zeroValue 0).run P w = .ok (Value.tuple #[]) w
  t3 : P.underlying 3 = some (TypeDesc.int IntKind.i64)
  a3 : ∀ w, (isAgg 3).run P w = .ok false w
  z3 : ∀ w, (Go.sizeOf 3).run P w = .ok 1 w
  v3 : ∀ w, (zeroValue 3).run P w = .ok (Value.int IntKind.i64 0) w
  t4 : P.underlying 4 = some (TypeDesc.bool)
  a4 : ∀ w, (isAgg 4).run P w = .ok false w
  z4 : ∀ w, (Go.sizeOf 4).run P w = .ok 1 w
  v4 : ∀ w, (zeroValue 4).run P w = .ok (Value.bool false) w
  t45 : P.underlying 45 = some (TypeDesc.slice 49)
  a45 : ∀ w, (isAgg 45).run P w = .ok false w
  z45 : ∀ w, (Go.sizeOf 45).run P w = .ok 1 w
  v45 : ∀ w, (zeroValue 45).run P w = .ok (Value.slice none 0 0) w
  t98 : P.underlying 98 = some (TypeDesc.func #[49, 49] #[3] false)
  a98 : ∀ w, (isAgg 98).run P w = .ok false w
  z98 : ∀ w, (Go.sizeOf 98).run P w = .ok 1 w
  v98 : ∀ w, (zeroValue 98).run P w = .ok (Value.nilFunc) w
  t110 : P.underlying 110 = some (TypeDesc.int IntKind.u64)
  a110 : ∀ w, (isAgg 110).run P w = .ok false w
  z110 : ∀ w, (Go.sizeOf 110).run P w = .ok 1 w
  v110 : ∀ w, (zeroValue 110).run P w = .ok (Value.int IntKind.u64 0) w

theorem stabL : StabL Try.prog where
  mixed := by kernel_rfl
  f44 := Try.func44
  f53 := Try.func53
  f70 := Try.func70
  f71 := Try.func71
  f85 := Try.func85
  f94 := Try.func94
  t0 := Try.underlying0
  a0 := Try.isAgg0
  z0 := Try.sizeOf0
  v0 := Try.zeroValue0
  t3 := Try.underlying3
  a3 := Try.isAgg3
  z3 := Try.sizeOf3
  v3 := Try.zeroValue3
  t4 := Try.underlying4
  a4 := Try.isAgg4
  z4 := Try.sizeOf4
  v4 := Try.zeroValue4
  t45 := Try.underlying45
  a45 := Try.isAgg45
  z45 := Try.sizeOf45
  v45 := Try.zeroValue45
  t98 := Try.underlying98
  a98 := Try.isAgg98
  z98 := Try.sizeOf98
  v98 := Try.zeroValue98
  t110 := Try.underlying110
  a110 := Try.isAgg110
  z110 := Try.sizeOf110
  v110 := Try.zeroValue110

variable {P : Program} {α : Type} [Inhabited α]

set_option maxHeartbeats 4000000 in
set_option maxRecDepth 1000000 in
/-- slices.swapRangeCmpFunc. -/
theorem swapRange_w (L : StabL P) (k : Nat) (aE : ∀ w, (isAgg 49).run P w = .ok true w) (zE : ∀ w, (Go.sizeOf 49).run P w = .ok k w) (enc : α → List Value) (fv : Value) (blk off cap a b n : Nat) (d0 d : Array α) (w0 w : World)
    (R : RowK enc k w0 blk off d0) (hs : d0.size = d.size) (S : SWK enc k w0 blk off d w) (hab : a + n ≤ b) (hb : b + n ≤ d.size) (hsz : d.size < 4611686018427387904) :
    Calls P 94 #[.slice (some ⟨blk, off, none⟩) d.size cap, .int .i64 a, .int .i64 b, .int .i64 n, fv] w fun e w' => e = .returned (.tuple #[]) ∧ SWK enc k w0 blk off (Stab.swapN d a b n) w' := by
  have mixed := L.mixed; have t0 := L.t0; have a0 := L.a0; have z0 := L.z0; have v0 := L.v0; have t3 := L.t3; have a3 := L.a3; have z3 := L.z3; have v3 := L.v3; have t4 := L.t4; have a4 := L.a4; have z4 := L.z4; have v4 := L.v4; have t45 := L.t45; have a45 := L.a45; have z45 := L.z45; have v45 := L.v45
  have S0 : Aside (SWK enc k w0 blk off d w) := S
  clear S
  go_enter L.f94, Try.ntmps94
  go_wp2
  go_loopg [10] n (fun kx s10 wr => ∃ (i : Nat), s10 = .int .i64 i ∧ i ≤ n ∧ n - i ≤ kx ∧ Aside (SWK enc k w0 blk off (Stab.swapN d a b i) wr))
  case atStart => exact ⟨0, rfl, Nat.zero_le _, by omega, S0⟩
  case round =>
    clear S0
    obtain ⟨i, rfl, hin, hkx, S1⟩ := hrel
    by_cases hlt : i < n
    · have hltz : (i : Int) < (n : Int) := by omega
      have hsN : (Stab.swapN d a b i).size = d.size := Stab.swapN_size d a b i
      have HN : Hid (Stab.swapN d a b (i + 1) = swp (Stab.swapN d a b i) (a + i) (b + i)) := rfl
      generalize Stab.swapN d a b i = dk at S1 hsN HN
      go_wp2_with fail
      have ea : ((a : Int) + (i : Int)).toNat = a + i := by omega
      have pa : (0 : Int) ≤ (a : Int) + (i : Int) := by omega
      have ba : (a : Int) + (i : Int) < (d.size : Int) := by omega
      have ra : IntKind.i64.wrap ((a : Int) + (i : Int)) = (a : Int) + (i : Int) := by rw [IntKind.wrap_i64]; omega
      have ec : ((b : Int) + (i : Int)).toNat = b + i := by omega
      have pc : (0 : Int) ≤ (b : Int) + (i : Int) := by omega
      have bc : (b : Int) + (i : Int) < (d.size : Int) := by omega
      have rc : IntKind.i64.wrap ((b : Int) + (i : Int)) = (b : Int) + (i : Int) := by rw [IntKind.wrap_i64]; omega
      have S2 : Aside (SWK enc k w0 blk off (swp dk (a + i) (b + i)) ((wr.drew.setCells blk (off + (a + i) * k) (enc dk[b + i]!)).setCells blk (off + (b + i) * k) (enc dk[a + i]!))) := S1.out.swapped R (a + i) (b + i) (by omega) (by omega)
      have l44a := S1.out.ld1 R (by omega) P (a + i) (by omega)
      have l44b := S1.out.ld1 R (by omega) P (b + i) (by omega)
      have s44a := S1.out.st1 R (by omega) P (a + i) (by omega) dk[b + i]!
      have s44b := S1.out.st2 R (by omega) P (a + i) (b + i) (by omega) (by omega) dk[b + i]! dk[a + i]!
      have n44a : (enc dk[a + i]!).length = k := R.hk _
      have n44b : (enc dk[b + i]!).length = k := R.hk _
      generalize enc dk[a + i]! = cI44 at S2 l44a s44b n44a
      generalize enc dk[b + i]! = cJ44 at S2 l44b s44a s44b n44b
      clear S1
      go_big_region_o
      clear l44a l44b s44a s44b
      generalize (wr.drew.setCells blk (off + (a + i) * k) cJ44).setCells blk (off + (b + i) * k) cI44 = w2 at S2 ⊢
      go_wp2
      go_roundg (n - (i + 1))
      case measure => omega
      case rel => exact ⟨i + 1, by go_num, by omega, Nat.le_refl _, by rw [HN.out]; exact S2⟩
    · have hltz : ¬ (i : Int) < (n : Int) := by omega
      go_wp2
      go_end0
      obtain rfl : i = n := by omega
      exact ⟨rfl, S1.out⟩

end Go.Proofs.Qxb6613730a
