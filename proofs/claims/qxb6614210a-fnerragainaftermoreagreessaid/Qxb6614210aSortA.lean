/-
  THE WALKS OF slices.swapRangeCmpFunc, rotateCmpFunc at elements of k cells: after the guide's Derived/Shelf/SlSortCmp/ReverseRangeK.lean.
-/
import Derived.Test.Qxb6614210aRows
import Derived.Test.Qxb6614210aStab2
import Derived.Shelf.SlSortCmp.KitK
import Derived.Sort.WalkB2
import Derived.Sort.WalkB12
import Derived.Deep.LoopGhost
namespace Go.Proofs.Qxb6614210a
open Go.Shelf Go.RowKit Go.Lib Go.Sort Stab

/-- What the walks of the sort ask of the program. -/
structure Env (P : Program) (k : Nat) : Prop where
  mixed : P.follows .mixedOrders = true
  f19 : P.funcs[19]? = some Try.f19
  f21 : P.funcs[21]? = some Try.f21
  f22 : P.funcs[22]? = some Try.f22
  f23 : P.funcs[23]? = some Try.f23
  f24 : P.funcs[24]? = some Try.f24
  aE : ∀ w, (isAgg 46).run P w = .ok true w
  zE : ∀ w, (Go.sizeOf 46).run P w = .ok k w
  t0 : P.underlying 0 = some (TypeDesc.tuple #[])
  a0 : ∀ w, (isAgg 0).run P w = .ok false w
  z0 : ∀ w, (Go.sizeOf 0).run P w = .ok 1 w
  v0 : ∀ w, (zeroValue 0).run P w = .ok (Value.tuple #[]) w
  t3 : P.underlying 3 = some (TypeDesc.int IntKind.i64)
  a3 : ∀ w, (isAgg 3).run P w = .ok false w
  z3 : ∀ w, (Go.sizeOf 3).run P w = .ok 1 w
  v3 : ∀ w, (zeroValue 3).run P w = .ok (Value.int IntKind.i64 0) w
  t4 : P.underlying 4 = some (TypeDesc.bool)
  a4 : ∀ w, (isAgg 4).run P w = .ok false w
  z4 : ∀ w, (Go.sizeOf 4).run P w = .ok 1 w
  v4 : ∀ w, (zeroValue 4).run P w = .ok (Value.bool false) w
  t39 : P.underlying 39 = some (TypeDesc.slice 46)
  a39 : ∀ w, (isAgg 39).run P w = .ok false w
  z39 : ∀ w, (Go.sizeOf 39).run P w = .ok 1 w
  v39 : ∀ w, (zeroValue 39).run P w = .ok (Value.slice none 0 0) w
  t47 : P.underlying 47 = some (TypeDesc.func #[46, 46] #[3] false)
  a47 : ∀ w, (isAgg 47).run P w = .ok false w
  z47 : ∀ w, (Go.sizeOf 47).run P w = .ok 1 w
  v47 : ∀ w, (zeroValue 47).run P w = .ok (Value.nilFunc) w
  t53 : P.underlying 53 = some (TypeDesc.int IntKind.u64)
  a53 : ∀ w, (isAgg 53).run P w = .ok false w
  z53 : ∀ w, (Go.sizeOf 53).run P w = .ok 1 w
  v53 : ∀ w, (zeroValue 53).run P w = .ok (Value.int IntKind.u64 0) w

theorem env : Env Try.prog 2 where
  mixed := by kernel_rfl
  f19 := Try.func19
  f21 := Try.func21
  f22 := Try.func22
  f23 := Try.func23
  f24 := Try.func24
  aE := Try.isAgg46
  zE := Try.sizeOf46
  t0 := Try.underlying0
  a0 := Try.isAgg0
  z0 := fun _ => by kernel_rfl
  v0 := Try.zeroValue0
  t3 := Try.underlying3
  a3 := Try.isAgg3
  z3 := Try.sizeOf3
  v3 := Try.zeroValue3
  t4 := Try.underlying4
  a4 := Try.isAgg4
  z4 := Try.sizeOf4
  v4 := Try.zeroValue4
  t39 := Try.underlying39
  a39 := Try.isAgg39
  z39 := Try.sizeOf39
  v39 := Try.zeroValue39
  t47 := Try.underlying47
  a47 := Try.isAgg47
  z47 := Try.sizeOf47
  v47 := Try.zeroValue47
  t53 := Try.underlying53
  a53 := Try.isAgg53
  z53 := Try.sizeOf53
  v53 := Try.zeroValue53

variable {P : Program} {α : Type} [Inhabited α]

theorem swp_fun (d : Array α) {i j : Nat} (hi : i < d.size) (hj : j < d.size) : (fun p => (swp d i j)[p]!) = ex (fun p => d[p]!) i j := by
  funext p; rw [swp_get d hi hj]; rfl

set_option maxHeartbeats 4000000 in
set_option maxRecDepth 1000000 in
theorem swapRange_any {k : Nat} (L : Env P k) (enc : α → List Value) (g : Nat) (cb : Array Value) (blk off cap a b n : Nat) (d0 d : Array α) (w0 w : World)
    (R : RowK enc k w0 blk off d0) (hs : d0.size = d.size) (S : SWK enc k w0 blk off d w) (hab : a + n ≤ b) (hb : b + n ≤ d.size) (hsz : d.size < 4611686018427387904) :
    Calls P 24 #[.slice (some ⟨blk, off, none⟩) d.size cap, .int .i64 a, .int .i64 b, .int .i64 n, .func (.func g) #[] cb] w fun e w' => e = .returned (.tuple #[]) ∧ ∃ d' : Array α, d'.size = d.size ∧ Hid ((fun p => d'[p]!) = sw (fun p => d[p]!) a b n) ∧ SWK enc k w0 blk off d' w' := by
  have mixed := L.mixed; have t0 := L.t0; have a0 := L.a0; have z0 := L.z0; have v0 := L.v0; have t3 := L.t3; have a3 := L.a3; have z3 := L.z3; have v3 := L.v3; have t4 := L.t4; have a4 := L.a4; have z4 := L.z4; have v4 := L.v4; have t39 := L.t39; have a39 := L.a39; have z39 := L.z39; have v39 := L.v39; have t47 := L.t47; have a47 := L.a47; have z47 := L.z47; have v47 := L.v47
  have aE := L.aE; have zE := L.zE
  have FG := L.f24
  have S0 : Aside (SWK enc k w0 blk off d w) := S
  clear S
  go_enter FG, Try.ntmps24
  go_wp2
  go_loopg [10] n (fun kx s wr => ∃ (i : Nat) (dk : Array α), s = .int .i64 i ∧ i ≤ n ∧ n - i ≤ kx ∧ dk.size = d.size ∧ Aside (SWK enc k w0 blk off dk wr) ∧ Hid ((fun p => dk[p]!) = sw (fun p => d[p]!) a b i))
  case atStart => exact ⟨0, d, rfl, Nat.zero_le _, Nat.le_refl _, rfl, S0, (sw_zero _ a b).symm⟩
  case round =>
    clear S0
    obtain ⟨i, dk, rfl, hin, hkx, hds, S1, HE⟩ := hrel
    by_cases hlt : i < n
    · have hltz : (i : Int) < (n : Int) := by omega
      go_wp2_with fail
      have ea44 : ((a : Int) + (i : Int)).toNat = a + i := by omega
      have pa44 : (0 : Int) ≤ (a : Int) + (i : Int) := by omega
      have ba44 : (a : Int) + (i : Int) < (d.size : Int) := by omega
      have ra44 : IntKind.i64.wrap ((a : Int) + (i : Int)) = (a : Int) + (i : Int) := by rw [IntKind.wrap_i64]; omega
      have ec44 : ((b : Int) + (i : Int)).toNat = b + i := by omega
      have pc44 : (0 : Int) ≤ (b : Int) + (i : Int) := by omega
      have bc44 : (b : Int) + (i : Int) < (d.size : Int) := by omega
      have rc44 : IntKind.i64.wrap ((b : Int) + (i : Int)) = (b : Int) + (i : Int) := by rw [IntKind.wrap_i64]; omega
      have S2 : Aside (SWK enc k w0 blk off (swp dk (a + i) (b + i)) ((wr.drew.setCells blk (off + (a + i) * k) (enc dk[b + i]!)).setCells blk (off + (b + i) * k) (enc dk[a + i]!))) := S1.out.swapped R (a + i) (b + i) (by omega) (by omega)
      have l44a := S1.out.ld1 R (by omega) P (a + i) (by omega)
      have l44b := S1.out.ld1 R (by omega) P (b + i) (by omega)
      have s44a := S1.out.st1 R (by omega) P (a + i) (by omega) dk[b + i]!
      have s44b := S1.out.st2 R (by omega) P (a + i) (b + i) (by omega) (by omega) dk[b + i]! dk[a + i]!
      have n44a : (enc dk[a + i]!).length = k := R.hk _
      have n44b : (enc dk[b + i]!).length = k := R.hk _
      generalize enc dk[a + i]! = cI44 at S2 l44a s44b n44a
      generalize enc dk[b + i]! = cJ44 at S2 l44b s44a s44b n44b
      clear S1
      go_wp2_with fail
      go_big_region_o
      clear l44a l44b s44a s44b
      generalize (wr.drew.setCells blk (off + (a + i) * k) cJ44).setCells blk (off + (b + i) * k) cI44 = w2 at S2 ⊢
      go_wp2
      go_roundg (n - (i + 1))
      case measure => omega
      case rel =>
        refine ⟨i + 1, swp dk (a + i) (b + i), by go_num, by omega, Nat.le_refl _, by rw [size_swp]; exact hds, S2, (show Hid _ from ?_)⟩
        show _ = _
        rw [swp_fun dk (by omega) (by omega), HE.out, sw_succ _ (by omega)]
    · have hltz : ¬ (i : Int) < (n : Int) := by omega
      go_wp2
      go_end0
      obtain rfl : i = n := by omega
      exact ⟨rfl, dk, hds, HE, S1.out⟩

set_option maxHeartbeats 4000000 in
set_option maxRecDepth 1000000 in
theorem rotate_any {k : Nat} (L : Env P k) (enc : α → List Value) (g : Nat) (cb : Array Value) (blk off cap a m b : Nat) (d0 d : Array α) (w0 w : World)
    (R : RowK enc k w0 blk off d0) (hs : d0.size = d.size) (S : SWK enc k w0 blk off d w) (ham : a < m) (hmb : m < b) (hb : b ≤ d.size) (hsz : d.size < 4611686018427387904) :
    Calls P 23 #[.slice (some ⟨blk, off, none⟩) d.size cap, .int .i64 a, .int .i64 m, .int .i64 b, .func (.func g) #[] cb] w fun e w' => e = .returned (.tuple #[]) ∧ ∃ d' : Array α, d'.size = d.size ∧ Hid ((fun p => d'[p]!) = ro (fun p => d[p]!) a m b) ∧ SWK enc k w0 blk off d' w' := by
  have mixed := L.mixed; have t0 := L.t0; have a0 := L.a0; have z0 := L.z0; have v0 := L.v0; have t3 := L.t3; have a3 := L.a3; have z3 := L.z3; have v3 := L.v3; have t4 := L.t4; have a4 := L.a4; have z4 := L.z4; have v4 := L.v4; have t39 := L.t39; have a39 := L.a39; have z39 := L.z39; have v39 := L.v39; have t47 := L.t47; have a47 := L.a47; have z47 := L.z47; have v47 := L.v47
  have e24 : ∀ args w, (callFunc 24 args).run P w = .ok (.enter 24 args) w := enters_of L.f24 (by kernel_rfl) rfl
  have FG := L.f23
  have S0 : Aside (SWK enc k w0 blk off d w) := S
  clear S
  have LL : Aside (Env P k) := L
  clear L
  go_enter FG, Try.ntmps23
  go_wp2_with fail
  go_loopg [10, 11] (b - a) (fun kx s t wr => ∃ (i j : Nat) (dk : Array α), s = .int .i64 i ∧ t = .int .i64 j ∧ 0 < i ∧ 0 < j ∧ i ≤ m ∧ m + j ≤ d.size ∧ i + j ≤ kx ∧ dk.size = d.size ∧ Aside (SWK enc k w0 blk off dk wr) ∧ Hid (ro (fun p => dk[p]!) (m - i) m (m + j) = ro (fun p => d[p]!) a m b))
  case atStart => exact ⟨m - a, b - m, d, by go_num, by go_num, by omega, by omega, by omega, by omega, by omega, rfl, S0, (by rw [show m - (m - a) = a by omega, show m + (b - m) = b by omega]; exact rfl)⟩
  case round =>
    clear S0
    obtain ⟨i, j, dk, rfl, rfl, hi0, hj0, him, hjs, hkx, hds, S1, HE⟩ := hrel
    have ei : ((m - i : Nat) : Int) = (m : Int) - (i : Int) := by omega
    by_cases hne : i = j
    · subst hne
      have hnz : ((i : Int) != (i : Int)) = false := by simp
      have hcall := swapRange_any LL.out enc g cb blk off cap (m - i) m i d0 dk w0 wr R (by omega) S1.out (by omega) (by omega) (by omega)
      rw [hds, ei] at hcall
      clear S1
      go_wp2_with (go_at_fn 24; refine hcall.mono ?_; rintro e w1 ⟨rfl, d', hd', HS, S3⟩)
      go_end0
      refine ⟨rfl, d', hd', (show Hid _ from ?_), S3⟩
      show _ = _
      rw [HS.out, ← HE.out]; exact ro_sw_same _ him
    · have hnz : ((i : Int) != (j : Int)) = true := by rw [bne_iff_ne]; omega
      by_cases hlt : j < i
      · have hltz : (j : Int) < (i : Int) := by omega
        have hcall := swapRange_any LL.out enc g cb blk off cap (m - i) m j d0 dk w0 wr R (by omega) S1.out (by omega) (by omega) (by omega)
        rw [hds, ei] at hcall
        clear S1
        go_wp2_with (go_at_fn 24; refine hcall.mono ?_; rintro e w1 ⟨rfl, d', hd', HS, S3⟩)
        go_roundg (i - j + j)
        case measure => omega
        case rel =>
          refine ⟨i - j, j, d', by go_num, rfl, by omega, hj0, by omega, hjs, Nat.le_refl _, hd', S3, (show Hid _ from ?_)⟩
          show _ = _
          rw [HS.out, ← HE.out]; exact ro_sw_left _ hlt him
      · have hltz : ¬ (j : Int) < (i : Int) := by omega
        have ej : ((m + j - i : Nat) : Int) = (m : Int) + (j : Int) - (i : Int) := by omega
        have hcall := swapRange_any LL.out enc g cb blk off cap (m - i) (m + j - i) i d0 dk w0 wr R (by omega) S1.out (by omega) (by omega) (by omega)
        rw [hds, ei, ej] at hcall
        clear S1
        go_wp2_with (go_at_fn 24; refine hcall.mono ?_; rintro e w1 ⟨rfl, d', hd', HS, S3⟩)
        go_roundg (i + (j - i))
        case measure => omega
        case rel =>
          refine ⟨i, j - i, d', rfl, by go_num, hi0, by omega, him, by omega, Nat.le_refl _, hd', S3, (show Hid _ from ?_)⟩
          show _ = _
          rw [HS.out, ← HE.out]; exact ro_sw_right _ (by omega) him

end Go.Proofs.Qxb6614210a
