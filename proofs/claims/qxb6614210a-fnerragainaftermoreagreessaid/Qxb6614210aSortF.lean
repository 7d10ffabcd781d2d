/-
  slices.symMergeCmpFunc whole, slices.stableCmpFunc.
-/
import Derived.Test.Qxb6614210aSortE
namespace Go.Proofs.Qxb6614210a
open Go.Shelf Go.RowKit Go.Lib Go.Sort Stab
variable {P : Program} {α : Type} [Inhabited α]

theorem symMerge_any {k : Nat} (L : Env P k) (enc : α → List Value) (key : α → Int) (cf : α → α → Int) (hcf : ∀ x y, cf x y < 0 ↔ key x < key y) (g : Nat) (cb : Array Value) (blk off cap : Nat) (d0 : Array α) (w0 : World)
    (eg : ∀ args w, (callFunc g args).run P w = .ok (.enter g args) w) (hcmp : CmpLays P g cb enc k cf blk off d0.size w0)
    (R : RowK enc k w0 blk off d0) (hsz : d0.size < 4611686018427387904) : ∀ (N a m b : Nat) (d : Array α) (w : World), b - a ≤ N → a < m → m < b → b ≤ d.size → d.size = d0.size → SWK enc k w0 blk off d w → Sorted key (fun p => d[p]!) a m → Sorted key (fun p => d[p]!) m b →
      Calls P 22 #[.slice (some ⟨blk, off, none⟩) d0.size cap, .int .i64 a, .int .i64 m, .int .i64 b, .func (.func g) #[] cb] w fun e w' => e = .returned (.tuple #[]) ∧ ∃ d' : Array α, d'.size = d.size ∧ Merged key (fun p => d[p]!) (fun p => d'[p]!) a b ∧ SWK enc k w0 blk off d' w' := by
  intro N
  induction N with
  | zero => intro a m b d w h1 h2 h3; omega
  | succ N ih =>
    intro a m b d w hN ham hmb hb hs S s1 s2
    rw [← hs]
    by_cases e1 : m = a + 1
    · subst e1
      exact symMerge_left L enc key cf hcf g cb blk off cap a b d0 d w0 w eg hcmp R hs.symm S hmb hb (by omega) s2
    · by_cases e2 : b = m + 1
      · subst e2
        exact symMerge_right L enc key cf hcf g cb blk off cap a m d0 d w0 w eg hcmp R hs.symm S (by omega) hb (by omega) s1
      · have ih' : ∀ (a' m' b' : Nat) (d' : Array α) (w' : World), b' - a' < b - a → a' < m' → m' < b' → b' ≤ d'.size → d'.size = d.size → SWK enc k w0 blk off d' w' → Sorted key (fun p => d'[p]!) a' m' → Sorted key (fun p => d'[p]!) m' b' →
            Calls P 22 #[.slice (some ⟨blk, off, none⟩) d.size cap, .int .i64 a', .int .i64 m', .int .i64 b', .func (.func g) #[] cb] w' fun e w'' => e = .returned (.tuple #[]) ∧ ∃ d'' : Array α, d''.size = d'.size ∧ Merged key (fun p => d'[p]!) (fun p => d''[p]!) a' b' ∧ SWK enc k w0 blk off d'' w'' := by
          intro a' m' b' d' w' g1 g2 g3 g4 g5 g6 g7 g8
          rw [hs]
          exact ih a' m' b' d' w' (by omega) g2 g3 g4 (by omega) g6 g7 g8
        by_cases hc : (a + b) / 2 < m
        · exact symMerge_wayA L enc key cf hcf g cb blk off cap a m b ((a + b) / 2) d0 d w0 w eg hcmp R hs.symm S (by omega) (by omega) hb (by omega) s1 s2 (by omega) (by omega) hc ih'
        · exact symMerge_wayB L enc key cf hcf g cb blk off cap a m b ((a + b) / 2) d0 d w0 w eg hcmp R hs.symm S (by omega) (by omega) hb (by omega) s1 s2 (by omega) (by omega) hc ih'

namespace Stab
variable {α : Type} {key : α → Int} {f g : Nat → α}
theorem Blk.ext' {bs t a b : Nat} (ha : a = t * bs) (h : Blk key f bs 0 a) (hm : Merged key f g a b) : Blk key g bs 0 b := by
  subst ha; exact h.ext hm
theorem Blk.two {bs t a n : Nat} (ha : a = t * (2 * bs)) (h : Blk key f bs a n) : (∀ b, b ≤ n → b ≤ a + bs → Sorted key f a b) ∧ (∀ b, b ≤ n → b ≤ a + 2 * bs → Sorted key f (a + bs) b) := by
  have e0 : (2 * t) * bs = a := by rw [ha, Nat.mul_comm 2 t, Nat.mul_assoc]
  have e1 : (2 * t + 1) * bs = a + bs := by rw [Nat.add_mul, Nat.one_mul, e0]
  have e2 : (2 * t + 1 + 1) * bs = a + 2 * bs := by rw [Nat.add_mul, Nat.one_mul, e1]; omega
  exact ⟨fun b h1 h2 => h.sorted (2 * t) (by omega) (by omega) (Nat.le_refl _) h1, fun b h1 h2 => h.sorted (2 * t + 1) (by omega) (by omega) (by omega) h1⟩
end Stab

/-- What the blocks' loops carry. -/
structure St (key : α → Int) (d dk : Array α) : Prop where
  size : dk.size = d.size
  feq : Feq key (seg (fun p => d[p]!) 0 d.size) (seg (fun p => dk[p]!) 0 d.size)
theorem St.start (key : α → Int) (d : Array α) : St key d d := ⟨rfl, Feq.refl _⟩
theorem St.step {key : α → Int} {d dk dj : Array α} {a b : Nat} (h : St key d dk) (hm : Merged key (fun p => dk[p]!) (fun p => dj[p]!) a b) (hs : dj.size = dk.size) (hab : a ≤ b) (hb : b ≤ d.size) : St key d dj :=
  ⟨hs.trans h.size, h.feq.trans (hm.feq.widen hm.out (Nat.zero_le _) hab hb)⟩
theorem St.done {key : α → Int} {d dk : Array α} (h : St key d dk) (hs : Sorted key (fun p => dk[p]!) 0 d.size) : Merged key (fun p => d[p]!) (fun p => dk[p]!) 0 d.size :=
  ⟨fun p hp => by
    have h1 : ¬ p < d.size := by omega
    have h2 : ¬ p < dk.size := by rw [h.size]; exact h1
    show dk[p]! = d[p]!
    rw [getElem!_neg dk p h2, getElem!_neg d p h1], hs, h.feq⟩

/-- One block more is sorted; the rest of the blocks' facts. -/
theorem blocks_step {key : α → Int} {dk dj : Array α} {bs t a b n : Nat} (ha : a = t * (2 * bs)) (h2 : Blk key (fun p => dk[p]!) (2 * bs) 0 a) (h1 : Blk key (fun p => dk[p]!) bs a n) (hm : Merged key (fun p => dk[p]!) (fun p => dj[p]!) a b) (hab : a ≤ b) :
    Blk key (fun p => dj[p]!) (2 * bs) 0 b ∧ Blk key (fun p => dj[p]!) bs b n :=
  ⟨h2.ext' ha hm, h1.rest hab fun p hp => hm.out p (.inr hp)⟩

set_option maxHeartbeats 8000000 in
set_option maxRecDepth 1000000 in
theorem stable_any {k : Nat} (L : Env P k) (enc : α → List Value) (key : α → Int) (cf : α → α → Int) (hcf : ∀ x y, cf x y < 0 ↔ key x < key y) (g : Nat) (cb : Array Value) (blk off cap : Nat) (d : Array α) (w : World)
    (eg : ∀ args w, (callFunc g args).run P w = .ok (.enter g args) w) (hcmp : CmpLays P g cb enc k cf blk off d.size w)
    (R : RowK enc k w blk off d) (hsz : d.size < 1000000) :
    Calls P 19 #[.slice (some ⟨blk, off, none⟩) d.size cap, .int .i64 d.size, .func (.func g) #[] cb] w fun e w' => e = .returned (.tuple #[]) ∧ ∃ d' : Array α, d'.size = d.size ∧ Merged key (fun p => d[p]!) (fun p => d'[p]!) 0 d.size ∧ SWK enc k w blk off d' w' := by
  have mixed := L.mixed; have t0 := L.t0; have a0 := L.a0; have z0 := L.z0; have v0 := L.v0; have t3 := L.t3; have a3 := L.a3; have z3 := L.z3; have v3 := L.v3; have t4 := L.t4; have a4 := L.a4; have z4 := L.z4; have v4 := L.v4; have t39 := L.t39; have a39 := L.a39; have z39 := L.z39; have v39 := L.v39; have t47 := L.t47; have a47 := L.a47; have z47 := L.z47; have v47 := L.v47
  have e21 : ∀ args w, (callFunc 21 args).run P w = .ok (.enter 21 args) w := enters_of L.f21 (by kernel_rfl) rfl
  have e22 : ∀ args w, (callFunc 22 args).run P w = .ok (.enter 22 args) w := enters_of L.f22 (by kernel_rfl) rfl
  have FG := L.f19
  have S0 : Aside (SWK enc k w blk off d w) := SWK.start R.hH
  have INS : Aside _ := fun (a b : Nat) (dk : Array α) (wr : World) (hs : d.size = dk.size) (S : SWK enc k w blk off dk wr) (hab : a ≤ b) (hb : b ≤ dk.size) => insertion_any L enc key cf hcf g cb blk off cap a b d dk w wr eg hcmp R hs S hab hb (by omega)
  have SYM : Aside _ := fun (a m b : Nat) (dk : Array α) (wr : World) => symMerge_any L enc key cf hcf g cb blk off cap d w eg hcmp R (by omega) (b - a) a m b dk wr (Nat.le_refl _)
  clear L hcmp hcf
  generalize hn : d.size = n at *
  have HN : Hid _ := hn
  clear hn
  go_enter FG, Try.ntmps19
  go_wp2
  go_loopg [7, 8] n (fun kx s7 s8 wr => ∃ (a b : Nat) (dk : Array α), s7 = .int .i64 a ∧ s8 = .int .i64 b ∧ a + 20 ≤ b ∧ b ≤ a + 20 ∧ a ≤ n ∧ n - a ≤ kx ∧ Aside (SWK enc k w blk off dk wr) ∧ Aside (St key d dk) ∧ Aside (∃ t, a = t * 20) ∧ Aside (Blk key (fun p => dk[p]!) 20 0 a))
  case atStart => exact ⟨0, 20, d, rfl, rfl, by omega, by omega, by omega, by omega, S0, St.start key d, (show Aside _ from ⟨0, by omega⟩), Blk.nil _ _⟩
  case round =>
    clear S0
    obtain ⟨a, b, dk, rfl, rfl, hab1, hab2, htn, hkx, S1, ST, AT, BK⟩ := hrel
    have hdk : dk.size = n := by rw [ST.out.size, HN.out]
    by_cases hbn : b ≤ n
    · have hbz : (b : Int) ≤ (n : Int) := by omega
      have hcall := INS.out a b dk wr hdk.symm S1.out (by omega) (by omega)
      rw [hdk] at hcall
      have HDK : Hid _ := hdk
      clear S1 hdk
      go_wp2_with (go_at_fn 21; refine hcall.mono ?_; rintro e w1 ⟨rfl, dj, hdj, HM, S3⟩)
      go_roundg (n - b)
      case measure => omega
      case rel =>
        obtain ⟨t, ht⟩ := AT.out
        exact ⟨b, b + 20, dj, rfl, by go_num, by omega, by omega, by omega, Nat.le_refl _, S3, ST.out.step HM (by rw [hdj, HDK.out]) (by omega) (by rw [HN.out]; exact hbn), (show Aside _ from ⟨t + 1, by omega⟩), (show Aside _ from BK.out.ext' ht HM)⟩
    · have hbz : ¬ (b : Int) ≤ (n : Int) := by omega
      have hcall := INS.out a n dk wr hdk.symm S1.out htn (by omega)
      rw [hdk] at hcall
      have HDK : Hid _ := hdk
      clear S1 hdk
      go_wp2_with (go_at_fn 21; refine hcall.mono ?_; rintro e w1 ⟨rfl, dj, hdj, HM, S3⟩)
      have S4 : Aside _ := S3
      have ST4 : Aside (St key d dj) := ST.out.step HM (by rw [hdj, HDK.out]) htn (by rw [HN.out]; exact Nat.le_refl _)
      have BK4 : Aside (Blk key (fun p => dj[p]!) 20 0 n) := by
        obtain ⟨t, ht⟩ := AT.out
        exact BK.out.ext' ht HM
      clear HM S3 AT BK ST hdj HDK
      go_loopg [6, 7, 8, 9] (2 * n) (fun kx s6 s7 s8 s9 wr => ∃ (bs : Nat) (dk : Array α), s6 = .int .i64 bs ∧ 0 < bs ∧ bs ≤ 2 * n + 20 ∧ 2 * n - bs ≤ kx ∧ Aside (SWK enc k w blk off dk wr) ∧ Aside (St key d dk) ∧ Aside (Blk key (fun p => dk[p]!) bs 0 n))
      case atStart => exact ⟨20, dj, rfl, by omega, by omega, by omega, S4, ST4, BK4⟩
      case round =>
        clear S4 ST4 BK4
        clear hcall hab1 hab2 htn hkx hbn hbz
        obtain ⟨bs, dk, rfl, hbs0, hbs1, hkx, S1, ST, BK⟩ := hrel
        have hdk : dk.size = n := by rw [ST.out.size, HN.out]
        by_cases hbn : bs < n
        · have hbz : (bs : Int) < (n : Int) := by omega
          have HDK : Hid _ := hdk
          clear hdk
          go_wp2_with fail
          go_loopg [7, 8] n (fun kx s7 s8 wr => ∃ (a b : Nat) (dk : Array α), s7 = .int .i64 a ∧ s8 = .int .i64 b ∧ a + 2 * bs ≤ b ∧ b ≤ a + 2 * bs ∧ a ≤ n ∧ n - a ≤ kx ∧ Aside (SWK enc k w blk off dk wr) ∧ Aside (St key d dk) ∧ Aside (∃ t, a = t * (2 * bs)) ∧ Aside (Blk key (fun p => dk[p]!) (2 * bs) 0 a ∧ Blk key (fun p => dk[p]!) bs a n))
          case atStart => exact ⟨0, 2 * bs, dk, rfl, by go_num, by omega, by omega, by omega, by omega, S1, ST, (show Aside _ from ⟨0, by omega⟩), (show Aside _ from ⟨Blk.nil _ _, BK.out⟩)⟩
          case round =>
            clear S1 ST BK HDK
            obtain ⟨a2, b2, d2, rfl, rfl, hab1, hab2, htn, hkx2, S1, ST, AT, BK⟩ := hrel
            have hdk : d2.size = n := by rw [ST.out.size, HN.out]
            by_cases hb2 : b2 ≤ n
            · have hb2z : (b2 : Int) ≤ (n : Int) := by omega
              have hcall := SYM.out a2 (a2 + bs) b2 d2 wr (by omega) (by omega) (by omega) hdk S1.out (by obtain ⟨t, ht⟩ := AT.out; exact (BK.out.2.two ht).1 _ (by omega) (Nat.le_refl _)) (by obtain ⟨t, ht⟩ := AT.out; exact (BK.out.2.two ht).2 _ (by omega) (by omega))
              rw [show ((a2 + bs : Nat) : Int) = (a2 : Int) + (bs : Int) by omega] at hcall
              have HDK : Hid _ := hdk
              clear S1 hdk
              go_wp2_with (go_at_fn 22; refine hcall.mono ?_; rintro e w1 ⟨rfl, dj, hdj, HM, S3⟩)
              go_roundg (n - b2)
              case measure => omega
              case rel =>
                obtain ⟨t, ht⟩ := AT.out
                refine ⟨b2, b2 + 2 * bs, dj, rfl, by go_num, by omega, by omega, by omega, Nat.le_refl _, S3, ST.out.step HM hdj (by omega) (by rw [HN.out]; exact hb2), (show Aside _ from ⟨t + 1, ?_⟩), (show Aside _ from blocks_step ht BK.out.1 BK.out.2 HM (by omega))⟩
                rw [Nat.add_mul, Nat.one_mul, ← ht]; omega
            · have hb2z : ¬ (b2 : Int) ≤ (n : Int) := by omega
              by_cases hm : a2 + bs < n
              · have hmz : (a2 : Int) + (bs : Int) < (n : Int) := by omega
                have hcall := SYM.out a2 (a2 + bs) n d2 wr (by omega) (by omega) (by omega) hdk S1.out (by obtain ⟨t, ht⟩ := AT.out; exact (BK.out.2.two ht).1 _ (by omega) (Nat.le_refl _)) (by obtain ⟨t, ht⟩ := AT.out; exact (BK.out.2.two ht).2 _ (by omega) (by omega))
                rw [show ((a2 + bs : Nat) : Int) = (a2 : Int) + (bs : Int) by omega] at hcall
                have HDK : Hid _ := hdk
                clear S1 hdk
                go_wp2_with (go_at_fn 22; refine hcall.mono ?_; rintro e w1 ⟨rfl, dj, hdj, HM, S3⟩)
                go_roundg (2 * n - 2 * bs)
                case measure => omega
                case rel =>
                  obtain ⟨t, ht⟩ := AT.out
                  exact ⟨2 * bs, dj, by go_num, by omega, by omega, Nat.le_refl _, S3, ST.out.step HM hdj htn (by rw [HN.out]; exact Nat.le_refl _), (show Aside _ from (blocks_step ht BK.out.1 BK.out.2 HM htn).1)⟩
              · have hmz : ¬ (a2 : Int) + (bs : Int) < (n : Int) := by omega
                go_wp2
                go_roundg (2 * n - 2 * bs)
                case measure => omega
                case rel =>
                  obtain ⟨t, ht⟩ := AT.out
                  have hsrt : Sorted key (fun p => d2[p]!) a2 n := (BK.out.2.two ht).1 _ (Nat.le_refl _) (by omega)
                  exact ⟨2 * bs, d2, by go_num, by omega, by omega, Nat.le_refl _, S1, ST, (show Aside _ from (blocks_step ht BK.out.1 BK.out.2 (Merged.of_sorted hsrt) htn).1)⟩
        · have hbz : ¬ (bs : Int) < (n : Int) := by omega
          go_wp2
          go_end0
          refine ⟨rfl, dk, hdk, ?_, S1.out⟩
          have := ST.out.done (by rw [HN.out]; exact BK.out.sorted 0 (by omega) (by omega) (Nat.zero_le _) (Nat.le_refl _))
          rwa [HN.out] at this

end Go.Proofs.Qxb6614210a
