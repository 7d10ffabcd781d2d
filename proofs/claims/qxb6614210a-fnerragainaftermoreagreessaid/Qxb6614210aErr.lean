/-
  slices.SortStableFunc over the problems; (*File).Err.
-/
import Derived.Test.Qxb6614210aSortF
import Derived.Test.Qxb6614210aFile
namespace Go.Proofs.Qxb6614210a
open Go.Shelf Go.RowKit Go.Lib Go.Sort Stab

def cmpZ (x y : Int) : Int := if x < y then -1 else if y < x then 1 else 0
theorem cmpZ_lt (x y : Int) : cmpZ x y < 0 ↔ x < y := by unfold cmpZ; split <;> (try split) <;> omega

set_option maxHeartbeats 400000 in
theorem compare_any (x y : Int) (w : World) : Calls Try.prog 18 #[.int .i64 x, .int .i64 y] w fun e w' => e = .returned (.int .i64 (cmpZ x y)) ∧ w' = w := by
  have hx : (x != x) = false := by simp
  have hy : (y != y) = false := by simp
  unfold cmpZ
  by_cases h1 : x < y
  · rw [if_pos h1]
    go_enter Try.func18, Try.ntmps18
    go_wp2
    go_ret
    exact ⟨rfl, rfl⟩
  · rw [if_neg h1]
    by_cases h2 : y < x
    · rw [if_pos h2]
      go_enter Try.func18, Try.ntmps18
      go_wp2
      go_ret
      exact ⟨rfl, rfl⟩
    · rw [if_neg h2]
      go_enter Try.func18, Try.ntmps18
      go_wp2
      go_ret
      exact ⟨rfl, rfl⟩

set_option maxHeartbeats 1000000 in
theorem closure_any (x y : Pr) (W : World) : Calls Try.prog 17 #[.agg #[.int .i64 x.1, .string x.2], .agg #[.int .i64 y.1, .string y.2]] W fun e w' => e = .returned (.int .i64 (cmpZ x.1 y.1)) ∧ ∃ q os', w' = grow (W.drewN q) os' := by
  have hcon := fun W' => compare_any x.1 y.1 W'
  generalize cmpZ x.1 y.1 = r at hcon ⊢
  go_enter Try.func17, Try.ntmps17
  go_wp2_with (go_at_call 18; refine (hcon _).mono ?_; rintro e w' ⟨rfl, rfl⟩)
  go_ret
  exact ⟨rfl, 0, _, by rw [alloc_eq_grow, alloc_eq_grow, grow_grow]; rfl⟩

theorem cmpLays17 (blk off size : Nat) (w : World) : CmpLays Try.prog 17 #[] encP 2 (fun x y : Pr => cmpZ x.1 y.1) blk off size w :=
  fun _ _ _ _ x y => closure_any x y _

theorem encP_len (x : Pr) : (encP x).length = 2 := rfl
theorem encP_one (x : Pr) : ∀ v ∈ encP x, v.oneCell' = true := fun v hv => by simp [encP] at hv; rcases hv with rfl | rfl <;> rfl

set_option maxHeartbeats 1000000 in
/-- slices.SortStableFunc over the problems. -/
theorem sortStable_any (blk cap : Nat) (d : Array Pr) (w : World) (hH : HoldsK encP 2 w blk 0 d) (hblk : blk < w.heap.size) (hsz : d.size < 1000000) :
    Calls Try.prog 16 #[.slice (some ⟨blk, 0, none⟩) d.size cap, .func (.func 17) #[] #[]] w fun e w' => e = .returned (.tuple #[]) ∧ ∃ d' : Array Pr, d'.size = d.size ∧ Merged Prod.fst (fun p => d[p]!) (fun p => d'[p]!) 0 d.size ∧ SWK encP 2 w blk 0 d' w' := by
  have eg : ∀ args w, (callFunc 17 args).run Try.prog w = .ok (.enter 17 args) w := enters_of Try.func17 (by kernel_rfl) rfl
  have hcon := stable_any env encP Prod.fst (fun x y : Pr => cmpZ x.1 y.1) (fun x y => cmpZ_lt _ _) 17 #[] blk 0 cap d w eg (cmpLays17 blk 0 d.size w) ⟨encP_len, encP_one, hH, hblk⟩ hsz
  clear hH
  go_enter Try.func16, Try.ntmps16
  go_wp2_with (go_at_call 19; refine hcon.mono ?_; rintro e w' ⟨rfl, d', h1, h2, h3⟩)
  go_end0
  exact ⟨rfl, d', h1, h2, h3⟩


/-! ### From 'ownsRow' to the sort's words and back -/
theorem flatP_get (ps : List Pr) (j : Nat) (h : j < ps.length * 2) : (flatP ps)[j]? = some (encP ps[j / 2]!)[j % 2]! := by
  rcases Nat.mod_two_eq_zero_or_one j with e | e
  · have := flatP_get0 ps (j / 2) (by omega)
    rw [show j / 2 * 2 = j by omega] at this
    rw [this, e]; rfl
  · have := flatP_get1 ps (j / 2) (by omega)
    rw [show j / 2 * 2 + 1 = j by omega] at this
    rw [this, e]; rfl

theorem flatK_flatP (d : Array Pr) : (flatK encP 2 d).toList = flatP d.toList := by
  refine List.ext_getElem? fun j => ?_
  by_cases h : j < d.size * 2
  · rw [flatP_get d.toList j (by simpa using h)]
    have h1 : j < (flatK encP 2 d).size := by rw [size_flatK]; exact h
    have h2 := get_flatK encP 2 d j h
    rw [getElem!_pos _ j h1] at h2
    rw [List.getElem?_eq_getElem (by simpa using h1), Array.getElem_toList, h2]
    have e : d.toList[j / 2]! = d[j / 2]! := by
      rw [getElem!_pos d (j / 2) (by omega), getElem!_pos d.toList (j / 2) (by simp; omega), Array.getElem_toList]
    rw [e]
  · rw [List.getElem?_eq_none (by simp; omega), List.getElem?_eq_none (by rw [flatP_length]; simp; omega)]

theorem holdsK_of_row {w : World} {g : Nat} {cur : Array Value} {e : TypeId} {ps : List Pr} (hb : w.heap[g]? = some (.cells cur e (0, 0))) (ht : cur.toList.take (ps.length * 2) = flatP ps) : HoldsK encP 2 w g 0 ps.toArray := by
  intro j hj
  rw [size_flatK] at hj
  have hj' : j < ps.length * 2 := by simpa using hj
  have h1 : cur[j]? = (flatP ps)[j]? := by
    rw [← ht, List.getElem?_take, if_pos hj']; simp
  refine ⟨?_, ?_⟩
  · rw [Nat.zero_add]
    have : w.cell? ⟨g, j, none⟩ = cur[j]? := by simp [World.cell?, hb]
    rw [this, h1, flatP_get ps j hj', get_flatK _ _ _ _ hj]
    simp
  · simp [World.frozen?, hb]

theorem putCells_take (F cur : Array Value) (h : F.size ≤ cur.size) : (putCells id 0 F cur).toList.take F.size = F.toList := by
  refine List.ext_getElem? fun j => ?_
  rw [List.getElem?_take]
  by_cases hj : j < F.size
  · rw [if_pos hj]
    have hc : j < cur.size := by omega
    simp [putCells, hj, hc]
  · rw [if_neg hj, List.getElem?_eq_none (by simpa using hj)]

theorem FileIs.sorted {w w' : World} {fb : Nat} {ps : List Pr} {g cap : Nat} {d' : Array Pr} (h : FileIs w fb (.slice (some ⟨g, 0, none⟩) ps.length cap) ps) (hg : fb + 1 ≤ g) (hs : d'.size = ps.length) (hS : SWK encP 2 w g 0 d' w') :
    FileIs w' fb (.slice (some ⟨g, 0, none⟩) ps.length cap) d'.toList ∧ Below fb w w' := by
  obtain ⟨n, os, rfl⟩ := hS
  rcases h.own.2 with ⟨h0, _⟩ | ⟨g', cap', cur, hv, _, hb, h1, h2, h3, h4⟩
  · cases h0
  obtain ⟨rfl, rfl⟩ : g = g' ∧ cap = cap' := by simpa using hv
  have hgl : g < w.heap.size := (Array.getElem?_eq_some_iff.1 hb).1
  have hblk : (sortWorldK encP 2 w g 0 n d' os).heap[g]? = some (.cells (putCells id 0 (flatK encP 2 d') cur) 46 (0, 0)) := by
    unfold sortWorldK
    rw [heap_grow_old _ _ (by rw [size_putRowK]; exact hgl)]
    show (w.heap.modify g _)[g]? = _
    rw [Array.getElem?_modify, if_pos rfl, hb]; rfl
  have hoth : ∀ k, k < w.heap.size → k ≠ g → (sortWorldK encP 2 w g 0 n d' os).heap[k]? = w.heap[k]? := fun k hk hne => by
    unfold sortWorldK
    rw [heap_grow_old _ _ (by rw [size_putRowK]; exact hk)]
    show (w.heap.modify g _)[k]? = _
    rw [Array.getElem?_modify, if_neg (Ne.symm hne)]
  have hsize : w.heap.size ≤ (sortWorldK encP 2 w g 0 n d' os).heap.size := size_sortWorldK_c encP 2 w g 0 n d' os
  have hfb := hoth fb h.lt (by omega)
  refine ⟨⟨Nat.lt_of_lt_of_le h.lt hsize, (World.cell?_of_block (w := w) hfb).trans h.cell, (World.frozen?_of_block (w := w) hfb).trans h.frz, ?_⟩, ⟨rfl, rfl, rfl, hsize, fun k hk => hoth k (Nat.lt_trans hk h.lt) (by omega)⟩⟩
  have hl : d'.toList.length = ps.length := by simpa using hs
  refine ⟨flatP_length _, .inr ⟨g, cap, _, by rw [hl], hg, hblk, by rw [hl]; exact h1, h2, by simpa [putCells] using h3, ?_⟩⟩
  have e : (flatK encP 2 d').size = d'.toList.length * 2 := by simp
  rw [← e, putCells_take _ _ (by rw [size_flatK, hs, h3]; exact Nat.mul_le_mul_right 2 h1)]
  exact flatK_flatP d'

theorem seg_list (d : Array Pr) : seg (fun p => d[p]!) 0 d.size = d.toList := by
  refine List.ext_getElem (by simp [seg]) fun j h1 h2 => ?_
  simp only [seg, List.getElem_map, List.getElem_range', Nat.one_mul, Nat.zero_add, Array.getElem_toList]
  exact getElem!_pos d j (by simpa using h2)

/-- (*File).Err where nothing was reported. -/
theorem err_nil (fb : Nat) (v : Value) (w : World) (h : FileIs w fb v []) : Calls Try.prog 10 #[.pointer (some ⟨fb, 0, none⟩)] w fun e w' => e = .returned .nilIface ∧ w' = w := by
  obtain ⟨hlt, hcell, hfrz, hown⟩ := h
  obtain ⟨ao, cp, rfl⟩ := owns_slice hown
  have e0 : ((([] : List Pr).length : Int) == 0) = true := rfl
  clear hown
  go_enter Try.func10, Try.ntmps10
  go_wp2
  go_ret
  exact ⟨rfl, rfl⟩

set_option maxHeartbeats 1000000 in
/-- (*File).Err where something was reported: the problems, sorted by line, stably. -/
theorem err_some (fb : Nat) (v : Value) (ps : List Pr) (w : World) (h : FileIs w fb v ps) (h0 : 0 < ps.length) (hn : ps.length < 1000000) :
    Calls Try.prog 10 #[.pointer (some ⟨fb, 0, none⟩)] w fun e w' => e = .returned (.iface 40 v) ∧ ∃ ps', ps'.length = ps.length ∧ FileIs w' fb v ps' ∧ Feq Prod.fst ps ps' ∧ SortedL Prod.fst ps' ∧ Below fb w w' := by
  have H := h
  obtain ⟨hlt, hcell, hfrz, hown⟩ := h
  rcases hown.2 with ⟨_, hz⟩ | ⟨g, cap, cur, rfl, hg, hb, h1, h2, h3, h4⟩
  · omega
  have hgl : g < w.heap.size := (Array.getElem?_eq_some_iff.1 hb).1
  have hcall := sortStable_any g cap ps.toArray w (holdsK_of_row hb h4) hgl (by simpa using hn)
  have e0 : ((ps.length : Int) == 0) = false := by rw [beq_eq_false_iff_ne]; omega
  simp only [List.size_toArray] at hcall
  have HH : Aside _ := H
  clear hown hb h1 h2 h3 h4 H
  go_enter Try.func10, Try.ntmps10
  go_wp2_with fail
  refine hcall.mono ?_
  rintro e w' ⟨rfl, d', hd', hM, hS⟩
  have hF := HH.out.sorted hg hd' hS
  have hcell' := hF.1.cell
  have HF : Aside _ := hF
  have HM : Aside _ := hM
  clear hF hM hS hcell hcall HH
  go_wp2
  go_ret
  refine ⟨rfl, d'.toList, by simpa using hd', HF.out.1, ?_, ?_, HF.out.2⟩
  · have := HM.out.feq
    rw [← hd', seg_list] at this
    have e : seg (fun p => ps.toArray[p]!) 0 d'.size = ps := by
      have := seg_list ps.toArray
      rwa [List.size_toArray, ← hd'] at this
    rwa [e] at this
  · have := sortedL_seg HM.out.srt
    rwa [← hd', seg_list] at this

end Go.Proofs.Qxb6614210a
