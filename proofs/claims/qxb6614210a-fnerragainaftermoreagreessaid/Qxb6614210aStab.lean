/-
  THE PLAIN LAW OF A STABLE SORT, no Go in sight: segments of a function on numbers, 'the same list for every key' (Feq), rotations, merges.
-/
namespace Go.Proofs.Qxb6614210a.Stab
variable {α : Type}

def seg (f : Nat → α) (a b : Nat) : List α := (List.range' a (b - a)).map f

theorem seg_length (f : Nat → α) (a b : Nat) : (seg f a b).length = b - a := by simp [seg]
theorem seg_nil (f : Nat → α) {a b : Nat} (h : b ≤ a) : seg f a b = [] := by simp [seg, Nat.sub_eq_zero_of_le h]
theorem seg_one (f : Nat → α) (a : Nat) : seg f a (a + 1) = [f a] := by simp [seg]
theorem seg_append (f : Nat → α) {a m b : Nat} (h1 : a ≤ m) (h2 : m ≤ b) : seg f a b = seg f a m ++ seg f m b := by
  unfold seg
  rw [show b - a = (m - a) + (b - m) by omega, ← List.range'_append_1, List.map_append, show a + (m - a) = m by omega]
theorem mem_seg {f : Nat → α} {a b : Nat} {x : α} : x ∈ seg f a b ↔ ∃ p, a ≤ p ∧ p < b ∧ f p = x := by
  simp only [seg, List.mem_map, List.mem_range'_1]
  constructor
  · rintro ⟨p, ⟨h1, h2⟩, rfl⟩; exact ⟨p, h1, by omega, rfl⟩
  · rintro ⟨p, h1, h2, rfl⟩; exact ⟨p, ⟨h1, by omega⟩, rfl⟩
theorem seg_congr {f g : Nat → α} {a b : Nat} (h : ∀ p, a ≤ p → p < b → f p = g p) : seg f a b = seg g a b := by
  refine List.map_congr_left fun p hp => ?_
  rw [List.mem_range'_1] at hp
  exact h p hp.1 (by omega)
theorem seg_shift {f g : Nat → α} {a b c d : Nat} (hd : d - c = b - a) (h : ∀ t, t < b - a → f (a + t) = g (c + t)) : seg f a b = seg g c d := by
  refine List.ext_getElem (by simp [seg, hd]) fun t h1 h2 => ?_
  simp only [seg, List.getElem_map, List.getElem_range', Nat.one_mul]
  exact h t (by simpa [seg] using h1)

/-! ### The same list for every key -/
variable (key : α → Int)
def Feq (l l' : List α) : Prop := ∀ k, l.filter (fun x => key x == k) = l'.filter (fun x => key x == k)
variable {key}
theorem Feq.refl (l : List α) : Feq key l l := fun _ => rfl
theorem Feq.symm {l l' : List α} (h : Feq key l l') : Feq key l' l := fun k => (h k).symm
theorem Feq.trans {l l' l'' : List α} (h : Feq key l l') (h' : Feq key l' l'') : Feq key l l'' := fun k => (h k).trans (h' k)
theorem Feq.append {a a' b b' : List α} (h : Feq key a a') (h' : Feq key b b') : Feq key (a ++ b) (a' ++ b') := fun k => by
  rw [List.filter_append, List.filter_append, h k, h' k]
theorem Feq.swap {X Y : List α} (h : ∀ x ∈ X, ∀ y ∈ Y, key y < key x) : Feq key (X ++ Y) (Y ++ X) := fun k => by
  rw [List.filter_append, List.filter_append]
  by_cases hX : X.filter (fun x => key x == k) = []
  · rw [hX]; simp
  · obtain ⟨x, hx⟩ := List.exists_mem_of_ne_nil _ hX
    have hY : Y.filter (fun x => key x == k) = [] := by
      rw [List.filter_eq_nil_iff]
      intro y hy e
      have := h x (List.mem_filter.1 hx).1 y hy
      have e1 : key x = k := by simpa using (List.mem_filter.1 hx).2
      have e2 : key y = k := by simpa using e
      omega
    rw [hY]; simp
theorem Feq.mem {l l' : List α} (h : Feq key l l') {x : α} : x ∈ l ↔ x ∈ l' := by
  have := h (key x)
  constructor
  · intro hx
    have : x ∈ l'.filter (fun y => key y == key x) := by rw [← this]; exact List.mem_filter.2 ⟨hx, by simp⟩
    exact (List.mem_filter.1 this).1
  · intro hx
    have : x ∈ l.filter (fun y => key y == key x) := by rw [this]; exact List.mem_filter.2 ⟨hx, by simp⟩
    exact (List.mem_filter.1 this).1

/-! ### Sorted, merged -/
def Sorted (key : α → Int) (f : Nat → α) (a b : Nat) : Prop := ∀ i j, a ≤ i → i < j → j < b → key (f i) ≤ key (f j)

structure Merged (key : α → Int) (f g : Nat → α) (a b : Nat) : Prop where
  out : ∀ p, (p < a ∨ b ≤ p) → g p = f p
  srt : Sorted key g a b
  feq : Feq key (seg f a b) (seg g a b)

theorem Merged.of_sorted {f : Nat → α} {a b : Nat} (h : Sorted key f a b) : Merged key f f a b := ⟨fun _ _ => rfl, h, Feq.refl _⟩

/-- 'g is f with [a, b) told anew' lies inside every larger range. -/
theorem Feq.widen {f g : Nat → α} {a b c d : Nat} (h : Feq key (seg f a b) (seg g a b)) (out : ∀ p, (p < a ∨ b ≤ p) → g p = f p) (h1 : c ≤ a) (h2 : a ≤ b) (h3 : b ≤ d) : Feq key (seg f c d) (seg g c d) := by
  rw [seg_append f h1 (Nat.le_trans h2 h3), seg_append f h2 h3, seg_append g h1 (Nat.le_trans h2 h3), seg_append g h2 h3]
  refine Feq.append ?_ (Feq.append h ?_)
  · rw [seg_congr fun p _ hp => out p (.inl hp)]; exact Feq.refl _
  · rw [seg_congr fun p hp _ => out p (.inr hp)]; exact Feq.refl _

/-! ### A rotation: [a, m) and [m, b) change places -/
def ro (f : Nat → α) (a m b : Nat) : Nat → α := fun p => if a ≤ p ∧ p < a + (b - m) then f (p + (m - a)) else if a ≤ p ∧ p < b then f (p - (b - m)) else f p

theorem ro_lo (f : Nat → α) {a m b p : Nat} (h1 : a ≤ p) (h2 : p < a + (b - m)) : ro f a m b p = f (p + (m - a)) := by unfold ro; rw [if_pos ⟨h1, h2⟩]
theorem ro_hi (f : Nat → α) {a m b p : Nat} (h1 : a + (b - m) ≤ p) (h2 : p < b) : ro f a m b p = f (p - (b - m)) := by unfold ro; rw [if_neg (by omega), if_pos (by omega)]
theorem ro_out (f : Nat → α) {a m b p : Nat} (ham : a ≤ m) (h : p < a ∨ b ≤ p) : ro f a m b p = f p := by
  unfold ro
  by_cases hmb : m ≤ b
  · rw [if_neg (by omega), if_neg (by omega)]
  · rw [if_neg (by omega), if_neg (by omega)]
theorem ro_left (f : Nat → α) (a b : Nat) : ro f a a b = f := by
  funext p; unfold ro
  split
  · simp
  · split
    · rw [show p - (b - a) = p by omega]
    · rfl
theorem ro_right (f : Nat → α) (a m : Nat) : ro f a m m = f := by
  funext p; unfold ro
  split
  · omega
  · simp
theorem seg_ro (f : Nat → α) {a m b : Nat} (h1 : a ≤ m) (h2 : m ≤ b) : seg (ro f a m b) a b = seg f m b ++ seg f a m := by
  rw [seg_append _ (show a ≤ a + (b - m) by omega) (show a + (b - m) ≤ b by omega)]
  congr 1
  · refine seg_shift (by omega) fun t ht => ?_
    rw [ro_lo f (by omega) (by omega)]; congr 1; omega
  · refine seg_shift (by omega) fun t ht => ?_
    rw [ro_hi f (by omega) (by omega)]; congr 1; omega

/-- The cut of two sorted runs [a, m), [m, b) at s and e: X1 = [a, s), X2 = [s, m), Y1 = [m, e), Y2 = [e, b). -/
structure Cut (key : α → Int) (f : Nat → α) (a s m e b : Nat) : Prop where
  has : a ≤ s
  hsm : s ≤ m
  hme : m ≤ e
  heb : e ≤ b
  srt1 : Sorted key f a m
  srt2 : Sorted key f m b
  low : ∀ x y, a ≤ x → x < s → e ≤ y → y < b → key (f x) ≤ key (f y)
  high : ∀ x y, s ≤ x → x < m → m ≤ y → y < e → key (f y) < key (f x)

theorem Sorted.le {f : Nat → α} {a b i j : Nat} (h : Sorted key f a b) (h1 : a ≤ i) (h2 : i ≤ j) (h3 : j < b) : key (f i) ≤ key (f j) := by
  rcases Nat.eq_or_lt_of_le h2 with rfl | hlt
  · exact Int.le_refl _
  · exact h i j h1 hlt h3

theorem Cut.x1 {f : Nat → α} {a s m e b : Nat} (c : Cut key f a s m e b) : Sorted key (ro f s m e) a s := fun i j h1 h2 h3 => by
  rw [ro_out f c.hsm (.inl (by omega)), ro_out f c.hsm (.inl (by omega))]
  exact c.srt1 i j h1 h2 (by have := c.hsm; omega)
theorem Cut.y1 {f : Nat → α} {a s m e b : Nat} (c : Cut key f a s m e b) : Sorted key (ro f s m e) s (s + (e - m)) := fun i j h1 h2 h3 => by
  have := c.hsm; have := c.hme; have := c.heb
  rw [ro_lo f h1 (by omega), ro_lo f (by omega) h3]
  exact c.srt2 _ _ (by omega) (by omega) (by omega)
theorem Cut.x2 {f : Nat → α} {a s m e b : Nat} (c : Cut key f a s m e b) : Sorted key (ro f s m e) (s + (e - m)) e := fun i j h1 h2 h3 => by
  have := c.hsm; have := c.hme; have := c.heb; have := c.has
  rw [ro_hi f h1 (by omega), ro_hi f (by omega) h3]
  exact c.srt1 _ _ (by omega) (by omega) (by omega)
theorem Cut.y2 {f : Nat → α} {a s m e b : Nat} (c : Cut key f a s m e b) : Sorted key (ro f s m e) e b := fun i j h1 h2 h3 => by
  have := c.hsm; have := c.hme
  rw [ro_out f c.hsm (.inr h1), ro_out f c.hsm (.inr (by omega))]
  exact c.srt2 i j (by omega) h2 h3
/-- What lies low is at most what lies high. -/
theorem Cut.split {f : Nat → α} {a s m e b : Nat} (c : Cut key f a s m e b) {i j : Nat} (h1 : a ≤ i) (h2 : i < s + (e - m)) (h3 : s + (e - m) ≤ j) (h4 : j < b) : key (ro f s m e i) ≤ key (ro f s m e j) := by
  have hsm := c.hsm; have hme := c.hme; have heb := c.heb; have has := c.has
  by_cases hi : i < s
  · rw [ro_out f hsm (.inl hi)]
    by_cases hj : j < e
    · rw [ro_hi f h3 hj]; exact c.srt1 _ _ h1 (by omega) (by omega)
    · rw [ro_out f hsm (.inr (by omega))]; exact c.low i j h1 hi (by omega) h4
  · rw [ro_lo f (by omega) h2]
    by_cases hj : j < e
    · rw [ro_hi f h3 hj]; exact Int.le_of_lt (c.high _ _ (by omega) (by omega) (by omega) (by omega))
    · rw [ro_out f hsm (.inr (by omega))]; exact c.srt2 _ _ (by omega) (by omega) h4
theorem Cut.feq {f : Nat → α} {a s m e b : Nat} (c : Cut key f a s m e b) : Feq key (seg f a b) (seg (ro f s m e) a b) := by
  have hsm := c.hsm; have hme := c.hme; have heb := c.heb; have has := c.has
  refine Feq.widen (a := s) (b := e) ?_ (fun p hp => ro_out f hsm hp) has (by omega) heb
  rw [seg_ro f hsm hme, seg_append f hsm hme]
  refine Feq.swap fun x hx y hy => ?_
  obtain ⟨p, h1, h2, rfl⟩ := mem_seg.1 hx
  obtain ⟨q, h3, h4, rfl⟩ := mem_seg.1 hy
  exact c.high p q h1 h2 h3 h4

/-- THE STEP: rotated at the cut, then each half merged. -/
theorem Cut.merged {f g h : Nat → α} {a s m e b : Nat} (c : Cut key f a s m e b) (hg : Merged key (ro f s m e) g a (s + (e - m))) (hh : Merged key g h (s + (e - m)) b) : Merged key f h a b := by
  have hsm := c.hsm; have hme := c.hme; have heb := c.heb; have has := c.has
  refine ⟨fun p hp => ?_, fun i j h1 h2 h3 => ?_, ?_⟩
  · rw [hh.out p (by omega), hg.out p (by omega), ro_out f hsm (by omega)]
  · by_cases hi : i < s + (e - m)
    · by_cases hj : j < s + (e - m)
      · rw [hh.out i (.inl hi), hh.out j (.inl hj)]; exact hg.srt i j h1 h2 hj
      · -- i low, j high
        rw [hh.out i (.inl hi)]
        have m1 : g i ∈ seg (ro f s m e) a (s + (e - m)) := hg.feq.mem.2 (mem_seg.2 ⟨i, h1, hi, rfl⟩)
        have m2 : h j ∈ seg g (s + (e - m)) b := hh.feq.mem.2 (mem_seg.2 ⟨j, by omega, h3, rfl⟩)
        obtain ⟨p, p1, p2, p3⟩ := mem_seg.1 m1
        obtain ⟨q, q1, q2, q3⟩ := mem_seg.1 m2
        rw [← p3, ← q3, hg.out q (.inr q1)]
        exact c.split p1 p2 q1 q2
    · exact hh.srt i j (by omega) h2 h3
  · refine c.feq.trans ?_
    rw [seg_append _ (show a ≤ s + (e - m) by omega) (show s + (e - m) ≤ b by omega), seg_append h (show a ≤ s + (e - m) by omega) (show s + (e - m) ≤ b by omega)]
    refine Feq.append ?_ ?_
    · rw [seg_congr (f := h) (g := g) fun p _ hp => hh.out p (.inl hp)]; exact hg.feq
    · rw [seg_congr (f := ro f s m e) (g := g) fun p hp _ => (hg.out p (.inr hp)).symm]; exact hh.feq

theorem Merged.trans {f g h : Nat → α} {a b c : Nat} (h1 : Merged key f g a b) (h2 : Merged key g h a c) (hab : a ≤ b) (hbc : b ≤ c) : Merged key f h a c :=
  ⟨fun p hp => by rw [h2.out p hp, h1.out p (by omega)], h2.srt, (h1.feq.widen h1.out (Nat.le_refl _) hab hbc).trans h2.feq⟩

/-- ONE ELEMENT INSERTED FROM THE RIGHT: [a, i) sorted, the element at i put down to j. -/
theorem merged_right {f : Nat → α} {a j i : Nat} (hs : Sorted key f a i) (haj : a ≤ j) (hji : j ≤ i) (hi : ∀ x, j ≤ x → x < i → key (f i) < key (f x)) (lo : j = a ∨ key (f (j - 1)) ≤ key (f i)) :
    Merged key f (ro f j i (i + 1)) a (i + 1) := by
  have c : Cut key f a j i (i + 1) (i + 1) := ⟨haj, hji, by omega, Nat.le_refl _, hs, fun x y h1 h2 h3 => by omega, fun x y _ _ h3 h4 => by omega, fun x y h1 h2 h3 h4 => by
    rw [show y = i by omega]; exact hi x h1 h2⟩
  have e1 : j + (i + 1 - i) = j + 1 := by omega
  refine c.merged (g := ro f j i (i + 1)) (h := ro f j i (i + 1)) (Merged.of_sorted ?_) (Merged.of_sorted c.x2)
  rw [e1]
  intro p q h1 h2 h3
  by_cases hq : q < j
  · exact c.x1 p q h1 h2 hq
  · rw [show q = j by omega, ro_out f hji (.inl (by omega)), ro_lo f (Nat.le_refl _) (by omega), show j + (i - j) = i by omega]
    rcases lo with rfl | lo
    · omega
    · exact Int.le_trans (hs.le h1 (by omega) (by omega)) lo

/-- ONE ELEMENT INSERTED FROM THE LEFT: the element at a put up to i - 1; [a + 1, b) sorted. -/
theorem merged_left {f : Nat → α} {a i b : Nat} (hs : Sorted key f (a + 1) b) (h1 : a + 1 ≤ i) (h2 : i ≤ b) (lo : ∀ y, a + 1 ≤ y → y < i → key (f y) < key (f a)) (hi : i = b ∨ key (f a) ≤ key (f i)) :
    Merged key f (ro f a (a + 1) i) a b := by
  have c : Cut key f a a (a + 1) i b := ⟨Nat.le_refl _, by omega, h1, h2, fun x y _ _ _ => by omega, hs, fun x y _ _ => by omega, fun x y g1 g2 g3 g4 => by
    rw [show x = a by omega]; exact lo y g3 g4⟩
  refine c.merged (g := ro f a (a + 1) i) (h := ro f a (a + 1) i) (Merged.of_sorted c.y1) (Merged.of_sorted ?_)
  intro p q g1 g2 g3
  by_cases hp : i ≤ p
  · exact c.y2 p q hp g2 g3
  · rw [ro_hi f g1 (by omega), ro_out f (by omega) (.inr (by omega)), show p - (i - (a + 1)) = a by omega]
    rcases hi with rfl | hi
    · omega
    · exact Int.le_trans hi (hs.le h1 (by omega) g3)

end Go.Proofs.Qxb6614210a.Stab
