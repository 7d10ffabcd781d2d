/-
  THE PLAIN LAW OF A STABLE SORT, more: exchanges, ranges exchanged, blocks, uniqueness, ranks. No Go in sight.
-/
import Derived.Test.Qxb6614210aStab
namespace Go.Proofs.Qxb6614210a.Stab
variable {α : Type} {key : α → Int}

/-! ### Exchanges -/
def ex (g : Nat → α) (i j : Nat) : Nat → α := fun p => if p = j then g i else if p = i then g j else g p

def sw (f : Nat → α) (a b n : Nat) : Nat → α := fun p => if a ≤ p ∧ p < a + n then f (p + (b - a)) else if b ≤ p ∧ p < b + n then f (p - (b - a)) else f p
theorem sw_zero (f : Nat → α) (a b : Nat) : sw f a b 0 = f := by
  funext p; unfold sw; rw [if_neg (by omega), if_neg (by omega)]
theorem sw_succ (f : Nat → α) {a b n : Nat} (h : a + n + 1 ≤ b) : ex (sw f a b n) (a + n) (b + n) = sw f a b (n + 1) := by
  funext p
  unfold ex
  by_cases h1 : p = b + n
  · subst h1
    rw [if_pos rfl]; unfold sw
    rw [if_neg (by omega), if_neg (by omega), if_neg (by omega), if_pos (by omega)]; congr 1; omega
  · rw [if_neg h1]
    by_cases h2 : p = a + n
    · subst h2
      rw [if_pos rfl]; unfold sw
      rw [if_neg (by omega), if_neg (by omega), if_pos (by omega)]; congr 1; omega
    · rw [if_neg h2]; unfold sw
      by_cases h3 : a ≤ p ∧ p < a + n
      · rw [if_pos h3, if_pos (by omega)]
      · rw [if_neg h3, if_neg (show ¬ (a ≤ p ∧ p < a + (n + 1)) by omega)]
        by_cases h4 : b ≤ p ∧ p < b + n
        · rw [if_pos h4, if_pos (by omega)]
        · rw [if_neg h4, if_neg (show ¬ (b ≤ p ∧ p < b + (n + 1)) by omega)]

theorem ro_sw_left (f : Nat → α) {i j m : Nat} (h1 : j < i) (h2 : i ≤ m) : ro (sw f (m - i) m j) (m - (i - j)) m (m + j) = ro f (m - i) m (m + j) := by
  funext p
  unfold ro sw
  repeat' split
  all_goals first | (exfalso; omega) | (congr 1; omega) | rfl
theorem ro_sw_right (f : Nat → α) {i j m : Nat} (h1 : i < j) (h2 : i ≤ m) : ro (sw f (m - i) (m + j - i) i) (m - i) m (m + (j - i)) = ro f (m - i) m (m + j) := by
  funext p
  unfold ro sw
  repeat' split
  all_goals first | (exfalso; omega) | (congr 1; omega) | rfl
theorem ro_sw_same (f : Nat → α) {i m : Nat} (h2 : i ≤ m) : sw f (m - i) m i = ro f (m - i) m (m + i) := by
  funext p
  unfold ro sw
  repeat' split
  all_goals first | (exfalso; omega) | (congr 1; omega) | rfl
theorem ro_ex_left (f : Nat → α) {a k : Nat} (h : a ≤ k) : ex (ro f a (a + 1) (k + 1)) k (k + 1) = ro f a (a + 1) (k + 2) := by
  funext p
  unfold ex ro
  repeat' split
  all_goals first | (exfalso; omega) | (congr 1; omega) | rfl
theorem ro_ex_right (f : Nat → α) {k m : Nat} (h : k + 1 ≤ m) : ex (ro f (k + 1) m (m + 1)) (k + 1) k = ro f k m (m + 1) := by
  funext p
  unfold ex ro
  repeat' split
  all_goals first | (exfalso; omega) | (congr 1; omega) | rfl

/-! ### Blocks -/
def Blk (key : α → Int) (f : Nat → α) (bs lo hi : Nat) : Prop := ∀ t i j, t * bs ≤ i → i < j → j < (t + 1) * bs → lo ≤ i → j < hi → key (f i) ≤ key (f j)

theorem Blk.nil (f : Nat → α) (bs : Nat) : Blk key f bs 0 0 := fun _ _ _ _ _ _ _ h => by omega
theorem Blk.ext {f g : Nat → α} {bs t b : Nat} (h : Blk key f bs 0 (t * bs)) (hm : Merged key f g (t * bs) b) : Blk key g bs 0 b := by
  intro u i j h1 h2 h3 _ h5
  by_cases hj : j < t * bs
  · rw [hm.out i (.inl (by omega)), hm.out j (.inl hj)]
    exact h u i j h1 h2 h3 (Nat.zero_le _) hj
  · by_cases hi : t * bs ≤ i
    · exact hm.srt i j hi h2 h5
    · exfalso
      have hu : u < t := by
        rcases Nat.lt_or_ge u t with h | h
        · exact h
        · have := Nat.mul_le_mul_right bs h; omega
      have := Nat.mul_le_mul_right bs (show u + 1 ≤ t from hu)
      omega
theorem Blk.sorted {f : Nat → α} {bs lo hi : Nat} (h : Blk key f bs lo hi) (t : Nat) {a b : Nat} (h1 : t * bs ≤ a) (h2 : b ≤ (t + 1) * bs) (h3 : lo ≤ a) (h4 : b ≤ hi) : Sorted key f a b :=
  fun i j g1 g2 g3 => h t i j (by omega) g2 (by omega) (by omega) (by omega)
theorem Blk.rest {f g : Nat → α} {bs lo lo' hi : Nat} (h : Blk key f bs lo hi) (hl : lo ≤ lo') (out : ∀ p, lo' ≤ p → g p = f p) : Blk key g bs lo' hi :=
  fun t i j h1 h2 h3 h4 h5 => by rw [out i h4, out j (by omega)]; exact h t i j h1 h2 h3 (by omega) h5

/-! ### Two sorted lists that agree at every key are one -/
abbrev SortedL (key : α → Int) (l : List α) : Prop := l.Pairwise fun x y => key x ≤ key y

theorem sortedL_seg {f : Nat → α} {a b : Nat} (h : Sorted key f a b) : SortedL key (seg f a b) := by
  unfold SortedL seg
  rw [List.pairwise_map]
  rw [List.pairwise_iff_getElem]
  intro i j hi hj hij
  simp at hi hj
  simp only [List.getElem_range', Nat.one_mul]
  exact h _ _ (by omega) (by omega) (by omega)

theorem feq_unique : ∀ {l l' : List α}, Feq key l l' → SortedL key l → SortedL key l' → l = l'
  | [], l', h, _, _ => by
    cases l' with
    | nil => rfl
    | cons y r => exact absurd (h.mem.2 (List.mem_cons_self)) (by simp)
  | x :: t, [], h, _, _ => absurd (h.mem.1 (List.mem_cons_self)) (by simp)
  | x :: t, y :: r, h, s, s' => by
    have s1 := List.pairwise_cons.1 s
    have s2 := List.pairwise_cons.1 s'
    have hxy : key x ≤ key y := by
      rcases List.mem_cons.1 (h.mem.2 (List.mem_cons_self (a := y) (l := r))) with e | hm
      · rw [e]; exact Int.le_refl _
      · exact s1.1 y hm
    have hyx : key y ≤ key x := by
      rcases List.mem_cons.1 (h.mem.1 (List.mem_cons_self (a := x) (l := t))) with e | hm
      · rw [e]; exact Int.le_refl _
      · exact s2.1 x hm
    have e : key y = key x := by omega
    have hx : x = y := by
      have := h (key x)
      simp [e] at this
      exact this.1
    subst hx
    congr 1
    refine feq_unique (fun k => ?_) s1.2 s2.2
    have := h k
    simp only [List.filter_cons] at this
    by_cases hk : (key x == k) = true
    · simpa [hk] using this
    · simpa [hk] using this

theorem Feq.perm {l l' : List α} (h : Feq key l l') : l.Perm l' := by
  classical
  rw [List.perm_iff_count]
  intro a
  rw [← List.count_filter (p := fun x => key x == key a) (l := l) (by simp), h (key a), List.count_filter (by simp)]

/-! ### The place of an element: its rank -/
theorem filter_get (p : α → Bool) (l : List α) (j : Nat) (h : j < l.length) (hp : p l[j] = true) : (l.filter p)[(l.take j).countP p]? = some l[j] := by
  have e : l = l.take j ++ l[j] :: l.drop (j + 1) := by simp
  conv => lhs; rw [show (l.filter p) = (l.take j).filter p ++ (l[j] :: l.drop (j + 1)).filter p by rw [← List.filter_append, ← e]]
  rw [List.countP_eq_length_filter, List.getElem?_append_right (Nat.le_refl _), Nat.sub_self, List.filter_cons_of_pos hp]
  rfl

theorem filter_lt_eq_gt {l : List α} (h : SortedL key l) (k : Int) : l = l.filter (fun x => decide (key x < k)) ++ l.filter (fun x => key x == k) ++ l.filter (fun x => decide (k < key x)) := by
  induction l with
  | nil => rfl
  | cons x t ih =>
    have h1 := List.pairwise_cons.1 h
    have := ih h1.2
    by_cases a : key x < k
    · have b : (key x == k) = false := by simp; omega
      have c : ¬ k < key x := by omega
      rw [List.filter_cons_of_pos (by simpa using a), List.filter_cons_of_neg (by simp [b]), List.filter_cons_of_neg (by simpa using c)]
      simp only [List.cons_append]
      congr 1
    · have z1 : t.filter (fun x => decide (key x < k)) = [] := by
        rw [List.filter_eq_nil_iff]; intro y hy e; have := h1.1 y hy; simp at e; omega
      by_cases b : key x = k
      · rw [List.filter_cons_of_neg (by simpa using a), List.filter_cons_of_pos (by simpa using b), List.filter_cons_of_neg (by simp; omega), z1]
        rw [z1] at this
        simp only [List.nil_append, List.cons_append] at this ⊢
        congr 1
      · have z2 : t.filter (fun x => key x == k) = [] := by
          rw [List.filter_eq_nil_iff]; intro y hy e; have := h1.1 y hy; simp at e; omega
        rw [List.filter_cons_of_neg (by simpa using a), List.filter_cons_of_neg (by simpa using b), List.filter_cons_of_pos (by simp; omega), z1, z2]
        rw [z1, z2] at this
        simp only [List.nil_append] at this ⊢
        congr 1

theorem app_get (A B C : List α) (r : Nat) (y : α) (h : r < B.length) (hy : B[r]? = some y) : (A ++ B ++ C)[A.length + r]? = some y := by
  rw [List.append_assoc, List.getElem?_append_right (by omega), Nat.add_sub_cancel_left, List.getElem?_append_left h, hy]

theorem rank_get {l l' : List α} (h : Feq key l l') (s : SortedL key l') (j : Nat) (hj : j < l.length) :
    l'[l.countP (fun x => decide (key x < key l[j])) + (l.take j).countP (fun x => key x == key l[j])]? = some l[j] := by
  have e := filter_lt_eq_gt s (key l[j])
  have c : l.countP (fun x => decide (key x < key l[j])) = (l'.filter (fun x => decide (key x < key l[j]))).length := by
    rw [← List.countP_eq_length_filter]; exact h.perm.countP_eq _
  have g := filter_get (fun x => key x == key l[j]) l j hj (by simp)
  rw [h (key l[j])] at g
  have hlt : (l.take j).countP (fun x => key x == key l[j]) < (l'.filter (fun x => key x == key l[j])).length := (List.getElem?_eq_some_iff.1 g).1
  have := app_get (l'.filter (fun x => decide (key x < key l[j]))) _ (l'.filter (fun x => decide (key l[j] < key x))) _ _ hlt g
  rw [← e] at this
  rw [c]; exact this

/-- How many of the first n stand ahead of j. -/
def rk (f : Nat → Int) (j : Nat) : Nat → Nat
  | 0 => 0
  | n + 1 => rk f j n + if f n < f j ∨ (n < j ∧ f n = f j) then 1 else 0

theorem rk_le (f : Nat → Int) (j n : Nat) : rk f j n ≤ n := by
  induction n with
  | zero => exact Nat.le_refl _
  | succ n ih => unfold rk; split <;> omega

theorem rk_count (f : Nat → α) (j : Nat) : ∀ n, rk (fun i => key (f i)) j n = (seg f 0 n).countP (fun x => decide (key x < key (f j))) + (seg f 0 (min j n)).countP (fun x => key x == key (f j))
  | 0 => by simp [rk, seg]
  | n + 1 => by
    unfold rk
    rw [rk_count f j n, seg_append f (Nat.zero_le n) (Nat.le_succ n), seg_one, List.countP_append, List.countP_singleton]
    by_cases h : n < j
    · rw [show min j (n + 1) = n + 1 by omega, show min j n = n by omega, seg_append f (Nat.zero_le n) (Nat.le_succ n), seg_one, List.countP_append, List.countP_singleton]
      by_cases a : key (f n) < key (f j)
      · have b : (key (f n) == key (f j)) = false := by simp; omega
        simp [a, b]; omega
      · by_cases b : key (f n) = key (f j)
        · simp [h, b]; omega
        · simp [a, b]
    · rw [show min j (n + 1) = j by omega, show min j n = j by omega]
      by_cases a : key (f n) < key (f j)
      · simp [a]; omega
      · simp [a, h]

theorem rk_get (f : Nat → α) (n : Nat) {l' : List α} (h : Feq key (seg f 0 n) l') (s : SortedL key l') (j : Nat) (hj : j < n) :
    l'[rk (fun i => key (f i)) j n]? = some (f j) := by
  have hj' : j < (seg f 0 n).length := by rw [seg_length]; omega
  have e : (seg f 0 n)[j] = f j := by simp [seg]
  have := rank_get h s j hj'
  rw [e] at this
  rw [rk_count, show min j n = j by omega]
  have et : (seg f 0 n).take j = seg f 0 j := by
    rw [seg_append f (Nat.zero_le j) (Nat.le_of_lt hj), List.take_append_of_le_length (by simp [seg]), List.take_of_length_le (by simp [seg])]
  rw [et] at this
  exact this

end Go.Proofs.Qxb6614210a.Stab
