/-
  SEAT b6627994a: THE PLAIN LAYER, PART 3: what a bottom-up merge sort of indices keeps round by round, and that two sorted lists of the same pairs are one.
-/
import Derived.Test.Qxb6627994aHeap
namespace Go.Proofs.Qxb6627994a

/-- The order of pairs, as zzPairLess has it. -/
def plt (a b : Int × Int) : Bool := if a.1 = b.1 then decide (a.2 < b.2) else decide (a.1 < b.1)
def Ple (a b : Int × Int) : Prop := plt b a = false
theorem ple_iff (a b : Int × Int) : Ple a b ↔ (a.1 < b.1 ∨ (a.1 = b.1 ∧ a.2 ≤ b.2)) := by
  unfold Ple plt
  split
  · simp only [decide_eq_false_iff_not]; omega
  · simp only [decide_eq_false_iff_not]; omega
theorem ple_of_lt {a b : Int × Int} (h : plt a b = true) : Ple a b := by
  rw [ple_iff]; unfold plt at h
  split at h
  · simp only [decide_eq_true_eq] at h; omega
  · simp only [decide_eq_true_eq] at h; omega
theorem ple_trans {a b c : Int × Int} (h1 : Ple a b) (h2 : Ple b c) : Ple a c := by
  rw [ple_iff] at *; omega
theorem ple_antisymm {a b : Int × Int} (h1 : Ple a b) (h2 : Ple b a) : a = b := by
  rw [ple_iff] at *
  exact Prod.ext (by omega) (by omega)
theorem ple_refl (a : Int × Int) : Ple a a := by rw [ple_iff]; omega

/-- The values at s, .., s + m - 1. -/
def vals (s m : Nat) (A : Nat → Nat) : List Nat := (List.range' s m).map A
theorem vals_succ (s m : Nat) (A : Nat → Nat) : vals s (m + 1) A = vals s m A ++ [A (s + m)] := by
  unfold vals
  rw [← List.range'_append (n := 1)]; simp
theorem vals_append (s m k : Nat) (A : Nat → Nat) : vals s m A ++ vals (s + m) k A = vals s (m + k) A := by
  unfold vals
  rw [← List.map_append, ← List.range'_append (n := k)]; simp
theorem vals_congr (s m : Nat) (A B : Nat → Nat) (h : ∀ i, s ≤ i → i < s + m → A i = B i) : vals s m A = vals s m B := by
  unfold vals
  refine List.map_congr_left fun i hi => ?_
  rw [List.mem_range'_1] at hi
  exact h i hi.1 hi.2
theorem vals_zero (m : Nat) (A : Nat → Nat) : vals 0 m A = firsts m A := by
  unfold vals firsts; rw [List.range_eq_range']

/-- While two sorted stretches of A, at lo .. mid and mid .. hi, are merged into B at lo .. k: x and y are what comes next. -/
structure Mg (K : Nat → Int × Int) (A B : Nat → Nat) (lo mid hi x y k : Nat) : Prop where
  lox : lo ≤ x
  xm : x ≤ mid
  my : mid ≤ y
  yh : y ≤ hi
  k_eq : k + mid = x + y
  perm : (vals lo (k - lo) B).Perm (vals lo (x - lo) A ++ vals mid (y - mid) A)
  sorted : ∀ i j, lo ≤ i → i < j → j < k → Ple (K (B i)) (K (B j))
  left : ∀ i t, lo ≤ i → i < k → x ≤ t → t < mid → Ple (K (B i)) (K (A t))
  right : ∀ i t, lo ≤ i → i < k → y ≤ t → t < hi → Ple (K (B i)) (K (A t))

theorem mg_start (K : Nat → Int × Int) (A B : Nat → Nat) (lo mid hi : Nat) (h1 : lo ≤ mid) (h2 : mid ≤ hi) : Mg K A B lo mid hi lo mid lo :=
  ⟨Nat.le_refl _, h1, Nat.le_refl _, h2, by omega, by simp [vals], fun i j _ _ _ => by omega, fun i t _ _ _ _ => by omega, fun i t _ _ _ _ => by omega⟩

/-- Sorted from s up to e. -/
def Srt (K : Nat → Int × Int) (A : Nat → Nat) (s e : Nat) : Prop := ∀ i j, s ≤ i → i < j → j < e → Ple (K (A i)) (K (A j))

/-- The left one is taken. -/
theorem mg_left {K : Nat → Int × Int} {A B : Nat → Nat} {lo mid hi x y k : Nat} (h : Mg K A B lo mid hi x y k) (hsl : Srt K A lo mid) (hsr : Srt K A mid hi)
    (hx : x < mid) (hy : y < hi → plt (K (A y)) (K (A x)) = false) : Mg K A (upd B k (A x)) lo mid hi (x + 1) y (k + 1) := by
  have hlok : lo ≤ k := by have := h.k_eq; have := h.lox; have := h.my; omega
  have vo : ∀ t, t ≠ k → upd B k (A x) t = B t := fun t ht => upd_other _ _ _ _ ht
  have vk : upd B k (A x) k = A x := upd_same _ _ _
  refine ⟨by have := h.lox; omega, by omega, h.my, h.yh, by have := h.k_eq; omega, ?_, ?_, ?_, ?_⟩
  · rw [show k + 1 - lo = (k - lo) + 1 from by omega, vals_succ, show lo + (k - lo) = k from by omega, vk,
      vals_congr lo (k - lo) (upd B k (A x)) B (fun i h1 h2 => vo i (by omega)),
      show x + 1 - lo = (x - lo) + 1 from by have := h.lox; omega, vals_succ, show lo + (x - lo) = x from by have := h.lox; omega]
    refine (List.Perm.append_right _ h.perm).trans ?_
    rw [List.append_assoc, List.append_assoc]
    exact List.Perm.append_left _ List.perm_append_comm
  · intro i j hi hij hj
    by_cases e : j = k
    · rw [e, vk, vo i (by omega)]
      exact h.left i x hi (by omega) (Nat.le_refl _) hx
    · rw [vo j e, vo i (by omega)]
      exact h.sorted i j hi hij (by omega)
  · intro i t hi hik ht1 ht2
    by_cases e : i = k
    · rw [e, vk]; exact hsl x t h.lox (by omega) ht2
    · rw [vo i e]; exact h.left i t hi (by omega) (by omega) ht2
  · intro i t hi hik ht1 ht2
    by_cases e : i = k
    · rw [e, vk]
      have h1 : Ple (K (A x)) (K (A y)) := hy (by omega)
      by_cases e2 : t = y
      · rw [e2]; exact h1
      · exact ple_trans h1 (hsr y t h.my (by omega) ht2)
    · rw [vo i e]; exact h.right i t hi (by omega) ht1 ht2

/-- The right one is taken. -/
theorem mg_right {K : Nat → Int × Int} {A B : Nat → Nat} {lo mid hi x y k : Nat} (h : Mg K A B lo mid hi x y k) (hsl : Srt K A lo mid) (hsr : Srt K A mid hi)
    (hy : y < hi) (hx : x < mid → plt (K (A y)) (K (A x)) = true) : Mg K A (upd B k (A y)) lo mid hi x (y + 1) (k + 1) := by
  have hlok : lo ≤ k := by have := h.k_eq; have := h.lox; have := h.my; omega
  have vo : ∀ t, t ≠ k → upd B k (A y) t = B t := fun t ht => upd_other _ _ _ _ ht
  have vk : upd B k (A y) k = A y := upd_same _ _ _
  refine ⟨h.lox, h.xm, by have := h.my; omega, by omega, by have := h.k_eq; omega, ?_, ?_, ?_, ?_⟩
  · rw [show k + 1 - lo = (k - lo) + 1 from by omega, vals_succ, show lo + (k - lo) = k from by omega, vk,
      vals_congr lo (k - lo) (upd B k (A y)) B (fun i h1 h2 => vo i (by omega)),
      show y + 1 - mid = (y - mid) + 1 from by have := h.my; omega, vals_succ, show mid + (y - mid) = y from by have := h.my; omega]
    rw [← List.append_assoc]
    exact List.Perm.append_right _ h.perm
  · intro i j hi hij hj
    by_cases e : j = k
    · rw [e, vk, vo i (by omega)]
      exact h.right i y hi (by omega) (Nat.le_refl _) hy
    · rw [vo j e, vo i (by omega)]
      exact h.sorted i j hi hij (by omega)
  · intro i t hi hik ht1 ht2
    by_cases e : i = k
    · rw [e, vk]
      have h1 : Ple (K (A y)) (K (A x)) := ple_of_lt (hx (by omega))
      by_cases e2 : t = x
      · rw [e2]; exact h1
      · exact ple_trans h1 (hsl x t h.lox (by omega) ht2)
    · rw [vo i e]; exact h.left i t hi (by omega) ht1 ht2
  · intro i t hi hik ht1 ht2
    by_cases e : i = k
    · rw [e, vk]; exact hsr y t h.my (by omega) ht2
    · rw [vo i e]; exact h.right i t hi (by omega) (by omega) ht2

/-- Every stretch of w places, from a multiple of w on, is sorted, as far as m. -/
def SB (K : Nat → Int × Int) (w m : Nat) (A : Nat → Nat) : Prop := ∀ t i j, t * w ≤ i → i < j → j < t * w + w → j < m → Ple (K (A i)) (K (A j))

theorem sb_one (K : Nat → Int × Int) (m : Nat) (A : Nat → Nat) : SB K 1 m A := fun t i j h1 h2 h3 _ => by omega
theorem sb_whole {K : Nat → Int × Int} {w n : Nat} {A : Nat → Nat} (h : SB K w n A) (hw : n ≤ w) : Srt K A 0 n := fun i j _ h2 h3 => h 0 i j (by omega) h2 (by omega) h3

/-- What holds between two merges: the places below lo are done. -/
structure Md (K : Nat → Int × Int) (n w : Nat) (A B : Nat → Nat) (t : Nat) : Prop where
  perm : (firsts (min (t * (2 * w)) n) B).Perm (firsts (min (t * (2 * w)) n) A)
  sb : SB K (2 * w) (min (t * (2 * w)) n) B

theorem md_start (K : Nat → Int × Int) (n w : Nat) (A B : Nat → Nat) : Md K n w A B 0 :=
  ⟨by simp [firsts], fun t i j _ _ _ h => by simp at h⟩

theorem sb_left {K : Nat → Int × Int} {n w t : Nat} {A : Nat → Nat} (h : SB K w n A) : Srt K A (t * (2 * w)) (min (t * (2 * w) + w) n) := fun i j h1 h2 h3 =>
  h (2 * t) i j (by rw [show 2 * t * w = t * (2 * w) by rw [Nat.mul_comm 2 t, Nat.mul_assoc]]; exact h1) h2 (by rw [show 2 * t * w = t * (2 * w) by rw [Nat.mul_comm 2 t, Nat.mul_assoc]]; omega) (by omega)
theorem sb_right {K : Nat → Int × Int} {n w t : Nat} {A : Nat → Nat} (h : SB K w n A) : Srt K A (min (t * (2 * w) + w) n) (min (t * (2 * w) + 2 * w) n) := fun i j h1 h2 h3 => by
  have e : (2 * t + 1) * w = t * (2 * w) + w := by rw [Nat.add_mul, Nat.mul_comm 2 t, Nat.mul_assoc, Nat.one_mul]
  exact h (2 * t + 1) i j (by rw [e]; omega) h2 (by rw [e]; omega) (by omega)

theorem same_block {W s t j : Nat} (h1 : s * W ≤ j) (h2 : j < s * W + W) (h3 : t * W ≤ j) (h4 : j < t * W + W) : s = t := by
  rcases Nat.lt_trichotomy s t with h | h | h
  · have := Nat.mul_le_mul_right W (show s + 1 ≤ t from h)
    rw [Nat.add_mul, Nat.one_mul] at this; omega
  · exact h
  · have := Nat.mul_le_mul_right W (show t + 1 ≤ s from h)
    rw [Nat.add_mul, Nat.one_mul] at this; omega

/-- A merge is done: one stretch more. -/
theorem md_step {K : Nat → Int × Int} {n w t : Nat} {A B B' : Nat → Nat} (h : Md K n w A B t) (hlo : t * (2 * w) < n) {x y k : Nat}
    (hm : Mg K A B' (t * (2 * w)) (min (t * (2 * w) + w) n) (min (t * (2 * w) + 2 * w) n) x y k) (hk : k = min (t * (2 * w) + 2 * w) n) (hsame : ∀ i, i < t * (2 * w) → B' i = B i) :
    Md K n w A B' (t + 1) := by
  have et : (t + 1) * (2 * w) = t * (2 * w) + 2 * w := by rw [Nat.add_mul, Nat.one_mul]
  have hp := h.perm
  have hs := h.sb
  rw [show min (t * (2 * w)) n = t * (2 * w) from by omega] at hp hs
  have q1 := hm.lox
  have q2 := hm.xm
  have q3 := hm.my
  have q4 := hm.yh
  have q5 := hm.k_eq
  have q6 := hm.perm
  have q7 := hm.sorted
  clear hm
  generalize hlo' : t * (2 * w) = lo at *
  generalize hmid : min (lo + w) n = mid at *
  have hx : x = mid := by omega
  have hy : y = k := by omega
  constructor
  · rw [et, ← hk]
    rw [← vals_zero, ← vals_zero] at hp ⊢
    have e1 : vals 0 k B' = vals 0 lo B' ++ vals lo (k - lo) B' := by
      have := vals_append 0 lo (k - lo) B'
      rw [Nat.zero_add, show lo + (k - lo) = k from by omega] at this
      exact this.symm
    have e2 : vals 0 k A = vals 0 lo A ++ (vals lo (x - lo) A ++ vals mid (y - mid) A) := by
      have e3 := vals_append lo (x - lo) (y - mid) A
      rw [show lo + (x - lo) = mid from by omega] at e3
      rw [e3]
      have := vals_append 0 lo (x - lo + (y - mid)) A
      rw [Nat.zero_add, show lo + (x - lo + (y - mid)) = k from by omega] at this
      exact this.symm
    rw [e1, e2, vals_congr 0 lo B' B (fun i _ hi => hsame i (by omega))]
    exact List.Perm.append hp q6
  · rw [et, ← hk]
    intro s i j h1 h2 h3 h4
    by_cases hj : j < lo
    · rw [hsame i (by omega), hsame j hj]
      exact hs s i j h1 h2 h3 (by omega)
    · have : s = t := same_block (W := 2 * w) (j := j) (by omega) h3 (by omega) (by omega)
      subst this
      exact q7 i j (by omega) h2 h4
theorem md_end {K : Nat → Int × Int} {n w t : Nat} {A B : Nat → Nat} (h : Md K n w A B t) (hlo : n ≤ t * (2 * w)) : (firsts n B).Perm (firsts n A) ∧ SB K (2 * w) n B := by
  have h1 := h.perm
  have h2 := h.sb
  rw [show min (t * (2 * w)) n = n from by omega] at h1 h2
  exact ⟨h1, h2⟩

/-- OD, OS are the pairs of D, S in ascending order. -/
def SortedOf (n : Nat) (K O : Nat → Int × Int) : Prop := (firsts n O).Perm (firsts n K) ∧ ∀ i j, i < j → j < n → Ple (O i) (O j)
theorem sortedOf_mk {n : Nat} {K : Nat → Int × Int} {A : Nat → Nat} (hp : (firsts n A).Perm (List.range n)) (hs : Srt K A 0 n) : SortedOf n K (fun i => K (A i)) := by
  refine ⟨?_, fun i j h1 h2 => hs i j (Nat.zero_le _) h1 h2⟩
  have := hp.map K
  unfold firsts at *
  rw [List.map_map] at this
  exact this
theorem sorted_unique {n : Nat} {K K' O O' : Nat → Int × Int} (hK : (firsts n K).Perm (firsts n K')) (h : SortedOf n K O) (h' : SortedOf n K' O') : ∀ i, i < n → O i = O' i := by
  have e : firsts n O = firsts n O' := by
    refine List.Perm.eq_of_pairwise (le := Ple) (fun a b _ _ h1 h2 => ple_antisymm h1 h2) ?_ ?_ ((h.1.trans hK).trans h'.1.symm)
    · rw [List.pairwise_iff_getElem]
      intro i j hi hj hij
      rw [firsts_get, firsts_get]
      exact h.2 i j hij (by rw [firsts_length] at hj; exact hj)
    · rw [List.pairwise_iff_getElem]
      intro i j hi hj hij
      rw [firsts_get, firsts_get]
      exact h'.2 i j hij (by rw [firsts_length] at hj; exact hj)
  intro i hi
  have h1 := firsts_get n O i (by rw [firsts_length]; exact hi)
  have h2 := firsts_get n O' i (by rw [firsts_length]; exact hi)
  rw [← h1, ← h2]
  simp only [e]
theorem perm_lt {n : Nat} {A : Nat → Nat} (hp : (firsts n A).Perm (List.range n)) : ∀ i, i < n → A i < n := by
  intro i hi
  have : A i ∈ List.range n := hp.subset (by unfold firsts; exact List.mem_map.2 ⟨i, List.mem_range.2 hi, rfl⟩)
  exact List.mem_range.1 this
end Go.Proofs.Qxb6627994a
