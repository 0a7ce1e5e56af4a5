/-
  SEAT b6627994a: THE PLAIN LAYER: the sift by a hole ('dn', expiryQueue.down) and the sift by swaps ('sw', zzSwapSiftDown) over a function of the index; they are one; the sift keeps the marks and makes a heap. No Go in sight, no import.
-/
namespace Go.Proofs.Qxb6627994a

def upd {α : Type} (f : Nat → α) (i : Nat) (v : α) : Nat → α := fun j => if j = i then v else f j
theorem upd_same {α : Type} (f : Nat → α) (i : Nat) (v : α) : upd f i v i = v := if_pos rfl
theorem upd_other {α : Type} (f : Nat → α) (i j : Nat) (v : α) (h : j ≠ i) : upd f i v j = f j := if_neg h
theorem upd_upd {α : Type} (f : Nat → α) (i : Nat) (u v : α) : upd (upd f i u) i v = upd f i v := by
  funext j; simp only [upd]; split <;> rfl
theorem upd_self {α : Type} (f : Nat → α) (i : Nat) : upd f i (f i) = f := by
  funext j; simp only [upd]; split
  · next h => rw [h]
  · rfl

/-- The child of i that the hole goes to: the right one only where it is sooner. -/
def child (n i : Nat) (P : Nat → Int × Int) : Nat := if 2 * i + 2 < n ∧ (P (2 * i + 2)).1 < (P (2 * i + 1)).1 then 2 * i + 2 else 2 * i + 1
/-- The sift by a hole. -/
def dn (n : Nat) (m : Int × Int) : Nat → Nat → (Nat → Int × Int) → Nat → Int × Int
  | 0, i, P => upd P i m
  | f + 1, i, P => if n ≤ 2 * i + 1 then upd P i m else if m.1 ≤ (P (child n i P)).1 then upd P i m else dn n m f (child n i P) (upd P i (P (child n i P)))
def down (n i : Nat) (P : Nat → Int × Int) : Nat → Int × Int := dn n (P i) n i P
/-- The least of k and its children: k first, then left, then right. -/
def small (n k : Nat) (P : Nat → Int × Int) : Nat :=
  let s := if 2 * k + 1 < n ∧ (P (2 * k + 1)).1 < (P k).1 then 2 * k + 1 else k
  if 2 * k + 2 < n ∧ (P (2 * k + 2)).1 < (P s).1 then 2 * k + 2 else s
def swp (P : Nat → Int × Int) (i j : Nat) : Nat → Int × Int := upd (upd P i (P j)) j (P i)
/-- The sift by swaps. -/
def sw (n : Nat) : Nat → Nat → (Nat → Int × Int) → Nat → Int × Int
  | 0, _, P => P
  | f + 1, k, P => if small n k P = k then P else sw n f (small n k P) (swp P k (small n k P))

theorem dn_stop (n : Nat) (m : Int × Int) (f i : Nat) (P : Nat → Int × Int) (hf : 1 ≤ f) (h : n ≤ 2 * i + 1 ∨ m.1 ≤ (P (child n i P)).1) : dn n m f i P = upd P i m := by
  obtain ⟨g, rfl⟩ : ∃ g, f = g + 1 := ⟨f - 1, by omega⟩
  rw [dn]
  by_cases h1 : n ≤ 2 * i + 1
  · rw [if_pos h1]
  · rw [if_neg h1, if_pos (by rcases h with h | h; exact absurd h h1; exact h)]
theorem dn_go (n : Nat) (m : Int × Int) (f i : Nat) (P : Nat → Int × Int) (hf : 1 ≤ f) (h1 : 2 * i + 1 < n) (h2 : ¬ m.1 ≤ (P (child n i P)).1) :
    dn n m f i P = dn n m (f - 1) (child n i P) (upd P i (P (child n i P))) := by
  obtain ⟨g, rfl⟩ : ∃ g, f = g + 1 := ⟨f - 1, by omega⟩
  rw [dn, if_neg (by omega), if_neg h2, Nat.add_sub_cancel]
theorem child_bounds (n i : Nat) (P : Nat → Int × Int) (h : 2 * i + 1 < n) : child n i P < n ∧ (child n i P = 2 * i + 1 ∨ child n i P = 2 * i + 2) := by
  unfold child; split <;> omega
theorem small_cases (n k : Nat) (P : Nat → Int × Int) : small n k P = k ∨ (small n k P = 2 * k + 1 ∧ 2 * k + 1 < n) ∨ (small n k P = 2 * k + 2 ∧ 2 * k + 2 < n) := by
  simp only [small]
  by_cases h1 : 2 * k + 1 < n ∧ (P (2 * k + 1)).1 < (P k).1
  · rw [if_pos h1]
    by_cases h2 : 2 * k + 2 < n ∧ (P (2 * k + 2)).1 < (P (2 * k + 1)).1
    · rw [if_pos h2]; exact .inr (.inr ⟨rfl, h2.1⟩)
    · rw [if_neg h2]; exact .inr (.inl ⟨rfl, h1.1⟩)
  · rw [if_neg h1]
    by_cases h2 : 2 * k + 2 < n ∧ (P (2 * k + 2)).1 < (P k).1
    · rw [if_pos h2]; exact .inr (.inr ⟨rfl, h2.1⟩)
    · rw [if_neg h2]; exact .inl rfl

theorem small_hole (n k : Nat) (m : Int × Int) (P : Nat → Int × Int) :
    small n k (upd P k m) = if n ≤ 2 * k + 1 then k else if m.1 ≤ (P (child n k P)).1 then k else child n k P := by
  have e1 : upd P k m (2 * k + 1) = P (2 * k + 1) := upd_other _ _ _ _ (by omega)
  have e2 : upd P k m (2 * k + 2) = P (2 * k + 2) := upd_other _ _ _ _ (by omega)
  have e0 : upd P k m k = m := upd_same _ _ _
  simp only [small, e1, e2, e0]
  by_cases h1 : n ≤ 2 * k + 1
  · rw [if_pos h1, if_neg (by omega : ¬ (2 * k + 1 < n ∧ _)), if_neg (by omega)]
  · rw [if_neg h1]
    unfold child
    by_cases hr : 2 * k + 2 < n ∧ (P (2 * k + 2)).1 < (P (2 * k + 1)).1
    · rw [if_pos hr]
      by_cases hm : m.1 ≤ (P (2 * k + 2)).1
      · rw [if_pos hm, if_neg (by omega : ¬ (2 * k + 1 < n ∧ _)), e0, if_neg (by omega)]
      · rw [if_neg hm]
        rw [if_pos]
        refine ⟨hr.1, ?_⟩
        split
        · rw [e1]; exact hr.2
        · rw [e0]; omega
    · rw [if_neg hr]
      by_cases hm : m.1 ≤ (P (2 * k + 1)).1
      · rw [if_pos hm, if_neg (by omega : ¬ (2 * k + 1 < n ∧ _)), e0, if_neg (by omega)]
      · rw [if_neg hm, if_pos (by omega : 2 * k + 1 < n ∧ _), e1, if_neg hr]

/-- THE TWO SIFTS ARE ONE. -/
theorem sw_eq_dn (n : Nat) (m : Int × Int) : ∀ (f k : Nat) (P : Nat → Int × Int), sw n f k (upd P k m) = dn n m f k P
  | 0, _, _ => rfl
  | f + 1, k, P => by
    rw [sw, dn, small_hole]
    by_cases h1 : n ≤ 2 * k + 1
    · rw [if_pos h1, if_pos h1, if_pos rfl]
    · rw [if_neg h1, if_neg h1]
      by_cases hm : m.1 ≤ (P (child n k P)).1
      · rw [if_pos hm, if_pos hm, if_pos rfl]
      · have hc := (child_bounds n k P (by omega)).2
        have hne : child n k P ≠ k := by omega
        rw [if_neg hm, if_neg hm, if_neg hne]
        have e : swp (upd P k m) k (child n k P) = upd (upd P k (P (child n k P))) (child n k P) m := by
          rw [swp, upd_same, upd_other _ _ _ _ hne, upd_upd]
        rw [e]
        exact sw_eq_dn n m f (child n k P) _
theorem down_eq_sw (n i : Nat) (P : Nat → Int × Int) : down n i P = sw n n i P := by
  rw [down, ← sw_eq_dn, upd_self]
end Go.Proofs.Qxb6627994a
