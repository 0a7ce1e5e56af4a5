/-
  SEAT b6627994a: THE PLAIN LAYER, PART 2: the sift keeps the marks (a permutation) and makes a heap; all sifts from the last inner position back to the root make a heap of the same marks.
-/
import Derived.Test.Qxb6627994aPlain
namespace Go.Proofs.Qxb6627994a

/-- The first n values. -/
def firsts {α : Type} (n : Nat) (P : Nat → α) : List α := (List.range n).map P
theorem firsts_length {α : Type} (n : Nat) (P : Nat → α) : (firsts n P).length = n := by simp [firsts]
theorem firsts_get {α : Type} (n : Nat) (P : Nat → α) (i : Nat) (h : i < (firsts n P).length) : (firsts n P)[i] = P i := by simp [firsts]

theorem swp_perm (n i j : Nat) (P : Nat → Int × Int) (hi : i < n) (hj : j < n) : (firsts n (swp P i j)).Perm (firsts n P) := by
  have hs : (firsts n P).toArray.size = n := by simp [firsts_length]
  have h1 : i < (firsts n P).toArray.size := by omega
  have h2 : j < (firsts n P).toArray.size := by omega
  have hp := (Array.swap_perm h1 h2).toList
  have e : ((firsts n P).toArray.swap i j h1 h2).toList = firsts n (swp P i j) := by
    apply List.ext_getElem
    · simp [firsts_length]
    · intro t ht1 ht2
      rw [firsts_get, Array.getElem_toList, Array.getElem_swap]
      simp only [List.getElem_toArray, firsts_get, swp, upd]
      by_cases e1 : t = i
      · subst e1
        by_cases e2 : t = j
        · subst e2; simp
        · simp [e2]
      · by_cases e2 : t = j
        · subst e2; simp [e1]
        · simp [e1, e2]
  rw [e] at hp
  simpa using hp

theorem sw_perm (n : Nat) : ∀ (f k : Nat) (P : Nat → Int × Int), k < n → (firsts n (sw n f k P)).Perm (firsts n P)
  | 0, _, _, _ => List.Perm.refl _
  | f + 1, k, P, hk => by
    rw [sw]
    by_cases h : small n k P = k
    · rw [if_pos h]
    · rw [if_neg h]
      have hs : small n k P < n := by
        rcases small_cases n k P with h1 | h1 | h1
        · exact absurd h1 h
        · omega
        · omega
      exact (sw_perm n f _ _ hs).trans (swp_perm n k _ P hk hs)
theorem down_perm (n i : Nat) (P : Nat → Int × Int) (hi : i < n) : (firsts n (down n i P)).Perm (firsts n P) := by
  rw [down_eq_sw]; exact sw_perm n n i P hi

/-- Every pair of parent and child is in order whose parent lies at k0 or behind it. -/
def Hp (n k0 : Nat) (P : Nat → Int × Int) : Prop := ∀ j, 1 ≤ j → j < n → k0 ≤ (j - 1) / 2 → (P ((j - 1) / 2)).1 ≤ (P j).1
/-- The same but at p, whose children are not before p's parent. -/
def Inv (n k0 p : Nat) (P : Nat → Int × Int) : Prop :=
  (∀ j, 1 ≤ j → j < n → k0 ≤ (j - 1) / 2 → (j - 1) / 2 ≠ p → (P ((j - 1) / 2)).1 ≤ (P j).1) ∧
  (1 ≤ p → k0 ≤ (p - 1) / 2 → ∀ c, c < n → (c = 2 * p + 1 ∨ c = 2 * p + 2) → (P ((p - 1) / 2)).1 ≤ (P c).1)

theorem small_spec (n k : Nat) (P : Nat → Int × Int) :
    (P (small n k P)).1 ≤ (P k).1 ∧ (∀ c, c < n → (c = 2 * k + 1 ∨ c = 2 * k + 2) → (P (small n k P)).1 ≤ (P c).1) := by
  simp only [small]
  by_cases h1 : 2 * k + 1 < n ∧ (P (2 * k + 1)).1 < (P k).1
  · rw [if_pos h1]
    by_cases h2 : 2 * k + 2 < n ∧ (P (2 * k + 2)).1 < (P (2 * k + 1)).1
    · rw [if_pos h2]
      refine ⟨by omega, fun c _ hc => ?_⟩
      rcases hc with rfl | rfl <;> omega
    · rw [if_neg h2]
      refine ⟨by omega, fun c hcn hc => ?_⟩
      rcases hc with rfl | rfl <;> omega
  · rw [if_neg h1]
    by_cases h2 : 2 * k + 2 < n ∧ (P (2 * k + 2)).1 < (P k).1
    · rw [if_pos h2]
      refine ⟨by omega, fun c hcn hc => ?_⟩
      rcases hc with rfl | rfl <;> omega
    · rw [if_neg h2]
      refine ⟨by omega, fun c hcn hc => ?_⟩
      rcases hc with rfl | rfl <;> omega

theorem sw_heap (n k0 : Nat) : ∀ (f p : Nat) (P : Nat → Int × Int), n ≤ p + f → p < n → k0 ≤ p → Inv n k0 p P → Hp n k0 (sw n f p P)
  | 0, p, _, h1, h2, _, _ => by omega
  | f + 1, p, P, h1, h2, h3, hI => by
    rw [sw]
    obtain ⟨hs1, hs2⟩ := small_spec n p P
    by_cases h : small n p P = p
    · rw [if_pos h]
      rw [h] at hs2
      intro j hj1 hjn hk
      by_cases e : (j - 1) / 2 = p
      · rw [e]; exact hs2 j hjn (by omega)
      · exact hI.1 j hj1 hjn hk e
    · rw [if_neg h]
      have hc := small_cases n p P
      generalize small n p P = x at *
      have hx : x < n := by omega
      have hpx : p < x := by omega
      have hxp : (x - 1) / 2 = p := by omega
      have vp : swp P p x p = P x := by
        simp only [swp]; rw [upd_other _ _ _ _ (by omega), upd_same]
      have vx : swp P p x x = P p := by simp only [swp]; rw [upd_same]
      have vo : ∀ t, t ≠ p → t ≠ x → swp P p x t = P t := fun t h1 h2 => by
        simp only [swp]; rw [upd_other _ _ _ _ h2, upd_other _ _ _ _ h1]
      refine sw_heap n k0 f x (swp P p x) (by omega) hx (by omega) ⟨?_, ?_⟩
      · intro j hj1 hjn hk hne
        by_cases e : (j - 1) / 2 = p
        · rw [e, vp]
          by_cases ej : j = x
          · rw [ej, vx]; exact hs1
          · rw [vo j (by omega) ej]; exact hs2 j hjn (by omega)
        · rw [vo _ e hne]
          by_cases ej : j = p
          · rw [ej, vp]
            subst ej
            exact hI.2 hj1 hk x hx (by omega)
          · by_cases ej2 : j = x
            · subst ej2; omega
            · rw [vo j ej ej2]
              exact hI.1 j hj1 hjn hk e
      · intro _ _ c hcn hcc
        rw [hxp, vp, vo c (by omega) (by omega)]
        have := hI.1 c (by omega) hcn (by omega) (by omega)
        rwa [show (c - 1) / 2 = x from by omega] at this

theorem down_heap (n k : Nat) (P : Nat → Int × Int) (hk : k < n) (h : Hp n (k + 1) P) : Hp n k (down n k P) := by
  rw [down_eq_sw]
  refine sw_heap n k n k P (by omega) hk (Nat.le_refl _) ⟨fun j h1 h2 h3 h4 => h j h1 h2 (by omega), fun h1 h2 => by omega⟩

/-- The sifts at k - 1, .., 0. -/
def hfy (n : Nat) : Nat → (Nat → Int × Int) → Nat → Int × Int
  | 0, P => P
  | k + 1, P => hfy n k (down n k P)
theorem hfy_perm (n : Nat) : ∀ (k : Nat) (P : Nat → Int × Int), k ≤ n → (firsts n (hfy n k P)).Perm (firsts n P)
  | 0, _, _ => List.Perm.refl _
  | k + 1, P, h => (hfy_perm n k _ (by omega)).trans (down_perm n k P (by omega))
theorem hfy_heap (n : Nat) : ∀ (k : Nat) (P : Nat → Int × Int), k ≤ n → Hp n k P → Hp n 0 (hfy n k P)
  | 0, _, _, h => h
  | k + 1, P, hk, h => hfy_heap n k _ (by omega) (down_heap n k P (by omega) h)
theorem hfy_all (n : Nat) (P : Nat → Int × Int) : Hp n 0 (hfy n (n / 2) P) :=
  hfy_heap n (n / 2) P (by omega) (fun j h1 h2 h3 => by omega)
end Go.Proofs.Qxb6627994a
