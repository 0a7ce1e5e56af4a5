/-
  SEAT b6627930a: THE ORDER OF float64 WORDS: each word has a rank (a class and a value); Go's '<', '==' and cmp.Less on float64 are those of the ranks. No program in this text.
-/
import GoSem.Core.Float
import Derived.Sort.Statements
namespace Go.Proofs.Qxb6627930a
open Ieee

/-- A word's rank: a NaN lies below all, then -Inf, the numbers by their value, +Inf. -/
def rkD (B : Int) : Datum → Int × Int
  | .nan .. => (-2, 0)
  | .infinity s => (if s then -1 else 1, 0)
  | .number s m i => (0, signed s m (i - B).toNat)
def rk (x : Nat) : Int × Int := rkD double.leastPlace (double.read x)
/-- The order of ranks. -/
def rlt (a b : Int × Int) : Bool := decide (a.1 < b.1 ∨ (a.1 = b.1 ∧ a.2 < b.2))
def isNaNB (x : Nat) : Bool := (rk x).1 == -2

theorem signed_scale (s : Bool) (m a c : Nat) : signed s m (a + c) = signed s m a * 2 ^ c := by
  unfold signed
  have h : ((m <<< (a + c) : Nat) : Int) = ((m <<< a : Nat) : Int) * 2 ^ c := by
    rw [Nat.shiftLeft_eq, Nat.shiftLeft_eq, Nat.pow_add, ← Nat.mul_assoc]
    simp
  split
  · rw [h, Int.neg_mul]
  · exact h
theorem cmp_scale (u v : Int) (c : Nat) : compare (u * 2 ^ c) (v * 2 ^ c) = compare u v := by
  have hp : (0 : Int) < 2 ^ c := Int.pow_pos (by decide)
  simp only [compare, compareOfLessAndEq]
  have h1 : u * 2 ^ c < v * 2 ^ c ↔ u < v := Int.mul_lt_mul_right hp
  have h2 : u * 2 ^ c = v * 2 ^ c ↔ u = v := ⟨fun h => Int.eq_of_mul_eq_mul_right (Int.ne_of_gt hp) h, fun h => by rw [h]⟩
  simp only [h1, h2]
/-- Two numbers compare as their values over whatever common place. -/
theorem cmp_base (s t : Bool) (m n : Nat) (i j B : Int) (hi : B ≤ i) (hj : B ≤ j) :
    compare (signed s m (i - min i j).toNat) (signed t n (j - min i j).toNat) = compare (signed s m (i - B).toNat) (signed t n (j - B).toNat) := by
  have e1 : (i - B).toNat = (i - min i j).toNat + (min i j - B).toNat := by omega
  have e2 : (j - B).toNat = (j - min i j).toNat + (min i j - B).toNat := by omega
  rw [e1, e2, signed_scale, signed_scale, cmp_scale]

/-- Every number's place is at least B. -/
def Placed (B : Int) : Datum → Prop
  | .number _ _ i => B ≤ i
  | _ => True
theorem read_placed (x : Nat) : Placed double.leastPlace (double.read x) := by
  unfold Format.read
  simp only
  split
  · exact Int.le_refl _
  · split
    · show double.leastPlace ≤ double.leastPlace + _; omega
    · split <;> trivial

theorem cmp_int (u v : Int) : compare u v = if u < v then .lt else if u = v then .eq else .gt := rfl
theorem num_rank (u v : Int) : some (compare u v) = if ((0, u) : Int × Int).1 = -2 ∨ ((0, v) : Int × Int).1 = -2 then none else if rlt (0, u) (0, v) then some .lt else if ((0, u) : Int × Int) = (0, v) then some .eq else some .gt := by
  rw [cmp_int]
  by_cases h1 : u < v
  · simp [h1, rlt]
  · by_cases h2 : u = v
    · subst h2; simp [rlt]
    · simp [h1, h2, rlt]
theorem order_rank (B : Int) (d e : Datum) (hd : Placed B d) (he : Placed B e) :
    d.order e = if (rkD B d).1 = -2 ∨ (rkD B e).1 = -2 then none else if rlt (rkD B d) (rkD B e) then some .lt else if rkD B d = rkD B e then some .eq else some .gt := by
  cases d with
  | nan s t => simp [Datum.order, rkD]
  | infinity s =>
    cases e with
    | nan t u => simp [Datum.order, rkD]
    | infinity t => cases s <;> cases t <;> rfl
    | number t n j => cases s <;> simp [Datum.order, rkD, rlt]
  | number s m i =>
    cases e with
    | nan t u => simp [Datum.order, rkD]
    | infinity t => cases t <;> simp [Datum.order, rkD, rlt]
    | number t n j =>
      simp only [Datum.order]
      rw [cmp_base s t m n i j B hd he]
      exact num_rank _ _

theorem ord_rank (x y : Nat) : FloatKind.f64.format.order x y = if (rk x).1 = -2 ∨ (rk y).1 = -2 then none else if rlt (rk x) (rk y) then some .lt else if rk x = rk y then some .eq else some .gt :=
  order_rank _ _ _ (read_placed x) (read_placed y)

/-- A rank's class is one of four; only a number has a value. -/
theorem rk_class (x : Nat) : (rk x).1 = -2 ∧ (rk x).2 = 0 ∨ (rk x).1 = -1 ∧ (rk x).2 = 0 ∨ (rk x).1 = 0 ∨ (rk x).1 = 1 ∧ (rk x).2 = 0 := by
  unfold rk
  cases double.read x with
  | nan s t => simp [rkD]
  | infinity s => cases s <;> simp [rkD]
  | number s m i => simp [rkD]

/-- cmp.Less at float64. -/
def ltF (x y : Nat) : Bool := rlt (rk x) (rk y)
/-- The same up to the order. -/
def eqF (x y : Nat) : Bool := rk x == rk y

theorem nan_form (x : Nat) : (FloatKind.f64.format.order x x != some .eq) = isNaNB x := by
  rw [ord_rank]; unfold isNaNB
  by_cases h : (rk x).1 = -2
  · simp [h]
  · simp [h, rlt]
theorem isNaN_iff (x : Nat) : isNaNB x = true ↔ rk x = (-2, 0) := by
  unfold isNaNB
  have := rk_class x
  constructor
  · intro h; simp at h; exact Prod.ext h (by simp; omega)
  · intro h; simp [h]
theorem lt_form (x y : Nat) : (FloatKind.f64.format.order x y == some .lt) = (!isNaNB x && !isNaNB y && rlt (rk x) (rk y)) := by
  rw [ord_rank]; unfold isNaNB
  by_cases h : (rk x).1 = -2
  · simp [h]
  · by_cases h2 : (rk y).1 = -2
    · simp [h2]
    · by_cases h3 : rlt (rk x) (rk y) = true
      · simp [h, h2, h3]
      · by_cases h4 : rk x = rk y <;> simp_all
theorem eq_form (x y : Nat) : (FloatKind.f64.format.order x y == some .eq) = (!isNaNB x && !isNaNB y && rk x == rk y) := by
  rw [ord_rank]; unfold isNaNB
  by_cases h : (rk x).1 = -2
  · simp [h]
  · by_cases h2 : (rk y).1 = -2
    · simp [h2]
    · by_cases h3 : rlt (rk x) (rk y) = true
      · have : rk x ≠ rk y := by intro e; rw [e] at h3; simp [rlt] at h3
        simp [h, h2, h3, this]
      · by_cases h4 : rk x = rk y <;> simp_all
/-- cmp.Less's own text. -/
theorem less_form (x y : Nat) : ((isNaNB x && !isNaNB y) || (FloatKind.f64.format.order x y == some .lt)) = ltF x y := by
  rw [lt_form]
  have hx := rk_class x
  have hy := rk_class y
  unfold isNaNB ltF rlt
  generalize rk x = a at *
  generalize rk y = b at *
  rw [Bool.eq_iff_iff]
  simp
  omega
/-- zzSame's own text. -/
theorem same_form (x y : Nat) : ((isNaNB x && isNaNB y) || (FloatKind.f64.format.order x y == some .eq)) = eqF x y := by
  rw [eq_form]
  have hx := rk_class x
  have hy := rk_class y
  unfold isNaNB eqF
  generalize rk x = a at *
  generalize rk y = b at *
  rw [Bool.eq_iff_iff]
  obtain ⟨a1, a2⟩ := a
  obtain ⟨b1, b2⟩ := b
  simp at *
  omega

theorem swo_ltF : Go.Sort.SWO ltF := by
  refine ⟨fun x => by simp [ltF, rlt], fun x y z h1 h2 => ?_, fun x y z h1 h2 => ?_⟩
  · simp only [ltF, rlt, decide_eq_true_eq] at *; omega
  · simp only [ltF, rlt, decide_eq_false_iff_not] at *; omega
end Go.Proofs.Qxb6627930a
