/-
  SEAT b6627930a: a slice of floats that came in, opened.
-/
import Derived.Test.Qxb6627930aPlain
import Derived.Deep.Slices
import Derived.Laws.Cover2
namespace Go.Proofs.Qxb6627930a
open Go.ChangeShapes Go.WideShapes Go.RowKit

/-- What the walks are told of a slice of floats that came in. -/
def IsRowF (w : World) (a : Option Addr) (len : Nat) (zs : List Nat) : Prop :=
  zs.length = len ∧ len ≤ maxLen ∧ (len ≠ 0 → ∃ b off, a = some ⟨b, off, none⟩ ∧ b < w.heap.size ∧ ∀ j, j < len → w.cell? ⟨b, off + j, none⟩ = some (.float .f64 (zs[j]?.getD 0)))

theorem add_spot (b off i : Nat) : (⟨b, off, none⟩ : Addr).add i = ⟨b, off + i, none⟩ := by
  unfold Addr.add; split <;> simp_all

section
variable {H : Type} {enc : TypeId × Value → H} {P : Program} {w : World} {base : Nat} {spare : Nat → Bool} {held : Bool}
theorem trod_float {t : TypeId} {k : FloatKind} {fuel : Nat} {v : Value} {x : DataW H × List MemPlace} (ht : P.underlying t = some (.float k)) (h : DataW.trod enc P w base spare held fuel t [v] = some x) : ∃ b, v = .float k b := by
  cases fuel with
  | zero => simp [DataW.trod] at h
  | succ n =>
    cases v <;> simp [DataW.trod, ht] at h
    obtain ⟨⟨rfl, _⟩, _⟩ := h
    exact ⟨_, rfl⟩
theorem open_floats {t e : TypeId} {fuel : Nat} {a : Option Addr} {len cap : Nat} {x : DataW H × List MemPlace} (ht : P.underlying t = some (.slice e)) (he : P.underlying e = some (.float .f64)) (hc : P.cellsOf e = 1)
    (h : DataW.trod enc P w base spare held fuel t [.slice a len cap] = some x) : ∃ zs, IsRowF w a len zs := by
  rcases Go.Deep.open_slice1 ht hc h with ⟨hcs, _⟩ | ⟨ad, l, c, m, n, V, D, Pl, hcs, _, hl, hm, hmm, _, hV⟩
  · simp at hcs
    obtain ⟨rfl, rfl, rfl⟩ := hcs
    exact ⟨[], rfl, Nat.zero_le _, fun h => absurd rfl h⟩
  · simp at hcs
    obtain ⟨rfl, rfl, rfl⟩ := hcs
    have hlm : len ≤ m := by rw [hmm]; split <;> omega
    obtain ⟨f, hf⟩ := Go.Deep.choose_lt (α := Nat) (n := len) (p := fun i b => w.cell? (ad.add i) = some (.float .f64 b)) (fun i hi => by
      obtain ⟨h1, h2⟩ := hV i (by omega)
      obtain ⟨b, hb⟩ := trod_float he h2
      exact ⟨b, by rw [h1, hb]⟩)
    refine ⟨(List.range len).map f, by simp, by omega, fun hne => ?_⟩
    obtain ⟨b, off, spot⟩ := ad
    have h0 := hf 0 (by omega)
    have hspot : spot = none := by simpa [Addr.add] using World.cell?_spot h0
    subst hspot
    refine ⟨b, off, rfl, ?_, fun j hj => ?_⟩
    · have := World.block_lt_of_cell? w _ h0
      simpa [Addr.add] using this
    · rw [← add_spot, hf j hj]
      simp [hj]
end
end Go.Proofs.Qxb6627930a
