/-
  SEAT b6627930a: the walks of cmp.isNaN, cmp.Less, zzSame, zzLess at float64.
-/
import Derived.Test.Qxb6627930aRows
import Derived.Test.Qxb6627930aOrder
import Derived.WalkKit
import Derived.ProofKit
import Derived.WalkSpells
import Derived.WalkLawsBesides
import Derived.Sort.Row
namespace Go.Proofs.Qxb6627930a
open Go.RowKit
/-- A store of a float: the law that the walk's set lacks. -/
theorem run_store_float (P : Program) (w : World) (a : Addr) (m : Mode) (k : FloatKind) (b : Nat) : (store a (.float k b) m).run P w = stored P w a (.float k b) m := run_store P w a _ m rfl
/-- How an element lies in a cell. -/
abbrev encF : Nat → Value := fun x => Value.float .f64 x
theorem ret_bool {a b : Bool} (h : a = b) : Ending.returned (.bool a) = .returned (.bool b) := by rw [h]
set_option maxHeartbeats 400000 in
theorem cmp_isNaN (x : Nat) (w : World) : Calls Try.prog 35 #[.float .f64 x] w fun e w' => e = .returned (.bool (isNaNB x)) ∧ w' = w := by
  have hx := nan_form x
  go_enter Try.func35, Try.ntmps35
  go_wp2
  go_ret
  exact ⟨rfl, rfl⟩
set_option maxHeartbeats 400000 in
theorem cmp_Less (x y : Nat) (w : World) : Calls Try.prog 25 #[.float .f64 x, .float .f64 y] w fun e w' => e = .returned (.bool (ltF x y)) ∧ w' = w := by
  have h := less_form x y
  generalize hb : (FloatKind.f64.format.order x y == some .lt) = b at *
  have CX := cmp_isNaN x
  have CY := cmp_isNaN y
  obtain ⟨nx, hnx⟩ : ∃ nx, isNaNB x = nx := ⟨_, rfl⟩
  obtain ⟨ny, hny⟩ : ∃ ny, isNaNB y = ny := ⟨_, rfl⟩
  rw [hnx] at CX h
  rw [hny] at CY h
  have HX : Hid (∀ w, Calls Try.prog 35 #[.float .f64 x] w fun e w' => e = .returned (.bool nx) ∧ w' = w) := CX
  have HY : Hid (∀ w, Calls Try.prog 35 #[.float .f64 y] w fun e w' => e = .returned (.bool ny) ∧ w' = w) := CY
  have HL : Hid (((nx && !ny) || b) = ltF x y) := h
  clear h CX CY hnx hny
  cases nx
  · go_enter Try.func25, Try.ntmps25
    go_wp2_with fail
    refine (HX.out _).mono ?_
    rintro e w' ⟨rfl, rfl⟩
    go_wp2
    go_ret
    exact ⟨ret_bool (by rw [← HL.out]; rfl), rfl⟩
  · cases ny
    all_goals
      go_enter Try.func25, Try.ntmps25
      go_wp2_with fail
      refine (HX.out _).mono ?_
      rintro e w' ⟨rfl, rfl⟩
      go_wp2_with fail
      refine (HY.out _).mono ?_
      rintro e w' ⟨rfl, rfl⟩
      go_wp2
      go_ret
      exact ⟨ret_bool (by rw [← HL.out]; first | rfl | simp), rfl⟩
end Go.Proofs.Qxb6627930a
