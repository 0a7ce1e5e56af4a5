/-
  SEAT b6627930a: slices.Sort at []float64: the assembly.
-/
import Derived.Test.Qxb6627930aSortA
import Derived.Test.Qxb6627930aSortC4
import Derived.Test.Qxb6627930aSortC5
import Derived.Test.Qxb6627930aSort7
import Derived.Test.Qxb6627930aSort11
import Derived.Test.Qxb6627930aSort13
import Derived.Sort.AssemblyPlain
import Derived.Sort.WalkA14
namespace Go.Proofs.Qxb6627930a
attribute [local go_sem] run_store_float
open Go.RowKit Go.Sort
/-- .. at string. -/
def pdqWalk_f : Prop := ∀ (blk off cap a b limit : Nat) (d : Array Nat) (w : World), Holds (Value.float .f64) w blk off d → blk < w.heap.size → a ≤ b → b ≤ d.size → d.size < 4611686018427387904 → limit < 4611686018427387904 → Below ltF a b d →
  Calls Try.prog 17 #[.slice (some ⟨blk, off, none⟩) d.size cap, .int .i64 a, .int .i64 b, .int .i64 limit] w fun e w' =>
    e = .returned (.tuple #[]) ∧ ∃ n os, w' = grow (putRow (Value.float .f64) (Sort.ahead w n) blk off (Sort.pdq ltF d a b limit true true)) os

set_option maxRecDepth 100000 in
/-- WALK 14 OF THE PLAN, at str: slices.Sort's own body. -/
theorem Sort_f (hpdq : pdqWalk_f) (blk off cap : Nat) (d : Array Nat) (w : World) (hH : Holds (Value.float .f64) w blk off d) (hblk : blk < w.heap.size) (hsz : d.size < 4611686018427387904) :
    Calls Try.prog 14 #[.slice (some ⟨blk, off, none⟩) d.size cap] w fun e w' => e = .returned (.tuple #[]) ∧ ∃ n os, w' = grow (putRow (Value.float .f64) (Sort.ahead w n) blk off (Sort.sort ltF d)) os := by
  have HH : Hid (Holds (Value.float .f64) w blk off d) := hH
  clear hH
  have hLen : ∀ w, Calls Try.prog 18 #[.int .u64 (d.size : Int)] w fun e w' => e = .returned (.int .i64 (bitsLen d.size : Nat)) ∧ w' = w := fun w => by
    have h := bits_Len (d.size : Int) w (by omega) (by omega)
    rwa [Int.toNat_natCast, bitLen_eq _ (by omega)] at h
  have hk : bitsLen d.size ≤ 62 := (bitsLen_le_iff d.size 62).2 (by omega)
  go_enter Try.func14, Try.ntmps14
  go_wp2_with (first
    | (go_at_call 18; refine (hLen _).mono ?_; rintro e w' ⟨rfl, rfl⟩)
    | (go_at_call 17; refine (hpdq blk off cap 0 d.size (bitsLen d.size) d _ (by exact HH.out) (by exact hblk) (Nat.zero_le _) (Nat.le_refl _) hsz (by omega) (Or.inl rfl)).mono ?_; rintro e w' ⟨rfl, n, os, rfl⟩))
  go_end0
  exact ⟨rfl, n, os, rfl⟩

/-- insertionSortOrdered[str] of no element: 'i := 1; 1 < 0' is false. -/
theorem insertionSort_f_nil (p : Option Addr) (cap : Nat) (w : World) :
    Calls Try.prog 19 #[.slice p 0 cap, .int .i64 0, .int .i64 0] w fun e w' => e = .returned (.tuple #[]) ∧ w' = w := by
  go_enter Try.func19, Try.ntmps19
  go_wp2
  refine wp_loop_rounds 1 ?_
  rw [rounds_succ]
  go_wp2
  go_end0
  exact ⟨rfl, rfl⟩

set_option maxRecDepth 100000 in
/-- pdqsortOrdered[str] of no element: 'length <= maxInsertion' at once. -/
theorem pdqsort_f_nil (p : Option Addr) (cap : Nat) (w : World) :
    Calls Try.prog 17 #[.slice p 0 cap, .int .i64 0, .int .i64 0, .int .i64 0] w fun e w' => e = .returned (.tuple #[]) ∧ w' = w := by
  go_enter Try.func17, Try.ntmps17
  go_wp2
  refine wp_loop_rounds 1 ?_
  rw [rounds_succ]
  go_wp2_with (first | (go_at_call 19; refine (insertionSort_f_nil p cap _).mono ?_; rintro e w' ⟨rfl, rfl⟩))
  refine bodyPost_ret (results_none rfl _ _ _) rfl ?_      -- an explicit 'return' in a function without results
  exact ⟨rfl, rfl⟩

set_option maxRecDepth 100000 in
/-- slices.Sort of no element. -/
theorem Sort_f_nil (p : Option Addr) (cap : Nat) (w : World) :
    Calls Try.prog 14 #[.slice p 0 cap] w fun e w' => e = .returned (.tuple #[]) ∧ w' = w := by
  have hLen : ∀ w, Calls Try.prog 18 #[.int .u64 0] w fun e w' => e = .returned (.int .i64 0) ∧ w' = w := fun w => bits_Len 0 w (by omega) (by omega)
  go_enter Try.func14, Try.ntmps14
  go_wp2_with (first
    | (go_at_call 18; refine (hLen _).mono ?_; rintro e w' ⟨rfl, rfl⟩)
    | (go_at_call 17; refine (pdqsort_f_nil p cap _).mono ?_; rintro e w' ⟨rfl, rfl⟩))
  go_end0
  exact ⟨rfl, rfl⟩


theorem callees13f : Callees13f where
  ins := insertionSort_f
  brk := breakPatterns_f
  piv := choosePivot_f
  par := partialInsertionSort_f
  peq := partitionEqualOrdered_f
  prt := partitionOrdered_f
theorem plain13f : Plain13f where
  swo := swo_ltF
  ins := insertionSort_holds
  par := partialInsertionSort_holds
  prt := partition_holds _
  peq := partitionEqual_holds _
  pdq := pdq_sorts _
theorem pdqWalkF : pdqWalk_f := fun blk off cap a b limit d w hH hb hab hbd hsz hl hB =>
  pdqsort_f callees13f plain13f (b - a + 1) blk off cap a b limit d w (by omega) hH hb hab hbd hsz hl hB
/-- THE SORT SORTS: a permutation, ascending. -/
theorem sort_f (d : Array Nat) : PermIn 0 d.size d (Sort.sort ltF d) ∧ SortedIn ltF 0 d.size (Sort.sort ltF d) := sort_sorts ltF swo_ltF d
/-- slices.Sort at []float64. -/
theorem slices_Sort_f (blk off cap : Nat) (d : Array Nat) (w : World) (hH : Holds (Value.float .f64) w blk off d) (hblk : blk < w.heap.size) (hsz : d.size < 4611686018427387904) :
    Calls Try.prog 14 #[.slice (some ⟨blk, off, none⟩) d.size cap] w fun e w' => e = .returned (.tuple #[]) ∧ ∃ n os, w' = grow (putRow (Value.float .f64) (Sort.ahead w n) blk off (Sort.sort ltF d)) os :=
  Sort_f pdqWalkF blk off cap d w hH hblk hsz
end Go.Proofs.Qxb6627930a
