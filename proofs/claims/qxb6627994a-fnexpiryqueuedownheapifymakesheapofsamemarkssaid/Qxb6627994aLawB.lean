/-
  SEAT b6627994a: the law FnExpiryQueueDownHeapifyMakesHeapOfSameMarks, out of the contracts.
-/
import Derived.Test.Qxb6627994aWalksB
import Derived.Test.Qxb6627994aWalksD
import Derived.Test.Qxb6627994aLawA
namespace Go.Proofs.Qxb6627994a
open Go.RowKit Go.Deep
set_option maxHeartbeats 400000 in
theorem bytes15_yes (a0 a1 : Option Addr) (n0 n1 c0 c1 : Nat) (w : World) (h : n0 + n1 ≤ 1048576) :
    Calls Try.prog 15 #[.slice a0 n0 c0, .slice a1 n1 c1] w fun e w' => e = .returned (.bool true) ∧ w' = w := by
  go_enter Try.func15, Try.ntmps15
  go_wp2
  go_ret
  exact ⟨rfl, rfl⟩
set_option maxHeartbeats 400000 in
theorem bytes15_no (a0 a1 : Option Addr) (n0 n1 c0 c1 : Nat) (w : World) (h0 : n0 ≤ maxLen) (h1 : n1 ≤ maxLen) (h : ¬ n0 + n1 ≤ 1048576) :
    Calls Try.prog 15 #[.slice a0 n0 c0, .slice a1 n1 c1] w fun e w' => e = .returned (.bool false) ∧ w' = w := by
  unfold maxLen at h0 h1
  go_enter Try.func15, Try.ntmps15
  go_wp2
  all_goals (go_ret; exact ⟨rfl, rfl⟩)

set_option maxRecDepth 100000 in
set_option maxHeartbeats 1600000 in
theorem law4_in (a0 a1 : Option Addr) (n c0 c1 b0 o0 b1 o1 : Nat) (D S : Nat → Int) (w : World) (h0 : 0 < n → a0 = some ⟨b0, o0, none⟩) (h1 : 0 < n → a1 = some ⟨b1, o1, none⟩)
    (g0 : ∀ i, i < n → w.cell? ⟨b0, o0 + i, none⟩ = some (.int .i64 (D i))) (g1 : ∀ i, i < n → w.cell? ⟨b1, o1 + i, none⟩ = some (.int .i64 (S i))) (hn : n ≤ 65536) :
    Calls Try.prog 4 #[.slice a0 n c0, .slice a1 n c1] w fun e w' => e = .returned (.bool true) ∧ Below w.heap.size w w' := by
  have hb1 : 0 < n → b1 < w.heap.size := fun h => World.block_lt_of_cell? _ _ (g1 0 h)
  have G0 : Hid (∀ i, i < n → w.cell? ⟨b0, o0 + i, none⟩ = some (.int .i64 (D i))) := g0
  have G1 : Hid (∀ i, i < n → w.cell? ⟨b1, o1 + i, none⟩ = some (.int .i64 (S i))) := g1
  have Z0 : Hid (0 < n → a0 = some ⟨b0, o0, none⟩) := h0
  have Z1 : Hid (0 < n → a1 = some ⟨b1, o1, none⟩) := h1
  clear g0 g1 h0 h1
  go_enter Try.func4, Try.ntmps4
  go_wp2_with fail
  refine (bytes15_yes a0 a1 n n c0 c1 _ (by omega)).mono ?_
  rintro e w' ⟨rfl, rfl⟩
  go_wp2_with fail
  refine (clone7 a0 b0 o0 n c0 D _ Z0.out G0.out hn).mono ?_
  rintro e v1 ⟨a2, rfl, hA, F1⟩
  have A1 : Hid (0 < n → a2 = some ⟨w'.heap.size, 0, none⟩ ∧ v1.rowIs w'.heap.size 2 n (ints D)) := hA
  clear hA
  go_wp2_with fail
  refine (clone8 a1 b1 o1 n c1 S _ Z1.out (fun i hi => (F1.cell (hb1 (by omega)) (fun h => h)).trans (G1.out i hi)) hn).mono ?_
  rintro e v2 ⟨a3, rfl, hA, F2⟩
  have A2 : Hid (0 < n → a3 = some ⟨v1.heap.size, 0, none⟩ ∧ v2.rowIs v1.heap.size 3 n (ints S)) := hA
  clear hA
  have r1 : ∀ i, i < n → v2.rowIs w'.heap.size 2 n (ints D) := fun i hi => F2.row (A1.out (by omega)).2 (fun h => h)
  have r2 : ∀ i, i < n → v2.rowIs v1.heap.size 3 n (ints S) := fun i hi => (A2.out (by omega)).2
  go_wp2_with fail
  refine (new10 a2 a3 w'.heap.size 0 v1.heap.size 0 n n n D S _ (fun h => (A1.out h).1) (fun h => (A2.out h).1) (fun i hi => by rw [Nat.zero_add]; exact (r1 i hi).cell hi) (fun i hi => by rw [Nat.zero_add]; exact (r2 i hi).cell hi) hn).mono ?_
  rintro e v3 ⟨rfl, q3, R3, F3⟩
  have s1 := F1.size
  have s2 := F2.size
  have s3 := F3.size
  have q3l := World.block_lt_of_cell? _ _ q3
  have Q3 : Hid (v3.cell? ⟨v2.heap.size + 1, 0, none⟩ = some (.slice (some ⟨v2.heap.size, 0, none⟩) n n)) := q3
  clear q3
  go_wp2_with fail
  go_loopw [7] (fun v wr => ∃ (t : Nat) (z : Int) (Q : Nat → Int × Int), v = .int .i64 z ∧ z = (t : Int) - 1 ∧ t ≤ n / 2 ∧ Frm (fun k => k = v2.heap.size) v3 wr ∧ wr.rowIs v2.heap.size 42 (n * 2) (mrkP Q) ∧
      hfy n t Q = hfy n (n / 2) (fun i => (D i, S i))) (fun v _ => (intOf v + 1).toNat)
  case atStart => exact ⟨n / 2, _, fun i => (D i, S i), rfl, by omega, Nat.le_refl _, Frm.refl _ _, R3, rfl⟩
  case round =>
    obtain ⟨t, z, Q, rfl, hz, ht, hF, hR, hH⟩ := hrel
    have HH : Hid (hfy n t Q = hfy n (n / 2) (fun i => (D i, S i))) := hH
    clear hH
    by_cases ht0 : 0 < t
    · obtain ⟨s, rfl⟩ : ∃ s, t = s + 1 := ⟨t - 1, by omega⟩
      obtain rfl : z = (s : Int) := by omega
      clear hz
      go_wp2_with fail
      refine (down11 _ _ n s Q _ ((hF.cell q3l (by show ¬ v2.heap.size + 1 = v2.heap.size; omega)).trans Q3.out) hR (by omega) (by omega) hn).mono ?_
      rintro e w2 ⟨rfl, hR2, hF2⟩
      go_wp2
      go_roundw
      case rel => exact ⟨s, _, down n s Q, rfl, rfl, by omega, hF.trans hF2, hR2, by rw [← HH.out]; rfl⟩
      case measure => simp [intOf]
    · obtain rfl : t = 0 := by omega
      obtain rfl : z = -1 := by omega
      have HQ : Hid (Q = hfy n (n / 2) (fun i => (D i, S i))) := HH.out
      clear hz HH
      have hp := hfy_perm n (n / 2) (fun i => (D i, S i)) (by omega)
      have hh := hfy_all n (fun i => (D i, S i))
      rw [← HQ.out] at hp hh
      obtain ⟨v4, hv4⟩ : ∃ v4 : World, v4 = wr := ⟨_, rfl⟩
      subst hv4
      go_wp2_with fail
      refine (dead12 (v2.heap.size + 1) v2.heap.size n _ _ _ ((hF.cell q3l (by show ¬ v2.heap.size + 1 = v2.heap.size; omega)).trans Q3.out) hR hn).mono ?_
      rintro e v5 ⟨rfl, R5, F5⟩
      have s5 := F5.size
      have s4 := hF.size
      go_wp2_with fail
      refine (slot13 (v2.heap.size + 1) v2.heap.size n _ _ _ ((F5.cell (by show v2.heap.size + 1 < _; omega) (fun h => h)).trans ((hF.cell q3l (by show ¬ v2.heap.size + 1 = v2.heap.size; omega)).trans Q3.out)) (F5.row hR (fun h => h)) hn).mono ?_
      rintro e v6 ⟨rfl, R6, F6⟩
      have R5' := F6.row R5 (fun h => h)
      have s6 := F6.size
      have hnn : ((n : Int) != (n : Int)) = false := by simp
      go_wp2_with fail
      go_loopw [10] (fun v wr => ∃ (j m : Nat), v = .int .i64 j ∧ 1 ≤ j ∧ wr = v6.drewN m) (fun v _ => n - (intOf v).toNat)
      case atStart => exact ⟨1, 0, rfl, by omega, rfl⟩
      case round =>
        obtain ⟨j, m, rfl, hj1, rfl⟩ := hrel
        by_cases hj : j < n
        · have hle := hh j hj1 hj (Nat.zero_le _)
          have e0 : v6.cell? ⟨v4.heap.size, j, none⟩ = some (.int .i64 (Q j).1) := R5'.cell hj
          have e1 : v6.cell? ⟨v4.heap.size, (((j : Int) - 1) / 2).toNat, none⟩ = some (.int .i64 (Q ((j - 1) / 2)).1) := by
            rw [show (((j : Int) - 1) / 2).toNat = (j - 1) / 2 by omega]; exact R5'.cell (by omega)
          have e2 : v6.cell? ⟨v4.heap.size, (j - 1) / 2, none⟩ = some (.int .i64 (Q ((j - 1) / 2)).1) := R5'.cell (by omega)
          have e3 : v6.cell? ⟨v4.heap.size, ((j : Int) - 1).toNat / 2, none⟩ = some (.int .i64 (Q ((j - 1) / 2)).1) := by
            rw [show ((j : Int) - 1).toNat / 2 = (j - 1) / 2 by omega]; exact e2
          have i0 : 0 ≤ ((j : Int) - 1) / 2 := by omega
          have i1 : ((j : Int) - 1) / 2 < (n : Int) := by omega
          have i2 : (j : Int) < (n : Int) := by omega
          have hlt : decide ((Q j).1 < (Q ((j - 1) / 2)).1) = false := decide_eq_false (by omega)
          go_wp2_with fail
          go_big_quiet (fail)
          go_wp2
          go_roundw
          case rel => exact ⟨j + 1, _, by go_num, by omega, rfl⟩
          case measure => simp [intOf]; omega
        · have F7 : Frm Non v6 (v6.drewN m) := (Frm.refl _ _).drewN m
          generalize v6.drewN m = v7 at *
          have s7 := F7.size
          have r7 : ∀ i, i < n → v7.rowIs w'.heap.size 2 n (ints D) ∧ v7.rowIs v1.heap.size 3 n (ints S) := fun i hi => by
            have l1 := (r1 i hi).lt
            have l2 := (r2 i hi).lt
            exact ⟨F7.row (F6.row (F5.row (hF.row (F3.row (r1 i hi) (fun h => h)) (by omega)) (fun h => h)) (fun h => h)) (fun h => h),
              F7.row (F6.row (F5.row (hF.row (F3.row (r2 i hi) (fun h => h)) (by omega)) (fun h => h)) (fun h => h)) (fun h => h)⟩
          go_wp2_with fail
          refine (sort16 a2 a3 w'.heap.size v1.heap.size n n n D S _ (fun h => (A1.out h).1) (fun h => (A2.out h).1) (fun i hi => (r7 i hi).1.cell hi) (fun i hi => (r7 i hi).2.cell hi) hn).mono ?_
          rintro e v8 ⟨p1, p2, O, rfl, T1, T2, hO, F8⟩
          have s8 := F8.size
          have R8 := F8.row (F7.row R5' (fun h => h)) (fun h => h)
          have R9 := F8.row (F7.row R6 (fun h => h)) (fun h => h)
          have U1 : Hid (v8.rowIs v4.heap.size 2 n (ints fun i => (Q i).1)) := R8
          have U2 : Hid (v8.rowIs v5.heap.size 3 n (ints fun i => (Q i).2)) := R9
          clear R8 R9
          go_wp2_with fail
          refine (sort16 _ _ v4.heap.size v5.heap.size n n n (fun i => (Q i).1) (fun i => (Q i).2) _ (fun h => rfl) (fun h => rfl) (fun i hi => U1.out.cell hi) (fun i hi => U2.out.cell hi) hn).mono ?_
          rintro e v9 ⟨p3, p4, O', rfl, T3, T4, hO', F9⟩
          have hOO := sorted_unique (K := fun i => ((Q i).1, (Q i).2)) (K' := fun i => (D i, S i)) hp hO' hO
          have T1' := F9.row T1 (fun h => h)
          have T2' := F9.row T2 (fun h => h)
          have s9 := F9.size
          go_wp2_with fail
          refine (same14 _ _ _ _ p3 p4 p1 p2 n n n n n (fsts O) (snds O) _
            (fun _ => rfl) (fun _ => rfl) (fun _ => rfl) (fun _ => rfl)
            (fun i hi => by rw [show fsts O i = fsts O' i by unfold fsts; rw [hOO i hi]]; exact T3.cell hi) (fun i hi => by rw [show snds O i = snds O' i by unfold snds; rw [hOO i hi]]; exact T4.cell hi)
            (fun i hi => T1'.cell hi) (fun i hi => T2'.cell hi) hn).mono ?_
          rintro e v10 ⟨rfl, m2, rfl⟩
          go_wp2
          go_ret
          refine ⟨rfl, ?_⟩
          refine ((F1.trans (F2.trans F3)).below (Nat.le_refl _) (fun _ h => h.elim)).trans ?_
          refine (hF.below (by omega) (fun k h => by omega)).trans ?_
          exact ((F5.trans (F6.trans (F7.trans (F8.trans F9)))).drewN m2).below (by omega) (fun _ h => h.elim)

set_option maxHeartbeats 800000 in
theorem law4 (a0 : Option Addr) (n0 c0 : Nat) (z0 : List Int) (a1 : Option Addr) (n1 c1 : Nat) (z1 : List Int) (w : World)
    (h0 : n0 ≤ maxLen ∧ ∃ b off, (0 < n0 → a0 = some ⟨b, off, none⟩) ∧ ∀ i, i < n0 → w.cell? ⟨b, off + i, none⟩ = some (.int .i64 (z0.getD i 0)))
    (h1 : n1 ≤ maxLen ∧ ∃ b off, (0 < n1 → a1 = some ⟨b, off, none⟩) ∧ ∀ i, i < n1 → w.cell? ⟨b, off + i, none⟩ = some (.int .i64 (z1.getD i 0))) :
    Calls Try.prog 4 #[.slice a0 n0 c0, .slice a1 n1 c1] w fun e w' => e = .returned (.bool true) ∧ Below w.heap.size w w' := by
  obtain ⟨m0, b0, o0, p0, g0⟩ := h0
  obtain ⟨m1, b1, o1, p1, g1⟩ := h1
  by_cases hB : n0 + n1 ≤ 1048576
  · by_cases hL : n0 ≤ 65536 ∧ n1 ≤ 65536
    · by_cases hE : n0 = n1
      · subst hE
        exact law4_in a0 a1 n0 c0 c1 b0 o0 b1 o1 (fun i => z0.getD i 0) (fun i => z1.getD i 0) w p0 p1 g0 g1 hL.1
      · clear g0 g1 p0 p1
        have hE2 : ((n0 : Int) != (n1 : Int)) = true := by simp; omega
        go_enter Try.func4, Try.ntmps4
        go_wp2_with fail
        refine (bytes15_yes a0 a1 n0 n1 c0 c1 _ hB).mono ?_
        rintro e w' ⟨rfl, rfl⟩
        go_wp2
        go_ret
        exact ⟨rfl, Below.refl _ _⟩
    · clear g0 g1 p0 p1
      go_enter Try.func4, Try.ntmps4
      go_wp2_with fail
      refine (bytes15_yes a0 a1 n0 n1 c0 c1 _ hB).mono ?_
      rintro e w' ⟨rfl, rfl⟩
      by_cases hL1 : n0 ≤ 65536
      · have hL2 : ¬ n1 ≤ 65536 := by omega
        go_wp2
        go_ret
        exact ⟨rfl, Below.refl _ _⟩
      · go_wp2
        go_ret
        exact ⟨rfl, Below.refl _ _⟩
  · clear g0 g1 p0 p1
    go_enter Try.func4, Try.ntmps4
    go_wp2_with fail
    refine (bytes15_no a0 a1 n0 n1 c0 c1 _ m0 m1 hB).mono ?_
    rintro e w' ⟨rfl, rfl⟩
    go_wp2
    go_ret
    exact ⟨rfl, Below.refl _ _⟩
end Go.Proofs.Qxb6627994a
