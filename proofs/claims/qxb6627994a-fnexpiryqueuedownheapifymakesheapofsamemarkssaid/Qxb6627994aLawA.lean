/-
  SEAT b6627994a: the law FnExpiryQueueDownMatchesSwapSiftDown, out of the contracts.
-/
import Derived.Test.Qxb6627994aWalksA
import Derived.Test.Qxb6627994aWalksB
import Derived.Test.Qxb6627994aWalksC
namespace Go.Proofs.Qxb6627994a
open Go.RowKit Go.Deep

theorem add_none (b off j : Nat) : (⟨b, off, none⟩ : Addr).add j = ⟨b, off + j, none⟩ := by
  unfold Addr.add; split <;> simp_all
/-- What the walks ask of a slice of integers that came in. -/
theorem open_row {k : IntKind} {w : World} {a : Option Addr} {len cap : Nat} {zs : List Int}
    (h : (a = none ∧ len = 0 ∧ cap = 0 ∧ zs = []) ∨ ∃ x, a = some x ∧ len ≤ cap ∧ cap ≤ maxLen ∧ zs.length = cap ∧ (∀ i, i < zs.length → w.cell? (x.add i) = some (.int k (zs.getD i 0))) ∧ ∀ n ∈ zs, (Lit.int k n).wf = true) :
    len ≤ maxLen ∧ ∃ b off, (0 < len → a = some ⟨b, off, none⟩) ∧ ∀ i, i < len → w.cell? ⟨b, off + i, none⟩ = some (.int k (zs.getD i 0)) := by
  rcases h with ⟨rfl, rfl, rfl, rfl⟩ | ⟨x, rfl, h1, h2, h3, h4, _⟩
  · exact ⟨Nat.zero_le _, 0, 0, fun h => by omega, fun i hi => by omega⟩
  · refine ⟨by omega, ?_⟩
    by_cases hl : 0 < len
    · obtain ⟨b, off, spot⟩ := x
      have hspot : spot = none := by simpa [Addr.add] using World.cell?_spot (h4 0 (by omega))
      subst hspot
      exact ⟨b, off, fun _ => rfl, fun i hi => by rw [← add_none]; exact h4 i (by omega)⟩
    · exact ⟨0, 0, fun h => absurd h hl, fun i hi => by omega⟩

set_option maxHeartbeats 400000 in
theorem bytes5_yes (a0 a1 : Option Addr) (n0 n1 c0 c1 : Nat) (i : Int) (w : World) (h : n0 + n1 ≤ 1048576) :
    Calls Try.prog 5 #[.slice a0 n0 c0, .slice a1 n1 c1, .int .i64 i] w fun e w' => e = .returned (.bool true) ∧ w' = w := by
  go_enter Try.func5, Try.ntmps5
  go_wp2
  go_ret
  exact ⟨rfl, rfl⟩
set_option maxHeartbeats 400000 in
theorem bytes5_no (a0 a1 : Option Addr) (n0 n1 c0 c1 : Nat) (i : Int) (w : World) (h0 : n0 ≤ maxLen) (h1 : n1 ≤ maxLen) (h : ¬ n0 + n1 ≤ 1048576) :
    Calls Try.prog 5 #[.slice a0 n0 c0, .slice a1 n1 c1, .int .i64 i] w fun e w' => e = .returned (.bool false) ∧ w' = w := by
  unfold maxLen at h0 h1
  go_enter Try.func5, Try.ntmps5
  go_wp2
  all_goals (go_ret; exact ⟨rfl, rfl⟩)

set_option maxHeartbeats 1600000 in
theorem law3_pos (a0 a1 : Option Addr) (n c0 c1 b0 o0 b1 o1 i : Nat) (D S : Nat → Int) (w : World) (h0 : 0 < n → a0 = some ⟨b0, o0, none⟩) (h1 : 0 < n → a1 = some ⟨b1, o1, none⟩)
    (g0 : ∀ i, i < n → w.cell? ⟨b0, o0 + i, none⟩ = some (.int .i64 (D i))) (g1 : ∀ i, i < n → w.cell? ⟨b1, o1 + i, none⟩ = some (.int .i64 (S i))) (hn : n ≤ 65536) (hi : i < n) :
    Calls Try.prog 3 #[.slice a0 n c0, .slice a1 n c1, .int .i64 i] w fun e w' => e = .returned (.bool true) ∧ Below w.heap.size w w' := by
  have hn0 : 0 < n := by omega
  have hb0 := World.block_lt_of_cell? _ _ (g0 0 hn0)
  have hb1 := World.block_lt_of_cell? _ _ (g1 0 hn0)
  have G0 : Hid (∀ i, i < n → w.cell? ⟨b0, o0 + i, none⟩ = some (.int .i64 (D i))) := g0
  have G1 : Hid (∀ i, i < n → w.cell? ⟨b1, o1 + i, none⟩ = some (.int .i64 (S i))) := g1
  have Z0 : Hid (0 < n → a0 = some ⟨b0, o0, none⟩) := h0
  have Z1 : Hid (0 < n → a1 = some ⟨b1, o1, none⟩) := h1
  clear g0 g1 h0 h1
  go_enter Try.func3, Try.ntmps3
  go_wp2_with fail
  refine (bytes5_yes a0 a1 n n c0 c1 i _ (by omega)).mono ?_
  rintro e w' ⟨rfl, rfl⟩
  go_wp2_with fail
  refine (below6 a0 b0 o0 n c0 i D _ Z0.out G0.out hn hi).mono ?_
  rintro e wx ⟨⟨r, rfl⟩, m, rfl⟩
  have F0 : Frm Non w' (w'.drewN m) := (Frm.refl _ _).drewN m
  have E0 : Hid ((w'.drewN m).heap.size = w'.heap.size) := rfl
  generalize w'.drewN m = v0 at *
  cases r
  · go_wp2
    go_ret
    exact ⟨rfl, F0.below (Nat.le_refl _) (fun _ h => h.elim)⟩
  · go_wp2_with fail
    refine (clone7 a0 b0 o0 n c0 D _ Z0.out (fun i hi => (F0.cell hb0 (fun h => h)).trans (G0.out i hi)) hn).mono ?_
    rintro e v1 ⟨a', rfl, hA, F1⟩
    obtain ⟨rfl, R1⟩ := hA hn0
    clear hA
    go_wp2_with fail
    refine (clone8 a1 b1 o1 n c1 S _ Z1.out (fun i hi => ((F0.trans F1).cell hb1 (fun h => h)).trans (G1.out i hi)) hn).mono ?_
    rintro e v2 ⟨a', rfl, hA, F2⟩
    obtain ⟨rfl, R2⟩ := hA hn0
    clear hA
    have R1' := F2.row R1 (fun h => h)
    go_wp2_with fail
    refine (clone7 _ v0.heap.size 0 n n D _ (fun _ => rfl) (fun i hi => by rw [Nat.zero_add]; exact R1'.cell hi) hn).mono ?_
    rintro e v3 ⟨a', rfl, hA, F3⟩
    obtain ⟨rfl, R3⟩ := hA hn0
    clear hA
    have R2' := F3.row R2 (fun h => h)
    go_wp2_with fail
    refine (clone8 _ v1.heap.size 0 n n S _ (fun _ => rfl) (fun i hi => by rw [Nat.zero_add]; exact R2'.cell hi) hn).mono ?_
    rintro e v4 ⟨a', rfl, hA, F4⟩
    obtain ⟨rfl, R4⟩ := hA hn0
    clear hA
    have R3' := F4.row R3 (fun h => h)
    have l1 := R1'.lt
    have l2 := R2'.lt
    have l3 := R3'.lt
    have l4 := R4.lt
    have s1 := F1.size
    have s2 := F2.size
    have s3 := F3.size
    have s4 := F4.size
    have l1' := R1.lt
    have l2' := R2.lt
    have l3' := R3.lt
    go_wp2_with fail
    refine (sift9 v2.heap.size v3.heap.size n i n n (fun i => (D i, S i)) _ R3' R4 (by omega) hi hn).mono ?_
    rintro e v5 ⟨rfl, R5, R6, F5⟩
    have s5 := F5.size
    have Q1 := F5.row (F4.row (F3.row R1' (fun h => h)) (fun h => h)) (by omega)
    have Q2 := F5.row (F4.row R2' (fun h => h)) (by omega)
    go_wp2_with fail
    refine (new10 _ _ v0.heap.size 0 v1.heap.size 0 n n n D S _ (fun _ => rfl) (fun _ => rfl) (fun i hi => by rw [Nat.zero_add]; exact Q1.cell hi) (fun i hi => by rw [Nat.zero_add]; exact Q2.cell hi) hn).mono ?_
    rintro e v6 ⟨rfl, q6, R7, F6⟩
    have s6 := F6.size
    have q6l := World.block_lt_of_cell? _ _ q6
    have Q6 : Hid (v6.cell? ⟨v5.heap.size + 1, 0, none⟩ = some (.slice (some ⟨v5.heap.size, 0, none⟩) n n)) := q6
    clear q6
    go_wp2_with fail
    refine (down11 _ _ n i (fun i => (D i, S i)) _ Q6.out R7 (by omega) hi hn).mono ?_
    rintro e v7 ⟨rfl, R8, F7⟩
    have s7 := F7.size
    go_wp2_with fail
    refine (dead12 (v5.heap.size + 1) v5.heap.size n _ _ _ ((F7.cell q6l (by show ¬ v5.heap.size + 1 = v5.heap.size; omega)).trans Q6.out) R8 hn).mono ?_
    rintro e v8 ⟨rfl, R9, F8⟩
    have s8 := F8.size
    go_wp2_with fail
    refine (slot13 (v5.heap.size + 1) v5.heap.size n _ _ _ ((F8.cell (by show v5.heap.size + 1 < _; omega) (fun h => h)).trans ((F7.cell q6l (by show ¬ v5.heap.size + 1 = v5.heap.size; omega)).trans Q6.out)) (F8.row R8 (fun h => h)) hn).mono ?_
    rintro e v9 ⟨rfl, R10, F9⟩
    have s9 := F9.size
    have T1 := F9.row R9 (fun h => h)
    rw [down_eq_sw] at T1 R10
    have T3 := F9.row (F8.row (F7.row (F6.row R5 (fun h => h)) (by omega)) (fun h => h)) (fun h => h)
    have T4 := F9.row (F8.row (F7.row (F6.row R6 (fun h => h)) (by omega)) (fun h => h)) (fun h => h)
    go_wp2_with fail
    refine (same14 _ _ _ _ v7.heap.size v8.heap.size v2.heap.size v3.heap.size n n n n n (fsts (sw n n i fun i => (D i, S i))) (snds (sw n n i fun i => (D i, S i))) _
      (fun _ => rfl) (fun _ => rfl) (fun _ => rfl) (fun _ => rfl) (fun i hi => T1.cell hi) (fun i hi => R10.cell hi) (fun i hi => T3.cell hi) (fun i hi => T4.cell hi) hn).mono ?_
    rintro e v10 ⟨rfl, m2, rfl⟩
    go_wp2
    go_ret
    refine ⟨rfl, ?_⟩
    have e0 := E0.out
    refine (F0.below (Nat.le_refl _) (fun _ h => h.elim)).trans ?_
    refine ((F1.trans (F2.trans (F3.trans F4))).below (by omega) (fun _ h => h.elim)).trans ?_
    refine (F5.below (by omega) (fun k h => by omega)).trans ?_
    refine (F6.below (by omega) (fun _ h => h.elim)).trans ?_
    refine (F7.below (by omega) (fun k h => by omega)).trans ?_
    exact ((F8.trans F9).drewN m2).below (by omega) (fun _ h => h.elim)
set_option maxHeartbeats 1600000 in
theorem law3_zero (a0 a1 : Option Addr) (c0 c1 : Nat) (i : Int) (w : World) :
    Calls Try.prog 3 #[.slice a0 0 c0, .slice a1 0 c1, .int .i64 i] w fun e w' => e = .returned (.bool true) ∧ Below w.heap.size w w' := by
  go_enter Try.func3, Try.ntmps3
  go_wp2_with fail
  refine (bytes5_yes a0 a1 0 0 c0 c1 i _ (by omega)).mono ?_
  rintro e w' ⟨rfl, rfl⟩
  go_wp2_with fail
  refine (clone7 a0 0 0 0 c0 (fun _ => 0) _ (fun h => absurd h (by omega)) (fun i hi => absurd hi (by omega)) (by omega)).mono ?_
  rintro e v1 ⟨a2, rfl, hA, F1⟩
  clear hA
  go_wp2_with fail
  refine (clone8 a1 0 0 0 c1 (fun _ => 0) _ (fun h => absurd h (by omega)) (fun i hi => absurd hi (by omega)) (by omega)).mono ?_
  rintro e v2 ⟨a3, rfl, hA, F2⟩
  clear hA
  go_wp2_with fail
  refine (clone7 a2 0 0 0 0 (fun _ => 0) _ (fun h => absurd h (by omega)) (fun i hi => absurd hi (by omega)) (by omega)).mono ?_
  rintro e v3 ⟨a4, rfl, hA, F3⟩
  clear hA
  go_wp2_with fail
  refine (clone8 a3 0 0 0 0 (fun _ => 0) _ (fun h => absurd h (by omega)) (fun i hi => absurd hi (by omega)) (by omega)).mono ?_
  rintro e v4 ⟨a5, rfl, hA, F4⟩
  clear hA
  go_wp2_with fail
  refine (new10 a2 a3 0 0 0 0 0 0 0 (fun _ => 0) (fun _ => 0) _ (fun h => absurd h (by omega)) (fun h => absurd h (by omega)) (fun i hi => absurd hi (by omega)) (fun i hi => absurd hi (by omega)) (by omega)).mono ?_
  rintro e v6 ⟨rfl, q6, R7, F6⟩
  have q6l := World.block_lt_of_cell? _ _ q6
  have Q6 : Hid (v6.cell? ⟨v4.heap.size + 1, 0, none⟩ = some (.slice (some ⟨v4.heap.size, 0, none⟩) 0 0)) := q6
  clear q6
  go_wp2_with fail
  refine (down11_none _ _ i _ Q6.out).mono ?_
  rintro e v7 ⟨rfl, rfl⟩
  go_wp2_with fail
  refine (dead12 (v4.heap.size + 1) v4.heap.size 0 _ _ _ Q6.out R7 (by omega)).mono ?_
  rintro e v8 ⟨rfl, R9, F8⟩
  go_wp2_with fail
  refine (slot13 (v4.heap.size + 1) v4.heap.size 0 _ _ _ ((F8.cell q6l (fun h => h)).trans Q6.out) (F8.row R7 (fun h => h)) (by omega)).mono ?_
  rintro e v9 ⟨rfl, R10, F9⟩
  go_wp2_with fail
  refine (same14 _ _ _ _ 0 0 0 0 0 0 0 0 0 (fun _ => 0) (fun _ => 0) _
    (fun h => absurd h (by omega)) (fun h => absurd h (by omega)) (fun h => absurd h (by omega)) (fun h => absurd h (by omega)) (fun i hi => absurd hi (by omega)) (fun i hi => absurd hi (by omega)) (fun i hi => absurd hi (by omega)) (fun i hi => absurd hi (by omega)) (by omega)).mono ?_
  rintro e v10 ⟨rfl, m2, rfl⟩
  go_wp2
  go_ret
  exact ⟨rfl, ((F1.trans (F2.trans (F3.trans (F4.trans (F6.trans (F8.trans F9)))))).drewN m2).below (Nat.le_refl _) (fun _ h => h.elim)⟩

set_option maxHeartbeats 800000 in
theorem law3 (a0 : Option Addr) (n0 c0 : Nat) (z0 : List Int) (a1 : Option Addr) (n1 c1 : Nat) (z1 : List Int) (i : Int) (w : World)
    (h0 : n0 ≤ maxLen ∧ ∃ b off, (0 < n0 → a0 = some ⟨b, off, none⟩) ∧ ∀ i, i < n0 → w.cell? ⟨b, off + i, none⟩ = some (.int .i64 (z0.getD i 0)))
    (h1 : n1 ≤ maxLen ∧ ∃ b off, (0 < n1 → a1 = some ⟨b, off, none⟩) ∧ ∀ i, i < n1 → w.cell? ⟨b, off + i, none⟩ = some (.int .i64 (z1.getD i 0))) :
    Calls Try.prog 3 #[.slice a0 n0 c0, .slice a1 n1 c1, .int .i64 i] w fun e w' => e = .returned (.bool true) ∧ Below w.heap.size w w' := by
  obtain ⟨m0, b0, o0, p0, g0⟩ := h0
  obtain ⟨m1, b1, o1, p1, g1⟩ := h1
  by_cases hB : n0 + n1 ≤ 1048576
  · by_cases hL : n0 ≤ 65536 ∧ n1 ≤ 65536
    · by_cases hE : n0 = n1
      · subst hE
        by_cases hz : n0 = 0
        · subst hz
          exact law3_zero a0 a1 c0 c1 i w
        · by_cases hI : 0 ≤ i ∧ i < n0
          · obtain ⟨k, rfl⟩ := Int.eq_ofNat_of_zero_le hI.1
            exact law3_pos a0 a1 n0 c0 c1 b0 o0 b1 o1 k (fun i => z0.getD i 0) (fun i => z1.getD i 0) w p0 p1 g0 g1 hL.1 (by omega)
          · clear g0 g1 p0 p1
            have hz2 : (0 : Int) < (n0 : Int) := by omega
            go_enter Try.func3, Try.ntmps3
            go_wp2_with fail
            refine (bytes5_yes a0 a1 n0 n0 c0 c1 i _ hB).mono ?_
            rintro e w' ⟨rfl, rfl⟩
            by_cases hI1 : i < 0
            · go_wp2
              go_ret
              exact ⟨rfl, Below.refl _ _⟩
            · have hI2 : (n0 : Int) ≤ i := by omega
              go_wp2
              go_ret
              exact ⟨rfl, Below.refl _ _⟩
      · clear g0 g1 p0 p1
        have hE2 : ((n0 : Int) != (n1 : Int)) = true := by simp; omega
        go_enter Try.func3, Try.ntmps3
        go_wp2_with fail
        refine (bytes5_yes a0 a1 n0 n1 c0 c1 i _ hB).mono ?_
        rintro e w' ⟨rfl, rfl⟩
        go_wp2
        go_ret
        exact ⟨rfl, Below.refl _ _⟩
    · clear g0 g1 p0 p1
      go_enter Try.func3, Try.ntmps3
      go_wp2_with fail
      refine (bytes5_yes a0 a1 n0 n1 c0 c1 i _ hB).mono ?_
      rintro e w' ⟨rfl, rfl⟩
      by_cases hL1 : n0 ≤ 65536
      · have hL2 : ¬ n1 ≤ 65536 := by omega
        go_wp2
        go_ret
        exact ⟨rfl, Below.refl _ _⟩
      · go_wp2
        go_ret
        exact ⟨rfl, Below.refl _ _⟩
  · clear g0 g1 p0 p1
    go_enter Try.func3, Try.ntmps3
    go_wp2_with fail
    refine (bytes5_no a0 a1 n0 n1 c0 c1 i _ m0 m1 hB).mono ?_
    rintro e w' ⟨rfl, rfl⟩
    go_wp2
    go_ret
    exact ⟨rfl, Below.refl _ _⟩
end Go.Proofs.Qxb6627994a
