import Derived.Test.Qxb6627994aRows
import Derived.Test.Qxb6627994aBase
import Derived.WalkKit
import Derived.ProofKit
import Derived.WalkSpells
import Derived.WalkLawsBesides
import Derived.Deep.QuietTactic
import Derived.BigQuiet
import Derived.Deep.OwnRows
import Derived.RegionTactic
import Derived.BigRegion
namespace Go.Proofs.Qxb6627994a
open Go.RowKit Go.Deep
set_option maxHeartbeats 1600000 in
theorem down18 (qb mb n i : Nat) (P : Nat → Int × Int) (w : World) (hq : w.cell? ⟨qb, 0, none⟩ = some (.slice (some ⟨mb, 0, none⟩) n n))
    (hm : w.rowIs mb 42 (n * 2) (mrkP P)) (hqm : qb ≠ mb) (hi : i < n) (hn : n ≤ 65536) :
    Calls Try.prog 18 #[.pointer (some ⟨qb, 0, none⟩), .int .i64 i] w fun e w' => e = .returned (.tuple #[]) ∧ w'.rowIs mb 42 (n * 2) (mrkP (down n i P)) ∧ Frm (fun k => k = mb) w w' := by
  have hqb := World.block_lt_of_cell? _ _ hq
  have hmb := hm.lt
  have c0 : w.cell? ⟨mb, i * 2, none⟩ = some (.int .i64 (P i).1) := by rw [← mrkP_even P i]; exact hm.cell (by omega)
  have c1 : w.cell? ⟨mb, i * 2 + 1, none⟩ = some (.int .i64 (P i).2) := by rw [← mrkP_odd P i]; exact hm.cell (by omega)
  have hn0 : ((n : Int) == 0) = false := by simp; omega
  obtain ⟨m, hmm⟩ : ∃ m, P i = m := ⟨_, rfl⟩
  have HD : Hid (down n i P = dn n m n i P) := by show _ = _; rw [down, hmm]
  rw [hmm] at c0 c1
  clear hmm
  obtain ⟨md, ms⟩ := m
  go_enter Try.func18, Try.ntmps18
  go_wp2
  go_loopw [1] (fun v wr => ∃ (k f : Nat) (Q : Nat → Int × Int), k < n ∧ n ≤ k + f ∧ v = .int .i64 k ∧ Frm (fun k => k = mb) w wr ∧ wr.rowIs mb 42 (n * 2) (mrkP Q) ∧
      wr.cell? ⟨w.heap.size, 0, none⟩ = some (.int .i64 md) ∧ wr.cell? ⟨w.heap.size, 1, none⟩ = some (.int .i64 ms) ∧ dn n (md, ms) f k Q = dn n (md, ms) n i P) (fun v _ => n - (intOf v).toNat)
  case atStart => exact ⟨i, n, P, hi, by omega, rfl, (Frm.refl _ _).alloc _, hm.alloc _, by simp [go_sem], by simp [go_sem], rfl⟩
  case round =>
    obtain ⟨k, f, Q, hkn, hkf, rfl, hF, hR, m0, m1, hN⟩ := hrel
    have HN : Hid (dn n (md, ms) f k Q = dn n (md, ms) n i P) := hN
    have hf1 : 1 ≤ f := by omega
    clear hN c0 c1 hm hn0 hi
    have q0 : wr.cell? ⟨qb, 0, none⟩ = some (.slice (some ⟨mb, 0, none⟩) n n) := (hF.cell hqb hqm).trans hq
    have k0 : wr.cell? ⟨mb, k * 2, none⟩ = some (.int .i64 (Q k).1) := by rw [← mrkP_even Q k]; exact hR.cell (by omega)
    have k1 : wr.cell? ⟨mb, k * 2 + 1, none⟩ = some (.int .i64 (Q k).2) := by rw [← mrkP_odd Q k]; exact hR.cell (by omega)
    have z0 : wr.frozen? ⟨mb, k * 2, none⟩ = false := hR.frozen _
    have z1 : wr.frozen? ⟨mb, k * 2 + 1, none⟩ = false := hR.frozen _
    have hkz : (k : Int) < (n : Int) := by omega
    obtain ⟨c, hcz⟩ : ∃ c : Nat, (2 * (k : Int) + 1) = (c : Int) := ⟨2 * k + 1, by omega⟩
    have HC : Hid ((2 * (k : Int) + 1) = (c : Int)) := hcz
    have HC2 : Hid (c = 2 * k + 1) := by show _ = _; omega
    have hck : k < c := by omega
    have hcb : c ≤ 131073 := by omega
    clear hcz
    by_cases hcn : c < n
    · have hcz : (c : Int) < (n : Int) := by omega
      have hcz2 : 2 * (k : Int) + 1 < (n : Int) := by have := HC.out; omega
      have a0 : wr.cell? ⟨mb, c * 2, none⟩ = some (.int .i64 (Q c).1) := by rw [← mrkP_even Q c]; exact hR.cell (by omega)
      by_cases hrn : c + 1 < n
      · have hrz : (c : Int) + 1 < (n : Int) := by omega
        have b0 : wr.cell? ⟨mb, (c + 1) * 2, none⟩ = some (.int .i64 (Q (c + 1)).1) := by rw [← mrkP_even Q (c + 1)]; exact hR.cell (by omega)
        by_cases hless : (Q (c + 1)).1 < (Q c).1
        · go_wp2_with fail
          rw [HC.out]
          go_quiet (fail)
          go_wp2_with fail

          have HX : Hid (child n k Q = (c + 1)) := by
            show _ = _
            have := HC2.out
            unfold child; rw [if_pos (by rw [show 2 * k + 2 = c + 1 by omega, ← this]; exact ⟨hrn, hless⟩)]; omega
          have x0 : wr.cell? ⟨mb, (c + 1) * 2, none⟩ = some (.int .i64 (Q (c + 1)).1) := by rw [← mrkP_even Q (c + 1)]; exact hR.cell (by omega)
          have x1 : wr.cell? ⟨mb, (c + 1) * 2 + 1, none⟩ = some (.int .i64 (Q (c + 1)).2) := by rw [← mrkP_odd Q (c + 1)]; exact hR.cell (by omega)
          by_cases hle : md ≤ (Q (c + 1)).1
          · go_quiet (fail)
            go_wp2_with fail
            go_region
            go_wp2
            go_end0
            refine ⟨rfl, ?_, ?_⟩
            · rw [HD.out, ← HN.out, dn_stop n (md, ms) f k Q hf1 (.inr (by rw [HX.out]; exact hle))]
              exact mrkP_upd hR k (md, ms)
            · exact (hF.setCell (.inl rfl) _).setCell (.inl rfl) _ |>.drewN _
          · go_quiet (fail)
            go_wp2_with fail
            go_region
            go_wp2
            go_roundw
            case rel =>
              refine ⟨(c + 1), f - 1, upd Q k (Q (c + 1)), by omega, by omega, by go_num, ?_, ?_, ?_, ?_, ?_⟩
              · exact (hF.setCell (.inl rfl) _).setCell (.inl rfl) _ |>.drewN _
              · exact mrkP_upd hR k (Q (c + 1))
              · rw [cell_set2 _ _ _ _ _ _ _ _ _ (by omega)]; exact m0
              · rw [cell_set2 _ _ _ _ _ _ _ _ _ (by omega)]; exact m1
              · rw [← HN.out, dn_go n (md, ms) f k Q hf1 (by have := HC2.out; omega) (by rw [HX.out]; show ¬ md ≤ _; omega), HX.out]
            case measure => simp [intOf]; omega

        · go_wp2_with fail
          rw [HC.out]
          go_quiet (fail)
          go_wp2_with fail

          have HX : Hid (child n k Q = c) := by
            show _ = _
            have := HC2.out
            unfold child; rw [if_neg (by rw [show 2 * k + 2 = c + 1 by omega, ← this]; exact fun h => by have := h.2; omega)]; omega
          have x0 : wr.cell? ⟨mb, c * 2, none⟩ = some (.int .i64 (Q c).1) := by rw [← mrkP_even Q c]; exact hR.cell (by omega)
          have x1 : wr.cell? ⟨mb, c * 2 + 1, none⟩ = some (.int .i64 (Q c).2) := by rw [← mrkP_odd Q c]; exact hR.cell (by omega)
          by_cases hle : md ≤ (Q c).1
          · go_quiet (fail)
            go_wp2_with fail
            go_region
            go_wp2
            go_end0
            refine ⟨rfl, ?_, ?_⟩
            · rw [HD.out, ← HN.out, dn_stop n (md, ms) f k Q hf1 (.inr (by rw [HX.out]; exact hle))]
              exact mrkP_upd hR k (md, ms)
            · exact (hF.setCell (.inl rfl) _).setCell (.inl rfl) _ |>.drewN _
          · go_quiet (fail)
            go_wp2_with fail
            go_region
            go_wp2
            go_roundw
            case rel =>
              refine ⟨c, f - 1, upd Q k (Q c), by omega, by omega, by go_num, ?_, ?_, ?_, ?_, ?_⟩
              · exact (hF.setCell (.inl rfl) _).setCell (.inl rfl) _ |>.drewN _
              · exact mrkP_upd hR k (Q c)
              · rw [cell_set2 _ _ _ _ _ _ _ _ _ (by omega)]; exact m0
              · rw [cell_set2 _ _ _ _ _ _ _ _ _ (by omega)]; exact m1
              · rw [← HN.out, dn_go n (md, ms) f k Q hf1 (by have := HC2.out; omega) (by rw [HX.out]; show ¬ md ≤ _; omega), HX.out]
            case measure => simp [intOf]; omega

      · have hrz : decide ((c : Int) + 1 < (n : Int)) = false := decide_eq_false (by omega)
        go_wp2_with fail
        rw [HC.out]
        go_quiet (fail)
        go_wp2_with fail

        have HX : Hid (child n k Q = c) := by
          show _ = _
          have := HC2.out
          unfold child; rw [if_neg (by omega)]; omega
        have x0 : wr.cell? ⟨mb, c * 2, none⟩ = some (.int .i64 (Q c).1) := by rw [← mrkP_even Q c]; exact hR.cell (by omega)
        have x1 : wr.cell? ⟨mb, c * 2 + 1, none⟩ = some (.int .i64 (Q c).2) := by rw [← mrkP_odd Q c]; exact hR.cell (by omega)
        by_cases hle : md ≤ (Q c).1
        · go_quiet (fail)
          go_wp2_with fail
          go_region
          go_wp2
          go_end0
          refine ⟨rfl, ?_, ?_⟩
          · rw [HD.out, ← HN.out, dn_stop n (md, ms) f k Q hf1 (.inr (by rw [HX.out]; exact hle))]
            exact mrkP_upd hR k (md, ms)
          · exact (hF.setCell (.inl rfl) _).setCell (.inl rfl) _ |>.drewN _
        · go_quiet (fail)
          go_wp2_with fail
          go_region
          go_wp2
          go_roundw
          case rel =>
            refine ⟨c, f - 1, upd Q k (Q c), by omega, by omega, by go_num, ?_, ?_, ?_, ?_, ?_⟩
            · exact (hF.setCell (.inl rfl) _).setCell (.inl rfl) _ |>.drewN _
            · exact mrkP_upd hR k (Q c)
            · rw [cell_set2 _ _ _ _ _ _ _ _ _ (by omega)]; exact m0
            · rw [cell_set2 _ _ _ _ _ _ _ _ _ (by omega)]; exact m1
            · rw [← HN.out, dn_go n (md, ms) f k Q hf1 (by have := HC2.out; omega) (by rw [HX.out]; show ¬ md ≤ _; omega), HX.out]
          case measure => simp [intOf]; omega

    · have hcz2 : (n : Int) ≤ 2 * (k : Int) + 1 := by have := HC.out; omega
      go_wp2_with fail
      go_region
      go_wp2
      go_end0
      refine ⟨rfl, ?_, ?_⟩
      · rw [HD.out, ← HN.out, dn_stop n (md, ms) f k Q hf1 (.inl (by have := HC2.out; omega))]
        exact mrkP_upd hR k (md, ms)
      · exact (hF.setCell (.inl rfl) _).setCell (.inl rfl) _ |>.drew
set_option maxHeartbeats 400000 in
theorem down11 (qb mb n i : Nat) (P : Nat → Int × Int) (w : World) (hq : w.cell? ⟨qb, 0, none⟩ = some (.slice (some ⟨mb, 0, none⟩) n n))
    (hm : w.rowIs mb 42 (n * 2) (mrkP P)) (hqm : qb ≠ mb) (hi : i < n) (hn : n ≤ 65536) :
    Calls Try.prog 11 #[.pointer (some ⟨qb, 0, none⟩), .int .i64 i] w fun e w' => e = .returned (.tuple #[]) ∧ w'.rowIs mb 42 (n * 2) (mrkP (down n i P)) ∧ Frm (fun k => k = mb) w w' := by
  go_enter Try.func11, Try.ntmps11
  go_wp2_with fail
  refine (down18 qb mb n i P _ hq hm hqm hi hn).mono ?_
  rintro e w' ⟨rfl, h1, h2⟩
  go_wp2
  go_end0
  exact ⟨rfl, h1, h2⟩
set_option maxHeartbeats 400000 in
/-- An empty queue: nothing happens. -/
theorem down18_none (qb mb : Nat) (i : Int) (w : World) (hq : w.cell? ⟨qb, 0, none⟩ = some (.slice (some ⟨mb, 0, none⟩) 0 0)) :
    Calls Try.prog 18 #[.pointer (some ⟨qb, 0, none⟩), .int .i64 i] w fun e w' => e = .returned (.tuple #[]) ∧ w' = w := by
  go_enter Try.func18, Try.ntmps18
  go_wp2
  exact bodyPost_ret (v := .tuple #[]) (by simp [results, Try.results18, go_sem]) rfl ⟨rfl, rfl⟩
set_option maxHeartbeats 400000 in
theorem down11_none (qb mb : Nat) (i : Int) (w : World) (hq : w.cell? ⟨qb, 0, none⟩ = some (.slice (some ⟨mb, 0, none⟩) 0 0)) :
    Calls Try.prog 11 #[.pointer (some ⟨qb, 0, none⟩), .int .i64 i] w fun e w' => e = .returned (.tuple #[]) ∧ w' = w := by
  go_enter Try.func11, Try.ntmps11
  go_wp2_with fail
  refine (down18_none qb mb i _ hq).mono ?_
  rintro e w' ⟨rfl, rfl⟩
  go_wp2
  go_end0
  exact ⟨rfl, rfl⟩
end Go.Proofs.Qxb6627994a
