import Derived.Test.Qxb6627994aRows
import Derived.Test.Qxb6627994aBase
import Derived.WalkKit
import Derived.ProofKit
import Derived.WalkSpells
import Derived.WalkLawsBesides
import Derived.Deep.QuietTactic
import Derived.BigQuiet
import Derived.Deep.OwnRows
import Derived.RegionTactic
import Derived.BigRegion
namespace Go.Proofs.Qxb6627994a
open Go.RowKit Go.Deep
theorem Try.info2 : (Try.prog.info? 2).map (fun i => (i.zero, i.size, i.bytes)) = some (some (.int .i64 0), 1, 8) := by kernel_rfl
theorem Try.info3 : (Try.prog.info? 3).map (fun i => (i.zero, i.size, i.bytes)) = some (some (.int .i64 0), 1, 8) := by kernel_rfl

set_option maxHeartbeats 400000 in
theorem clone7 (a : Option Addr) (b off n cap : Nat) (D : Nat → Int) (w : World) (ha : 0 < n → a = some ⟨b, off, none⟩)
    (hc : ∀ i, i < n → w.cell? ⟨b, off + i, none⟩ = some (.int .i64 (D i))) (hn : n ≤ 65536) :
    Calls Try.prog 7 #[.slice a n cap] w fun e w' => ∃ a', e = .returned (.slice a' n n) ∧ (0 < n → a' = some ⟨w.heap.size, 0, none⟩ ∧ w'.rowIs w.heap.size 2 n (ints D)) ∧ Frm Non w w' := by
  have hnil := fun (w : World) (a : Option Addr) (n c n' c' : Nat) => Lib.run_eql_slice_nil (P := Try.prog) w 22 2 a n c n' c' Try.underlying22
  have hmk := run_make_row' (P := Try.prog) 22 2 (.int .i64 0) 8 Try.underlying22 Try.info2 rfl .i64 .i64 n (by omega) (by omega)
  cases a with
  | none =>
    obtain rfl : n = 0 := by
      by_cases h : 0 < n
      · cases ha h
      · omega
    clear ha hmk hc
    go_enter Try.func7, Try.ntmps7
    go_wp2
    go_ret
    exact ⟨none, rfl, fun h => by omega, Frm.refl _ _⟩
  | some x =>
    go_enter Try.func7, Try.ntmps7
    go_wp2
    clear hnil hmk
    go_loopw [4] (fun v wr => ∃ k : Nat, k ≤ n ∧ v = .int .i64 k ∧ Frm Non w wr ∧ wr.rowIs w.heap.size 2 n (ints fun i => if i < k then D i else 0)) (fun v _ => n - (intOf v).toNat)
    case atStart =>
      refine ⟨0, Nat.zero_le _, rfl, (Frm.refl _ _).alloc _, (World.rowIs_made w (.int .i64 0) n 2).congr fun i _ => by simp [ints]⟩
    case round =>
      obtain ⟨k, hk, rfl, hF, hR⟩ := hrel
      by_cases hlt : k < n
      · obtain rfl : x = ⟨b, off, none⟩ := by simpa using ha (by omega)
        have c1 : wr.cell? ⟨b, off + k, none⟩ = some (.int .i64 (D k)) := (hF.cell (World.block_lt_of_cell? _ _ (hc k hlt)) (fun h => h)).trans (hc k hlt)
        have c2 : wr.cell? ⟨w.heap.size, k, none⟩ = some (.int .i64 0) := by simpa [ints] using hR.cell hlt
        have c3 : wr.frozen? ⟨w.heap.size, k, none⟩ = false := hR.frozen k
        clear ha hc
        go_wp2
        go_roundw
        case rel =>
          refine ⟨k + 1, by omega, by go_num, hF.setCell (.inr (Nat.le_refl _)) _, (hR.set k _).congr fun i _ => ?_⟩
          simp only [ints]
          by_cases e : i = k
          · subst e; simp
          · rw [if_neg e]
            by_cases hlt : i < k
            · rw [if_pos hlt, if_pos (by omega)]
            · rw [if_neg hlt, if_neg (by omega)]
        case measure => simp [intOf]; omega
      · obtain rfl : k = n := by omega
        go_wp2
        go_ret
        exact ⟨_, rfl, fun _ => ⟨rfl, hR.congr fun i hi => by simp [ints, hi]⟩, hF⟩
set_option maxHeartbeats 400000 in
theorem clone8 (a : Option Addr) (b off n cap : Nat) (D : Nat → Int) (w : World) (ha : 0 < n → a = some ⟨b, off, none⟩)
    (hc : ∀ i, i < n → w.cell? ⟨b, off + i, none⟩ = some (.int .i64 (D i))) (hn : n ≤ 65536) :
    Calls Try.prog 8 #[.slice a n cap] w fun e w' => ∃ a', e = .returned (.slice a' n n) ∧ (0 < n → a' = some ⟨w.heap.size, 0, none⟩ ∧ w'.rowIs w.heap.size 3 n (ints D)) ∧ Frm Non w w' := by
  have hnil := fun (w : World) (a : Option Addr) (n c n' c' : Nat) => Lib.run_eql_slice_nil (P := Try.prog) w 23 3 a n c n' c' Try.underlying23
  have hmk := run_make_row' (P := Try.prog) 23 3 (.int .i64 0) 8 Try.underlying23 Try.info3 rfl .i64 .i64 n (by omega) (by omega)
  cases a with
  | none =>
    obtain rfl : n = 0 := by
      by_cases h : 0 < n
      · cases ha h
      · omega
    clear ha hmk hc
    go_enter Try.func8, Try.ntmps8
    go_wp2
    go_ret
    exact ⟨none, rfl, fun h => by omega, Frm.refl _ _⟩
  | some x =>
    go_enter Try.func8, Try.ntmps8
    go_wp2
    clear hnil hmk
    go_loopw [4] (fun v wr => ∃ k : Nat, k ≤ n ∧ v = .int .i64 k ∧ Frm Non w wr ∧ wr.rowIs w.heap.size 3 n (ints fun i => if i < k then D i else 0)) (fun v _ => n - (intOf v).toNat)
    case atStart =>
      refine ⟨0, Nat.zero_le _, rfl, (Frm.refl _ _).alloc _, (World.rowIs_made w (.int .i64 0) n 3).congr fun i _ => by simp [ints]⟩
    case round =>
      obtain ⟨k, hk, rfl, hF, hR⟩ := hrel
      by_cases hlt : k < n
      · obtain rfl : x = ⟨b, off, none⟩ := by simpa using ha (by omega)
        have c1 : wr.cell? ⟨b, off + k, none⟩ = some (.int .i64 (D k)) := (hF.cell (World.block_lt_of_cell? _ _ (hc k hlt)) (fun h => h)).trans (hc k hlt)
        have c2 : wr.cell? ⟨w.heap.size, k, none⟩ = some (.int .i64 0) := by simpa [ints] using hR.cell hlt
        have c3 : wr.frozen? ⟨w.heap.size, k, none⟩ = false := hR.frozen k
        clear ha hc
        go_wp2
        go_roundw
        case rel =>
          refine ⟨k + 1, by omega, by go_num, hF.setCell (.inr (Nat.le_refl _)) _, (hR.set k _).congr fun i _ => ?_⟩
          simp only [ints]
          by_cases e : i = k
          · subst e; simp
          · rw [if_neg e]
            by_cases hlt : i < k
            · rw [if_pos hlt, if_pos (by omega)]
            · rw [if_neg hlt, if_neg (by omega)]
        case measure => simp [intOf]; omega
      · obtain rfl : k = n := by omega
        go_wp2
        go_ret
        exact ⟨_, rfl, fun _ => ⟨rfl, hR.congr fun i hi => by simp [ints, hi]⟩, hF⟩

def IsB (e : Ending) : Prop := ∃ r, e = .returned (.bool r)
theorem isB (r : Bool) : IsB (.returned (.bool r)) := ⟨r, rfl⟩
set_option maxHeartbeats 400000 in
theorem insub17 (j i : Nat) (w : World) (hj : j ≤ 65536) :
    Calls Try.prog 17 #[.int .i64 j, .int .i64 i] w fun e w' => IsB e ∧ w' = w := by
  go_enter Try.func17, Try.ntmps17
  go_wp2
  go_loop [5] (fun v => ∃ k : Nat, k ≤ 65536 ∧ v = .int .i64 k) (fun v => (intOf v).toNat)
  case atStart => exact ⟨j, hj, rfl⟩
  case round =>
    obtain ⟨k, hk, rfl⟩ := hrel
    by_cases hlt : i < k
    · go_wp2
      go_round
      case rel => exact ⟨(k - 1) / 2, by omega, by go_num⟩
      case measure => simp [intOf]; omega
    · go_wp2
      go_ret
      exact ⟨isB _, rfl⟩
set_option maxHeartbeats 400000 in
theorem below6 (a : Option Addr) (b off n cap i : Nat) (D : Nat → Int) (w : World) (ha : 0 < n → a = some ⟨b, off, none⟩)
    (hc : ∀ i, i < n → w.cell? ⟨b, off + i, none⟩ = some (.int .i64 (D i))) (hn : n ≤ 65536) (hi : i < n) :
    Calls Try.prog 6 #[.slice a n cap, .int .i64 i] w fun e w' => IsB e ∧ ∃ m, w' = w.drewN m := by
  obtain rfl := ha (by omega)
  clear ha
  go_enter Try.func6, Try.ntmps6
  go_wp2
  go_loopw [6] (fun v wr => ∃ (k m : Nat), k ≤ n ∧ v = .int .i64 k ∧ wr = w.drewN m) (fun v _ => n - (intOf v).toNat)
  case atStart => exact ⟨i + 1, 0, by omega, by go_num, rfl⟩
  case round =>
    obtain ⟨k, m, hk, rfl, rfl⟩ := hrel
    by_cases hlt : k < n
    · have ck := hc k hlt
      go_wp2_with fail
      refine (insub17 k i _ (by omega)).mono ?_
      rintro e w' ⟨⟨r, rfl⟩, rfl⟩
      cases r
      · go_wp2
        go_roundw
        case rel => exact ⟨k + 1, m, by omega, by go_num, rfl⟩
        case measure => simp [intOf]; omega
      · obtain ⟨c, hcz⟩ : ∃ c : Nat, (2 * (k : Int) + 1) = (c : Int) := ⟨2 * k + 1, by omega⟩
        have HC : Hid ((2 * (k : Int) + 1) = (c : Int)) := hcz
        have hcb : c ≤ 131073 := by omega
        clear hcz
        by_cases h1 : c < n
        · have c1 := hc c h1
          have hkz : (k : Int) < (n : Int) := by omega
          have hcz : (c : Int) < (n : Int) := by omega
          go_wp2_with fail
          rw [HC.out]
          go_quiet (fail)
          go_wp2_with fail
          · go_ret
            exact ⟨isB _, _, World.drewN_drewN _ _ _⟩
          · by_cases h2 : c + 1 < n
            · have c2 := hc (c + 1) h2
              have h2z : (c : Int) + 1 < (n : Int) := by omega
              go_quiet (fail)
              go_wp2
              · go_ret
                exact ⟨isB _, _, by first | rfl | rw [World.drewN_drewN, World.drewN_drewN]⟩
              · go_roundw
                case rel => exact ⟨k + 1, _, by omega, by go_num, rfl⟩
                case measure => simp [intOf]; omega
            · have h2z : decide ((c : Int) + 1 < (n : Int)) = false := decide_eq_false (by omega)
              go_quiet (fail)
              go_wp2
              go_roundw
              case rel => exact ⟨k + 1, _, by omega, by go_num, rfl⟩
              case measure => simp [intOf]; omega
        · have h1z : decide ((c : Int) < (n : Int)) = false := decide_eq_false (by omega)
          have h2z : decide ((c : Int) + 1 < (n : Int)) = false := decide_eq_false (by omega)
          go_wp2_with fail
          rw [HC.out]
          go_quiet (fail)
          go_wp2_with fail
          go_quiet (fail)
          go_wp2
          go_roundw
          case rel => exact ⟨k + 1, _, by omega, by go_num, rfl⟩
          case measure => simp [intOf]; omega
    · go_wp2
      go_ret
      exact ⟨isB _, m, rfl⟩
set_option maxHeartbeats 400000 in
theorem same14 (a0 a1 a2 a3 : Option Addr) (b0 b1 b2 b3 n c0 c1 c2 c3 : Nat) (D S : Nat → Int) (w : World)
    (h0 : 0 < n → a0 = some ⟨b0, 0, none⟩) (h1 : 0 < n → a1 = some ⟨b1, 0, none⟩) (h2 : 0 < n → a2 = some ⟨b2, 0, none⟩) (h3 : 0 < n → a3 = some ⟨b3, 0, none⟩)
    (g0 : ∀ i, i < n → w.cell? ⟨b0, i, none⟩ = some (.int .i64 (D i))) (g1 : ∀ i, i < n → w.cell? ⟨b1, i, none⟩ = some (.int .i64 (S i)))
    (g2 : ∀ i, i < n → w.cell? ⟨b2, i, none⟩ = some (.int .i64 (D i))) (g3 : ∀ i, i < n → w.cell? ⟨b3, i, none⟩ = some (.int .i64 (S i)))
    (hn : n ≤ 65536) :
    Calls Try.prog 14 #[.slice a0 n c0, .slice a1 n c1, .slice a2 n c2, .slice a3 n c3] w fun e w' => e = .returned (.bool true) ∧ ∃ m, w' = w.drewN m := by
  go_enter Try.func14, Try.ntmps14
  go_wp2
  go_loopw [9] (fun v wr => ∃ (k m : Nat), k ≤ n ∧ v = .int .i64 k ∧ wr = w.drewN m) (fun v _ => n - (intOf v).toNat)
  case atStart => exact ⟨0, 0, by omega, rfl, rfl⟩
  case round =>
    obtain ⟨k, m, hk, rfl, rfl⟩ := hrel
    by_cases hlt : k < n
    · obtain rfl := h0 (by omega)
      obtain rfl := h1 (by omega)
      obtain rfl := h2 (by omega)
      obtain rfl := h3 (by omega)
      have k0 := g0 k hlt
      have k1 := g1 k hlt
      have k2 := g2 k hlt
      have k3 := g3 k hlt
      have hkz : (k : Int) < (n : Int) := by omega
      clear g0 g1 g2 g3 h0 h1 h2 h3
      go_wp2_with fail
      go_quiet (fail)
      go_wp2
      go_roundw
      case rel => exact ⟨k + 1, _, by omega, by go_num, rfl⟩
      case measure => simp [intOf]; omega
    · go_wp2
      go_ret
      exact ⟨rfl, m, rfl⟩
set_option maxHeartbeats 400000 in
theorem dead12 (qb mb n : Nat) (D S : Nat → Int) (w : World) (hq : w.cell? ⟨qb, 0, none⟩ = some (.slice (some ⟨mb, 0, none⟩) n n))
    (hm : w.rowIs mb 42 (n * 2) (mrk D S)) (hn : n ≤ 65536) :
    Calls Try.prog 12 #[.pointer (some ⟨qb, 0, none⟩)] w fun e w' => e = .returned (.slice (some ⟨w.heap.size, 0, none⟩) n n) ∧ w'.rowIs w.heap.size 2 n (ints D) ∧ Frm Non w w' := by
  have hmk := run_make_row' (P := Try.prog) 22 2 (.int .i64 0) 8 Try.underlying22 Try.info2 rfl .i64 .i64 n (by omega) (by omega)
  have hqb := World.block_lt_of_cell? _ _ hq
  go_enter Try.func12, Try.ntmps12
  go_wp2
  clear hmk
  go_loopw [4] (fun v wr => ∃ k : Nat, k ≤ n ∧ v = .int .i64 k ∧ Frm Non w wr ∧ wr.rowIs w.heap.size 2 n (ints fun i => if i < k then D i else 0)) (fun v _ => n - (intOf v).toNat)
  case atStart =>
    refine ⟨0, Nat.zero_le _, rfl, (Frm.refl _ _).alloc _, (World.rowIs_made w (.int .i64 0) n 2).congr fun i _ => by simp [ints]⟩
  case round =>
    obtain ⟨k, hk, rfl, hF, hR⟩ := hrel
    by_cases hlt : k < n
    · have q1 : wr.cell? ⟨qb, 0, none⟩ = some (.slice (some ⟨mb, 0, none⟩) n n) := (hF.cell hqb (fun h => h)).trans hq
      have c1 : wr.cell? ⟨mb, k * 2, none⟩ = some (.int .i64 (D k)) := by rw [← mrk_even D S k]; exact (hF.row hm (fun h => h)).cell (by omega)
      have c2 : wr.cell? ⟨w.heap.size, k, none⟩ = some (.int .i64 0) := by simpa [ints] using hR.cell hlt
      have c3 : wr.frozen? ⟨w.heap.size, k, none⟩ = false := hR.frozen k
      go_wp2
      go_roundw
      case rel => exact ⟨k + 1, by omega, by go_num, hF.setCell (.inr (Nat.le_refl _)) _, ints_step hR⟩
      case measure => simp [intOf]; omega
    · obtain rfl : k = n := by omega
      go_wp2
      go_ret
      exact ⟨rfl, hR.congr fun i hi => by simp [ints, hi], hF⟩
set_option maxHeartbeats 400000 in
theorem slot13 (qb mb n : Nat) (D S : Nat → Int) (w : World) (hq : w.cell? ⟨qb, 0, none⟩ = some (.slice (some ⟨mb, 0, none⟩) n n))
    (hm : w.rowIs mb 42 (n * 2) (mrk D S)) (hn : n ≤ 65536) :
    Calls Try.prog 13 #[.pointer (some ⟨qb, 0, none⟩)] w fun e w' => e = .returned (.slice (some ⟨w.heap.size, 0, none⟩) n n) ∧ w'.rowIs w.heap.size 3 n (ints S) ∧ Frm Non w w' := by
  have hmk := run_make_row' (P := Try.prog) 23 3 (.int .i64 0) 8 Try.underlying23 Try.info3 rfl .i64 .i64 n (by omega) (by omega)
  have hqb := World.block_lt_of_cell? _ _ hq
  go_enter Try.func13, Try.ntmps13
  go_wp2
  clear hmk
  go_loopw [4] (fun v wr => ∃ k : Nat, k ≤ n ∧ v = .int .i64 k ∧ Frm Non w wr ∧ wr.rowIs w.heap.size 3 n (ints fun i => if i < k then S i else 0)) (fun v _ => n - (intOf v).toNat)
  case atStart =>
    refine ⟨0, Nat.zero_le _, rfl, (Frm.refl _ _).alloc _, (World.rowIs_made w (.int .i64 0) n 3).congr fun i _ => by simp [ints]⟩
  case round =>
    obtain ⟨k, hk, rfl, hF, hR⟩ := hrel
    by_cases hlt : k < n
    · have q1 : wr.cell? ⟨qb, 0, none⟩ = some (.slice (some ⟨mb, 0, none⟩) n n) := (hF.cell hqb (fun h => h)).trans hq
      have c1 : wr.cell? ⟨mb, k * 2 + 1, none⟩ = some (.int .i64 (S k)) := by rw [← mrk_odd D S k]; exact (hF.row hm (fun h => h)).cell (by omega)
      have c2 : wr.cell? ⟨w.heap.size, k, none⟩ = some (.int .i64 0) := by simpa [ints] using hR.cell hlt
      have c3 : wr.frozen? ⟨w.heap.size, k, none⟩ = false := hR.frozen k
      go_wp2
      go_roundw
      case rel => exact ⟨k + 1, by omega, by go_num, hF.setCell (.inr (Nat.le_refl _)) _, ints_step hR⟩
      case measure => simp [intOf]; omega
    · obtain rfl : k = n := by omega
      go_wp2
      go_ret
      exact ⟨rfl, hR.congr fun i hi => by simp [ints, hi], hF⟩
theorem Try.info42 : (Try.prog.info? 42).map (fun i => (i.zero, i.size, i.bytes)) = some (some (.agg #[.int .i64 0, .int .i64 0]), 2, 16) := by kernel_rfl
theorem make42 (n : Nat) (hn : n ≤ 65536) (w : World) :
    (Instr.makeSlice 39 (.int .i64 (n : Int)) (.int .i64 (n : Int))).run Try.prog w = .ok (.slice (some ⟨w.heap.size, 0, none⟩) n n) (w.alloc (.cells (madeCells #[.int .i64 0, .int .i64 0] (n * 2)) 42)) := by
  obtain ⟨i, hi, hzz⟩ := Option.map_eq_some_iff.1 Try.info42
  simp only [Prod.mk.injEq] at hzz
  obtain ⟨hz, hs, hb⟩ := hzz
  have hr := run_make (P := Try.prog) w 39 42 i _ Try.underlying39 hi hz .i64 .i64 n n (by omega) (Int.le_refl _) (by rw [hb]; omega) (by omega)
  rw [hs] at hr
  simpa [Value.cells] using hr
theorem made42 (w : World) (n : Nat) : (w.alloc (.cells (madeCells #[.int .i64 0, .int .i64 0] (n * 2)) 42)).rowIs w.heap.size 42 (n * 2) (mrk (fun _ => 0) (fun _ => 0)) :=
  ⟨_, blk_alloc_new _ _, size_madeCells _ _, fun i hi => by
    have h2 : i % 2 = 0 ∨ i % 2 = 1 := by omega
    rcases h2 with h2 | h2 <;> simp [madeCells, hi, mrk, h2]⟩
set_option maxHeartbeats 400000 in
theorem new10 (a0 a1 : Option Addr) (b0 o0 b1 o1 n c0 c1 : Nat) (D S : Nat → Int) (w : World)
    (h0 : 0 < n → a0 = some ⟨b0, o0, none⟩) (h1 : 0 < n → a1 = some ⟨b1, o1, none⟩)
    (g0 : ∀ i, i < n → w.cell? ⟨b0, o0 + i, none⟩ = some (.int .i64 (D i))) (g1 : ∀ i, i < n → w.cell? ⟨b1, o1 + i, none⟩ = some (.int .i64 (S i))) (hn : n ≤ 65536) :
    Calls Try.prog 10 #[.slice a0 n c0, .slice a1 n c1] w fun e w' => e = .returned (.pointer (some ⟨w.heap.size + 1, 0, none⟩)) ∧
      w'.cell? ⟨w.heap.size + 1, 0, none⟩ = some (.slice (some ⟨w.heap.size, 0, none⟩) n n) ∧ w'.rowIs w.heap.size 42 (n * 2) (mrk D S) ∧ Frm Non w w' := by
  have hmk := make42 n hn
  go_enter Try.func10, Try.ntmps10
  go_wp2
  clear hmk
  go_loopw [6] (fun v wr => ∃ k : Nat, k ≤ n ∧ v = .int .i64 k ∧ Frm Non w wr ∧ wr.heap.size = w.heap.size + 1 ∧ wr.rowIs w.heap.size 42 (n * 2) (mrk (fun i => if i < k then D i else 0) (fun i => if i < k then S i else 0))) (fun v _ => n - (intOf v).toNat)
  case atStart =>
    refine ⟨0, Nat.zero_le _, rfl, (Frm.refl _ _).alloc _, nblk_alloc _ _, (made42 w n).congr fun i _ => by simp⟩
  case round =>
    obtain ⟨k, hk, rfl, hF, hZ, hR⟩ := hrel
    by_cases hlt : k < n
    · obtain rfl := h0 (by omega)
      obtain rfl := h1 (by omega)
      have k0 : wr.cell? ⟨b0, o0 + k, none⟩ = some (.int .i64 (D k)) := (hF.cell (World.block_lt_of_cell? _ _ (g0 k hlt)) (fun h => h)).trans (g0 k hlt)
      have k1 : wr.cell? ⟨b1, o1 + k, none⟩ = some (.int .i64 (S k)) := (hF.cell (World.block_lt_of_cell? _ _ (g1 k hlt)) (fun h => h)).trans (g1 k hlt)
      have c2 : wr.cell? ⟨w.heap.size, k * 2, none⟩ = some (.int .i64 0) := by have := hR.cell (i := k * 2) (by omega); rw [mrk_even] at this; simpa using this
      have c3 : wr.cell? ⟨w.heap.size, k * 2 + 1, none⟩ = some (.int .i64 0) := by have := hR.cell (i := k * 2 + 1) (by omega); rw [mrk_odd] at this; simpa using this
      have c4 : wr.frozen? ⟨w.heap.size, k * 2, none⟩ = false := hR.frozen _
      have c5 : wr.frozen? ⟨w.heap.size, k * 2 + 1, none⟩ = false := hR.frozen _
      have hkz : (k : Int) < (n : Int) := by omega
      clear g0 g1 h0 h1
      go_wp2_with fail
      go_region
      go_wp2
      go_roundw
      case rel => exact ⟨k + 1, by omega, by go_num, ((hF.setCell (.inr (Nat.le_refl _)) _).setCell (.inr (Nat.le_refl _)) _).drew, by simp [World.setCell, hZ], (mrk_step hR).drew⟩
      case measure => simp [intOf]; omega
    · obtain rfl : k = n := by omega
      go_wp2
      go_ret
      refine ⟨rfl, ?_, (hR.alloc _).congr fun j hj => mrk_congr (fun i hi => if_pos hi) (fun i hi => if_pos hi) hj, hF.alloc _⟩
      rw [World.cell?_alloc_at _ _ _ _ hZ.symm]; rfl
end Go.Proofs.Qxb6627994a
