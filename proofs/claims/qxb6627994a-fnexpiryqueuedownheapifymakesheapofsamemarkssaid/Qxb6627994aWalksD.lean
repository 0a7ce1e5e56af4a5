/-
  SEAT b6627994a: the walks of zzPairLess and zzSortPairs.
-/
import Derived.Test.Qxb6627994aWalksC
import Derived.Test.Qxb6627994aMerge
import Derived.Deep.QuietTactic
import Derived.BigQuiet
import Derived.RegionTactic
namespace Go.Proofs.Qxb6627994a
open Go.RowKit Go.Deep
set_option maxHeartbeats 400000 in
theorem pair19 (b0 b1 n c0 c1 x y : Nat) (D S : Nat → Int) (w : World) (g0 : ∀ i, i < n → w.cell? ⟨b0, i, none⟩ = some (.int .i64 (D i))) (g1 : ∀ i, i < n → w.cell? ⟨b1, i, none⟩ = some (.int .i64 (S i)))
    (hx : x < n) (hy : y < n) :
    Calls Try.prog 19 #[.slice (some ⟨b0, 0, none⟩) n c0, .slice (some ⟨b1, 0, none⟩) n c1, .int .i64 x, .int .i64 y] w fun e w' =>
      e = .returned (.bool (plt (D x, S x) (D y, S y))) ∧ ∃ m, w' = w.drewN m := by
  have k0 := g0 x hx
  have k1 := g0 y hy
  have k2 := g1 x hx
  have k3 := g1 y hy
  have hxz : (x : Int) < (n : Int) := by omega
  have hyz : (y : Int) < (n : Int) := by omega
  clear g0 g1
  by_cases h : D x = D y
  · have hne : (D x != D y) = false := by simp [h]
    have HP : Hid (plt (D x, S x) (D y, S y) = decide (S x < S y)) := by show _ = _; unfold plt; rw [if_pos h]
    clear h
    go_enter Try.func19, Try.ntmps19
    go_wp2_with fail
    go_quiet (fail)
    go_wp2_with fail
    go_quiet (fail)
    go_wp2
    go_ret
    exact ⟨ret_bool HP.out.symm, _, World.drewN_drewN _ _ _⟩
  · have hne : (D x != D y) = true := by simp; exact h
    have HP : Hid (plt (D x, S x) (D y, S y) = decide (D x < D y)) := by show _ = _; unfold plt; rw [if_neg h]
    clear h
    go_enter Try.func19, Try.ntmps19
    go_wp2_with fail
    go_quiet (fail)
    go_wp2_with fail
    go_quiet (fail)
    go_wp2
    go_ret
    exact ⟨ret_bool HP.out.symm, _, World.drewN_drewN _ _ _⟩

/-- A row of indices. -/
def natv (A : Nat → Nat) : Nat → Value := ints (fun i => (A i : Int))
theorem natv_upd {w : World} {b : Nat} {t : TypeId} {n : Nat} {B : Nat → Nat} (h : w.rowIs b t n (natv B)) (i v : Nat) :
    (w.setCell ⟨b, i, none⟩ (.int .i64 (v : Int))).rowIs b t n (natv (upd B i v)) :=
  (ints_upd h i (v : Int)).congr fun j _ => by
    simp only [natv, ints, upd]; split <;> rfl
set_option maxRecDepth 100000 in
set_option maxHeartbeats 6400000 in
theorem sort16 (a0 a1 : Option Addr) (b0 b1' n c0 c1 : Nat) (D S : Nat → Int) (w : World) (h0 : 0 < n → a0 = some ⟨b0, 0, none⟩) (h1 : 0 < n → a1 = some ⟨b1', 0, none⟩)
    (g0 : ∀ i, i < n → w.cell? ⟨b0, i, none⟩ = some (.int .i64 (D i))) (g1 : ∀ i, i < n → w.cell? ⟨b1', i, none⟩ = some (.int .i64 (S i))) (hn : n ≤ 65536) :
    Calls Try.prog 16 #[.slice a0 n c0, .slice a1 n c1] w fun e w' => ∃ (p q : Nat) (O : Nat → Int × Int), e = .returned (.tuple #[.slice (some ⟨p, 0, none⟩) n n, .slice (some ⟨q, 0, none⟩) n n]) ∧
      w'.rowIs p 2 n (ints (fsts O)) ∧ w'.rowIs q 3 n (ints (snds O)) ∧ SortedOf n (fun i => (D i, S i)) O ∧ Frm Non w w' := by
  have hmk := run_make_row' (P := Try.prog) 23 3 (.int .i64 0) 8 Try.underlying23 Try.info3 rfl .i64 .i64 n (by omega) (by omega)
  have G0 : Hid (∀ i, i < n → w.cell? ⟨b0, i, none⟩ = some (.int .i64 (D i))) := g0
  have G1 : Hid (∀ i, i < n → w.cell? ⟨b1', i, none⟩ = some (.int .i64 (S i))) := g1
  have hb0 : 0 < n → b0 < w.heap.size := fun h => World.block_lt_of_cell? _ _ (g0 0 h)
  have hb1 : 0 < n → b1' < w.heap.size := fun h => World.block_lt_of_cell? _ _ (g1 0 h)
  have Z0 : Hid (0 < n → a0 = some ⟨b0, 0, none⟩) := h0
  have Z1 : Hid (0 < n → a1 = some ⟨b1', 0, none⟩) := h1
  clear g0 g1 h0 h1
  go_enter Try.func16, Try.ntmps16
  go_wp2
  clear hmk
  go_loopw [9] (fun v wr => ∃ k : Nat, k ≤ n ∧ v = .int .i64 k ∧ Frm Non w wr ∧ wr.rowIs w.heap.size 3 n (ints fun i => if i < k then (i : Int) else 0) ∧ wr.rowIs (w.heap.size + 1) 3 n (natv fun _ => 0)) (fun v _ => n - (intOf v).toNat)
  case atStart =>
    refine ⟨0, Nat.zero_le _, rfl, ((Frm.refl _ _).alloc _).alloc _, ((World.rowIs_made w (.int .i64 0) n 3).congr fun i _ => by simp [ints]).alloc _, ?_⟩
    have := World.rowIs_made (w.alloc (.cells (madeCells #[.int .i64 0] n) 3)) (.int .i64 0) n 3
    rw [nblk_alloc] at this
    exact this.congr fun i _ => by simp [natv, ints]
  case round =>
    obtain ⟨k, hk, rfl, hF, hR, hR2⟩ := hrel
    by_cases hlt : k < n
    · have c2 : wr.cell? ⟨w.heap.size, k, none⟩ = some (.int .i64 0) := by simpa [ints] using hR.cell hlt
      have c3 : wr.frozen? ⟨w.heap.size, k, none⟩ = false := hR.frozen k
      go_wp2
      go_roundw
      case rel => exact ⟨k + 1, by omega, by go_num, hF.setCell (.inr (Nat.le_refl _)) _, ints_step (D := fun i => (i : Int)) hR, hR2.setOther (by show w.heap.size + 1 ≠ w.heap.size; omega) _⟩
      case measure => simp [intOf]; omega
    · have hkn : n ≤ k := by omega
      have hRa : wr.rowIs w.heap.size 3 n (natv fun i => i) := hR.congr fun i hi => by simp [ints, natv, show i < k by omega]
      clear hR
      go_wp2_with fail
      go_loopw [7, 8, 10] (fun va vb vw wr => ∃ (p q wd : Nat) (A B : Nat → Nat), va = .slice (some ⟨p, 0, none⟩) n n ∧ vb = .slice (some ⟨q, 0, none⟩) n n ∧ p ≠ q ∧ w.heap.size ≤ p ∧ w.heap.size ≤ q ∧ vw = .int .i64 wd ∧ 1 ≤ wd ∧ wd ≤ 131072 ∧
          wr.rowIs p 3 n (natv A) ∧ wr.rowIs q 3 n (natv B) ∧ (firsts n A).Perm (List.range n) ∧ SB (fun i => (D i, S i)) wd n A ∧ Frm Non w wr) (fun _ _ vw _ => n - (intOf vw).toNat)
      case atStart => exact ⟨_, _, 1, _, _, rfl, rfl, by omega, by omega, by omega, rfl, by omega, by omega, hRa, hR2, by simp [firsts], sb_one _ _ _, hF⟩
      case round =>
        clear hRa hR2 hF
        obtain ⟨p, q, wd, A, B, rfl, rfl, hpq, hpw, hqw, rfl, hw1, hw2, hP, hQ, hperm, hsb, hF⟩ := hrel
        have HA : Hid (∀ i, i < n → A i < n) := perm_lt hperm
        by_cases hwn : wd < n
        · obtain rfl := Z0.out (by omega)
          obtain rfl := Z1.out (by omega)
          go_wp2_with fail
          obtain ⟨wo, hwo⟩ : ∃ wo : World, wo = wr := ⟨_, rfl⟩
          go_loopw [11] (fun v wr => ∃ (lo t : Nat) (B1 : Nat → Nat), v = .int .i64 lo ∧ lo = t * (2 * wd) ∧ lo ≤ n + 2 * wd ∧ Frm Non w wr ∧ wr.rowIs p 3 n (natv A) ∧ wr.rowIs q 3 n (natv B1) ∧ Md (fun i => (D i, S i)) n wd A B1 t) (fun v _ => n - (intOf v).toNat)
          case atStart => exact ⟨0, 0, B, rfl, by omega, by omega, hF, hP, hQ, md_start _ _ _ _ _⟩
          case round =>
            obtain ⟨lo, t, B1, rfl, hlo, hlb, hF1, hP1, hQ1, hMd⟩ := hrel
            have HLO : Hid (lo = t * (2 * wd)) := hlo
            have HMD : Hid (Md (fun i => (D i, S i)) n wd A B1 t) := hMd
            clear hlo hMd hwo hF hP hQ
            by_cases hln : lo < n
            · have SL0 := sb_left (t := t) hsb
              have SR0 := sb_right (t := t) hsb
              rw [← HLO.out] at SL0 SR0
              by_cases hc1 : lo + 2 * wd ≤ n
              · obtain ⟨mid, hmid⟩ : ∃ mid : Nat, (lo : Int) + (wd : Int) = (mid : Int) := ⟨lo + wd, by omega⟩
                obtain ⟨hi, hhi⟩ : ∃ hi : Nat, (lo : Int) + 2 * (wd : Int) = (hi : Int) := ⟨lo + 2 * wd, by omega⟩
                have HMID : Hid ((lo : Int) + (wd : Int) = (mid : Int)) := hmid
                have HHI : Hid ((lo : Int) + 2 * (wd : Int) = (hi : Int)) := hhi
                have hlm : lo ≤ mid := by omega
                have hmh : mid ≤ hi := by omega
                have hhn : hi ≤ n := by omega
                have HN1 : Hid (mid = min (lo + wd) n) := by show _ = _; omega
                have HN2 : Hid (hi = min (lo + 2 * wd) n) := by show _ = _; omega
                have SL : Srt (fun i => (D i, S i)) A lo mid := by have h := SL0; rw [← HN1.out] at h; exact h
                have SR : Srt (fun i => (D i, S i)) A mid hi := by have h := SR0; rw [← HN1.out, ← HN2.out] at h; exact h
                clear hmid hhi SL0 SR0
                go_wp2_with fail
                rw [HMID.out, HHI.out]
                go_loopw [14, 15, 16] (fun vx vy vk wr => ∃ (x y k : Nat) (B2 : Nat → Nat), vx = .int .i64 x ∧ vy = .int .i64 y ∧ vk = .int .i64 k ∧ Mg (fun i => (D i, S i)) A B2 lo mid hi x y k ∧
                    Frm Non w wr ∧ wr.rowIs p 3 n (natv A) ∧ wr.rowIs q 3 n (natv B2) ∧ ∀ i, i < lo → B2 i = B1 i) (fun _ _ vk _ => hi - (intOf vk).toNat)
                case atStart => exact ⟨lo, mid, lo, B1, rfl, rfl, rfl, mg_start _ A B1 lo mid hi hlm hmh, hF1, hP1, hQ1, fun _ _ => rfl⟩
                case round =>
                  obtain ⟨x, y, k, B2, rfl, rfl, rfl, hM, hF2, hP2, hQ2, hB2⟩ := hrel
                  have m1 := hM.lox
                  have m2 := hM.xm
                  have m3 := hM.my
                  have m4 := hM.yh
                  have m5 : k ≤ hi := by have := hM.k_eq; omega
                  clear hF1 hP1 hQ1
                  by_cases hkh : k < hi
                  · have hkz : (k : Int) < (n : Int) := by omega
                    have b1 : wr.cell? ⟨q, k, none⟩ = some (.int .i64 (B2 k)) := hQ2.cell (by omega)
                    have b2 : wr.frozen? ⟨q, k, none⟩ = false := hQ2.frozen _
                    by_cases hyh : y < hi
                    · have hy0 : decide ((hi : Int) ≤ (y : Int)) = false := decide_eq_false (by omega)
                      have hy0n : decide (hi ≤ y) = false := decide_eq_false (by omega)
                      have ay : wr.cell? ⟨p, y, none⟩ = some (.int .i64 (A y)) := hP2.cell (by omega)
                      have hyn : (y : Int) < (n : Int) := by omega
                      by_cases hxm : x < mid
                      · have hx0 : (x : Int) < (mid : Int) := by omega
                        have ax : wr.cell? ⟨p, x, none⟩ = some (.int .i64 (A x)) := hP2.cell (by omega)
                        have hxn : (x : Int) < (n : Int) := by omega
                        obtain ⟨bb, hlt⟩ : ∃ bb, plt (D (A y), S (A y)) (D (A x), S (A x)) = bb := ⟨_, rfl⟩
                        have HP : Hid (∀ m, Calls Try.prog 19 #[.slice (some ⟨b0, 0, none⟩) n c0, .slice (some ⟨b1', 0, none⟩) n c1, .int .i64 (A y), .int .i64 (A x)] (wr.drewN m) fun e w' =>
                            e = .returned (.bool bb) ∧ ∃ m', w' = (wr.drewN m).drewN m') := by
                          intro m
                          rw [← hlt]
                          exact pair19 b0 b1' n c0 c1 (A y) (A x) D S (wr.drewN m) (fun i hii => (hF2.cell (hb0 (by omega)) (fun h => h)).trans (G0.out i hii)) (fun i hii => (hF2.cell (hb1 (by omega)) (fun h => h)).trans (G1.out i hii)) (HA.out y (by omega)) (HA.out x (by omega))
                        have HL : Hid (plt (D (A y), S (A y)) (D (A x), S (A x)) = bb) := hlt
                        clear hlt
                        go_wp2_with fail
                        cases bb
                        · go_big_quiet ((go_at_call 19; exact Calls.quiet_of (HP.out _)))
                          go_wp2
                          go_roundw
                          case rel =>
                            refine ⟨x + 1, y, k + 1, upd B2 k (A x), by go_num, rfl, by go_num, mg_left hM SL SR hxm (fun _ => HL.out), ?_, ?_, natv_upd hQ2 k (A x), ?_⟩
                            · exact (hF2.drewN _).setCell (.inr (by show w.heap.size ≤ q; omega)) _
                            · exact hP2.setOther (by show p ≠ q; omega) _
                            · intro i hii; rw [upd_other _ _ _ _ (by have := hM.k_eq; have := hM.lox; have := hM.my; omega)]; exact hB2 i hii
                          case measure => simp [intOf]; omega
                        · go_big_quiet ((go_at_call 19; exact Calls.quiet_of (HP.out _)))
                          go_wp2
                          go_roundw
                          case rel =>
                            refine ⟨x, y + 1, k + 1, upd B2 k (A y), rfl, by go_num, by go_num, mg_right hM SL SR hyh (fun _ => HL.out), ?_, ?_, natv_upd hQ2 k (A y), ?_⟩
                            · exact (hF2.drewN _).setCell (.inr (by show w.heap.size ≤ q; omega)) _
                            · exact hP2.setOther (by show p ≠ q; omega) _
                            · intro i hii; rw [upd_other _ _ _ _ (by have := hM.k_eq; have := hM.lox; have := hM.my; omega)]; exact hB2 i hii
                          case measure => simp [intOf]; omega
                      · have hx0 : decide ((x : Int) < (mid : Int)) = false := decide_eq_false (by omega)
                        have hx0n : decide (x < mid) = false := decide_eq_false (by omega)
                        go_wp2_with fail
                        go_big_quiet (fail)
                        go_wp2
                        go_roundw
                        case rel =>
                          refine ⟨x, y + 1, k + 1, upd B2 k (A y), rfl, by go_num, by go_num, mg_right hM SL SR hyh (fun h => absurd h (by omega)), ?_, ?_, natv_upd hQ2 k (A y), ?_⟩
                          · exact (hF2.drewN _).setCell (.inr (by show w.heap.size ≤ q; omega)) _
                          · exact hP2.setOther (by show p ≠ q; omega) _
                          · intro i hii; rw [upd_other _ _ _ _ (by have := hM.k_eq; have := hM.lox; have := hM.my; omega)]; exact hB2 i hii
                        case measure => simp [intOf]; omega
                    · have hy0 : decide ((hi : Int) ≤ (y : Int)) = true := decide_eq_true (by omega)
                      have hy0n : decide (hi ≤ y) = true := decide_eq_true (by omega)
                      have hy1 : (hi : Int) ≤ (y : Int) := by omega
                      have hxm : x < mid := by have := hM.k_eq; omega
                      have ax : wr.cell? ⟨p, x, none⟩ = some (.int .i64 (A x)) := hP2.cell (by omega)
                      have hxn : (x : Int) < (n : Int) := by omega
                      go_wp2_with fail
                      go_big_quiet (fail)
                      go_wp2
                      go_roundw
                      case rel =>
                        refine ⟨x + 1, y, k + 1, upd B2 k (A x), by go_num, rfl, by go_num, mg_left hM SL SR hxm (fun h => absurd h (by omega)), ?_, ?_, natv_upd hQ2 k (A x), ?_⟩
                        · exact (hF2.drewN _).setCell (.inr (by show w.heap.size ≤ q; omega)) _
                        · exact hP2.setOther (by show p ≠ q; omega) _
                        · intro i hii; rw [upd_other _ _ _ _ (by have := hM.k_eq; have := hM.lox; have := hM.my; omega)]; exact hB2 i hii
                      case measure => simp [intOf]; omega
                  · have hkz : ¬ k < hi := hkh
                    go_wp2
                    go_roundw
                    case rel =>
                      refine ⟨lo + 2 * wd, t + 1, B2, by go_num, by rw [HLO.out, Nat.add_mul, Nat.one_mul], by omega, hF2, hP2, hQ2, ?_⟩
                      refine md_step HMD.out (by rw [← HLO.out]; exact hln) (x := x) (y := y) (k := k) (by rw [← HLO.out, ← HN1.out, ← HN2.out]; exact hM) (by rw [← HLO.out, ← HN2.out]; omega) (by rw [← HLO.out]; exact hB2)
                    case measure => simp [intOf]; omega
              · by_cases hc2 : lo + wd ≤ n
                · obtain ⟨mid, hmid⟩ : ∃ mid : Nat, (lo : Int) + (wd : Int) = (mid : Int) := ⟨lo + wd, by omega⟩
                  have HMID : Hid ((lo : Int) + (wd : Int) = (mid : Int)) := hmid
                  have hlm : lo ≤ mid := by omega
                  have hmh : mid ≤ n := by omega
                  have hhn : n ≤ n := by omega
                  have HN1 : Hid (mid = min (lo + wd) n) := by show _ = _; omega
                  have HN2 : Hid (n = min (lo + 2 * wd) n) := by show _ = _; omega
                  have SL : Srt (fun i => (D i, S i)) A lo mid := by have h := SL0; rw [← HN1.out] at h; exact h
                  have SR : Srt (fun i => (D i, S i)) A mid n := by have h := SR0; rw [← HN1.out, ← HN2.out] at h; exact h
                  clear hmid SL0 SR0
                  go_wp2_with fail
                  rw [HMID.out]
                  go_loopw [14, 15, 16] (fun vx vy vk wr => ∃ (x y k : Nat) (B2 : Nat → Nat), vx = .int .i64 x ∧ vy = .int .i64 y ∧ vk = .int .i64 k ∧ Mg (fun i => (D i, S i)) A B2 lo mid n x y k ∧
                      Frm Non w wr ∧ wr.rowIs p 3 n (natv A) ∧ wr.rowIs q 3 n (natv B2) ∧ ∀ i, i < lo → B2 i = B1 i) (fun _ _ vk _ => n - (intOf vk).toNat)
                  case atStart => exact ⟨lo, mid, lo, B1, rfl, rfl, rfl, mg_start _ A B1 lo mid n hlm hmh, hF1, hP1, hQ1, fun _ _ => rfl⟩
                  case round =>
                    obtain ⟨x, y, k, B2, rfl, rfl, rfl, hM, hF2, hP2, hQ2, hB2⟩ := hrel
                    have m1 := hM.lox
                    have m2 := hM.xm
                    have m3 := hM.my
                    have m4 := hM.yh
                    have m5 : k ≤ n := by have := hM.k_eq; omega
                    clear hF1 hP1 hQ1
                    by_cases hkh : k < n
                    · have hkz : (k : Int) < (n : Int) := by omega
                      have b1 : wr.cell? ⟨q, k, none⟩ = some (.int .i64 (B2 k)) := hQ2.cell (by omega)
                      have b2 : wr.frozen? ⟨q, k, none⟩ = false := hQ2.frozen _
                      by_cases hyh : y < n
                      · have hy0 : decide ((n : Int) ≤ (y : Int)) = false := decide_eq_false (by omega)
                        have hy0n : decide (n ≤ y) = false := decide_eq_false (by omega)
                        have ay : wr.cell? ⟨p, y, none⟩ = some (.int .i64 (A y)) := hP2.cell (by omega)
                        have hyn : (y : Int) < (n : Int) := by omega
                        by_cases hxm : x < mid
                        · have hx0 : (x : Int) < (mid : Int) := by omega
                          have ax : wr.cell? ⟨p, x, none⟩ = some (.int .i64 (A x)) := hP2.cell (by omega)
                          have hxn : (x : Int) < (n : Int) := by omega
                          obtain ⟨bb, hlt⟩ : ∃ bb, plt (D (A y), S (A y)) (D (A x), S (A x)) = bb := ⟨_, rfl⟩
                          have HP : Hid (∀ m, Calls Try.prog 19 #[.slice (some ⟨b0, 0, none⟩) n c0, .slice (some ⟨b1', 0, none⟩) n c1, .int .i64 (A y), .int .i64 (A x)] (wr.drewN m) fun e w' =>
                              e = .returned (.bool bb) ∧ ∃ m', w' = (wr.drewN m).drewN m') := by
                            intro m
                            rw [← hlt]
                            exact pair19 b0 b1' n c0 c1 (A y) (A x) D S (wr.drewN m) (fun i hii => (hF2.cell (hb0 (by omega)) (fun h => h)).trans (G0.out i hii)) (fun i hii => (hF2.cell (hb1 (by omega)) (fun h => h)).trans (G1.out i hii)) (HA.out y (by omega)) (HA.out x (by omega))
                          have HL : Hid (plt (D (A y), S (A y)) (D (A x), S (A x)) = bb) := hlt
                          clear hlt
                          go_wp2_with fail
                          cases bb
                          · go_big_quiet ((go_at_call 19; exact Calls.quiet_of (HP.out _)))
                            go_wp2
                            go_roundw
                            case rel =>
                              refine ⟨x + 1, y, k + 1, upd B2 k (A x), by go_num, rfl, by go_num, mg_left hM SL SR hxm (fun _ => HL.out), ?_, ?_, natv_upd hQ2 k (A x), ?_⟩
                              · exact (hF2.drewN _).setCell (.inr (by show w.heap.size ≤ q; omega)) _
                              · exact hP2.setOther (by show p ≠ q; omega) _
                              · intro i hii; rw [upd_other _ _ _ _ (by have := hM.k_eq; have := hM.lox; have := hM.my; omega)]; exact hB2 i hii
                            case measure => simp [intOf]; omega
                          · go_big_quiet ((go_at_call 19; exact Calls.quiet_of (HP.out _)))
                            go_wp2
                            go_roundw
                            case rel =>
                              refine ⟨x, y + 1, k + 1, upd B2 k (A y), rfl, by go_num, by go_num, mg_right hM SL SR hyh (fun _ => HL.out), ?_, ?_, natv_upd hQ2 k (A y), ?_⟩
                              · exact (hF2.drewN _).setCell (.inr (by show w.heap.size ≤ q; omega)) _
                              · exact hP2.setOther (by show p ≠ q; omega) _
                              · intro i hii; rw [upd_other _ _ _ _ (by have := hM.k_eq; have := hM.lox; have := hM.my; omega)]; exact hB2 i hii
                            case measure => simp [intOf]; omega
                        · have hx0 : decide ((x : Int) < (mid : Int)) = false := decide_eq_false (by omega)
                          have hx0n : decide (x < mid) = false := decide_eq_false (by omega)
                          go_wp2_with fail
                          go_big_quiet (fail)
                          go_wp2
                          go_roundw
                          case rel =>
                            refine ⟨x, y + 1, k + 1, upd B2 k (A y), rfl, by go_num, by go_num, mg_right hM SL SR hyh (fun h => absurd h (by omega)), ?_, ?_, natv_upd hQ2 k (A y), ?_⟩
                            · exact (hF2.drewN _).setCell (.inr (by show w.heap.size ≤ q; omega)) _
                            · exact hP2.setOther (by show p ≠ q; omega) _
                            · intro i hii; rw [upd_other _ _ _ _ (by have := hM.k_eq; have := hM.lox; have := hM.my; omega)]; exact hB2 i hii
                          case measure => simp [intOf]; omega
                      · have hy0 : decide ((n : Int) ≤ (y : Int)) = true := decide_eq_true (by omega)
                        have hy0n : decide (n ≤ y) = true := decide_eq_true (by omega)
                        have hy1 : (n : Int) ≤ (y : Int) := by omega
                        have hxm : x < mid := by have := hM.k_eq; omega
                        have ax : wr.cell? ⟨p, x, none⟩ = some (.int .i64 (A x)) := hP2.cell (by omega)
                        have hxn : (x : Int) < (n : Int) := by omega
                        go_wp2_with fail
                        go_big_quiet (fail)
                        go_wp2
                        go_roundw
                        case rel =>
                          refine ⟨x + 1, y, k + 1, upd B2 k (A x), by go_num, rfl, by go_num, mg_left hM SL SR hxm (fun h => absurd h (by omega)), ?_, ?_, natv_upd hQ2 k (A x), ?_⟩
                          · exact (hF2.drewN _).setCell (.inr (by show w.heap.size ≤ q; omega)) _
                          · exact hP2.setOther (by show p ≠ q; omega) _
                          · intro i hii; rw [upd_other _ _ _ _ (by have := hM.k_eq; have := hM.lox; have := hM.my; omega)]; exact hB2 i hii
                        case measure => simp [intOf]; omega
                    · have hkz : ¬ k < n := hkh
                      go_wp2
                      go_roundw
                      case rel =>
                        refine ⟨lo + 2 * wd, t + 1, B2, by go_num, by rw [HLO.out, Nat.add_mul, Nat.one_mul], by omega, hF2, hP2, hQ2, ?_⟩
                        refine md_step HMD.out (by rw [← HLO.out]; exact hln) (x := x) (y := y) (k := k) (by rw [← HLO.out, ← HN1.out, ← HN2.out]; exact hM) (by rw [← HLO.out, ← HN2.out]; omega) (by rw [← HLO.out]; exact hB2)
                      case measure => simp [intOf]; omega
                · have hc3 : n < lo + wd := by omega
                  have hlm : lo ≤ n := by omega
                  have hmh : n ≤ n := by omega
                  have hhn : n ≤ n := by omega
                  have HN1 : Hid (n = min (lo + wd) n) := by show _ = _; omega
                  have HN2 : Hid (n = min (lo + 2 * wd) n) := by show _ = _; omega
                  have SL : Srt (fun i => (D i, S i)) A lo n := by have h := SL0; rw [← HN1.out] at h; exact h
                  have SR : Srt (fun i => (D i, S i)) A n n := by have h := SR0; rw [← HN1.out, ← HN2.out] at h; exact h
                  clear SL0 SR0
                  go_wp2_with fail
                  go_loopw [14, 15, 16] (fun vx vy vk wr => ∃ (x y k : Nat) (B2 : Nat → Nat), vx = .int .i64 x ∧ vy = .int .i64 y ∧ vk = .int .i64 k ∧ Mg (fun i => (D i, S i)) A B2 lo n n x y k ∧
                      Frm Non w wr ∧ wr.rowIs p 3 n (natv A) ∧ wr.rowIs q 3 n (natv B2) ∧ ∀ i, i < lo → B2 i = B1 i) (fun _ _ vk _ => n - (intOf vk).toNat)
                  case atStart => exact ⟨lo, n, lo, B1, rfl, rfl, rfl, mg_start _ A B1 lo n n hlm hmh, hF1, hP1, hQ1, fun _ _ => rfl⟩
                  case round =>
                    obtain ⟨x, y, k, B2, rfl, rfl, rfl, hM, hF2, hP2, hQ2, hB2⟩ := hrel
                    have m1 := hM.lox
                    have m2 := hM.xm
                    have m3 := hM.my
                    have m4 := hM.yh
                    have m5 : k ≤ n := by have := hM.k_eq; omega
                    clear hF1 hP1 hQ1
                    by_cases hkh : k < n
                    · have hkz : (k : Int) < (n : Int) := by omega
                      have b1 : wr.cell? ⟨q, k, none⟩ = some (.int .i64 (B2 k)) := hQ2.cell (by omega)
                      have b2 : wr.frozen? ⟨q, k, none⟩ = false := hQ2.frozen _
                      by_cases hyh : y < n
                      · exact absurd hyh (by omega)
                      · have hy0 : decide ((n : Int) ≤ (y : Int)) = true := decide_eq_true (by omega)
                        have hy0n : decide (n ≤ y) = true := decide_eq_true (by omega)
                        have hy1 : (n : Int) ≤ (y : Int) := by omega
                        have hxm : x < n := by have := hM.k_eq; omega
                        have ax : wr.cell? ⟨p, x, none⟩ = some (.int .i64 (A x)) := hP2.cell (by omega)
                        have hxn : (x : Int) < (n : Int) := by omega
                        go_wp2_with fail
                        go_big_quiet (fail)
                        go_wp2
                        go_roundw
                        case rel =>
                          refine ⟨x + 1, y, k + 1, upd B2 k (A x), by go_num, rfl, by go_num, mg_left hM SL SR hxm (fun h => absurd h (by omega)), ?_, ?_, natv_upd hQ2 k (A x), ?_⟩
                          · exact (hF2.drewN _).setCell (.inr (by show w.heap.size ≤ q; omega)) _
                          · exact hP2.setOther (by show p ≠ q; omega) _
                          · intro i hii; rw [upd_other _ _ _ _ (by have := hM.k_eq; have := hM.lox; have := hM.my; omega)]; exact hB2 i hii
                        case measure => simp [intOf]; omega
                    · have hkz : ¬ k < n := hkh
                      go_wp2
                      go_roundw
                      case rel =>
                        refine ⟨lo + 2 * wd, t + 1, B2, by go_num, by rw [HLO.out, Nat.add_mul, Nat.one_mul], by omega, hF2, hP2, hQ2, ?_⟩
                        refine md_step HMD.out (by rw [← HLO.out]; exact hln) (x := x) (y := y) (k := k) (by rw [← HLO.out, ← HN1.out, ← HN2.out]; exact hM) (by rw [← HLO.out, ← HN2.out]; omega) (by rw [← HLO.out]; exact hB2)
                      case measure => simp [intOf]; omega
            · obtain ⟨hp2, hs2⟩ := md_end HMD.out (by rw [← HLO.out]; omega)
              go_wp2
              go_roundw
              case rel =>
                exact ⟨q, p, wd * 2, B1, A, rfl, rfl, Ne.symm hpq, hqw, hpw, by go_num, by omega, by omega, hQ1, hP1, hp2.trans hperm, by rw [Nat.mul_comm]; exact hs2, hF1⟩
              case measure => simp [intOf]; omega
        · have hmk2 := run_make_row' (P := Try.prog) 22 2 (.int .i64 0) 8 Try.underlying22 Try.info2 rfl .i64 .i64 n (by omega) (by omega)
          have hmk3 := run_make_row' (P := Try.prog) 23 3 (.int .i64 0) 8 Try.underlying23 Try.info3 rfl .i64 .i64 n (by omega) (by omega)
          obtain ⟨wz, rfl⟩ : ∃ wz : World, wz = wr := ⟨_, rfl⟩
          go_wp2_with fail
          clear hmk2 hmk3
          have hpz := hP.lt
          go_loopw [19] (fun v wr => ∃ k : Nat, k ≤ n ∧ v = .int .i64 k ∧ Frm Non w wr ∧ wr.rowIs p 3 n (natv A) ∧ wr.rowIs wz.heap.size 2 n (ints fun i => if i < k then D (A i) else 0) ∧
              wr.rowIs (wz.heap.size + 1) 3 n (ints fun i => if i < k then S (A i) else 0)) (fun v _ => n - (intOf v).toNat)
          case atStart =>
            refine ⟨0, Nat.zero_le _, rfl, (hF.alloc _).alloc _, (hP.alloc _).alloc _, ((World.rowIs_made wz (.int .i64 0) n 2).congr fun i _ => by simp [ints]).alloc _, ?_⟩
            have := World.rowIs_made (wz.alloc (.cells (madeCells #[.int .i64 0] n) 2)) (.int .i64 0) n 3
            rw [nblk_alloc] at this
            exact this.congr fun i _ => by simp [ints]
          case round =>
            obtain ⟨k, hk, rfl, hF2, hP2, hR1, hR2⟩ := hrel
            by_cases hlt : k < n
            · obtain rfl := Z0.out (by omega)
              obtain rfl := Z1.out (by omega)
              have hAk : A k < n := HA.out k hlt
              have hAz : (A k : Int) < (n : Int) := by omega
              have hkz : (k : Int) < (n : Int) := by omega
              have e1 : wr.cell? ⟨p, k, none⟩ = some (.int .i64 (A k)) := hP2.cell hlt
              have e2 : wr.cell? ⟨b0, A k, none⟩ = some (.int .i64 (D (A k))) := (hF2.cell (hb0 (by omega)) (fun h => h)).trans (G0.out _ hAk)
              have e3 : wr.cell? ⟨b1', A k, none⟩ = some (.int .i64 (S (A k))) := (hF2.cell (hb1 (by omega)) (fun h => h)).trans (G1.out _ hAk)
              have hb0' := hb0 (by omega)
              have hb1'' := hb1 (by omega)
              have hsz := hF.size
              have e4 : ∀ v, (wr.setCell ⟨wz.heap.size, k, none⟩ v).cell? ⟨p, k, none⟩ = some (.int .i64 (A k)) := fun v => by rw [cell_set1 _ _ _ _ _ (by show p ≠ wz.heap.size; omega)]; exact e1
              have e5 : ∀ v, (wr.setCell ⟨wz.heap.size, k, none⟩ v).cell? ⟨b1', A k, none⟩ = some (.int .i64 (S (A k))) := fun v => by rw [cell_set1 _ _ _ _ _ (by show b1' ≠ wz.heap.size; omega)]; exact e3
              have d1 : wr.cell? ⟨wz.heap.size, k, none⟩ = some (.int .i64 0) := by simpa [ints] using hR1.cell hlt
              have d2 : wr.frozen? ⟨wz.heap.size, k, none⟩ = false := hR1.frozen k
              have d3 : wr.cell? ⟨wz.heap.size + 1, k, none⟩ = some (.int .i64 0) := by simpa [ints] using hR2.cell hlt
              have d4 : wr.frozen? ⟨wz.heap.size + 1, k, none⟩ = false := hR2.frozen k
              have d5 : ∀ v, (wr.setCell ⟨wz.heap.size, k, none⟩ v).cell? ⟨wz.heap.size + 1, k, none⟩ = some (.int .i64 0) := fun v => by rw [cell_set1 _ _ _ _ _ (by show wz.heap.size + 1 ≠ wz.heap.size; omega)]; exact d3
              go_wp2
              go_roundw
              case rel =>
                refine ⟨k + 1, by omega, by go_num, ?_, ?_, ?_, ?_⟩
                · exact (hF2.setCell (.inr (by show w.heap.size ≤ wz.heap.size; omega)) _).setCell (.inr (by show w.heap.size ≤ wz.heap.size + 1; omega)) _
                · exact (hP2.setOther (by show p ≠ wz.heap.size; omega) _).setOther (by show p ≠ wz.heap.size + 1; omega) _
                · exact (ints_step (D := fun i => D (A i)) hR1).setOther (by show wz.heap.size ≠ wz.heap.size + 1; omega) _
                · exact ints_step (D := fun i => S (A i)) (hR2.setOther (by show wz.heap.size + 1 ≠ wz.heap.size; omega) _)
              case measure => simp [intOf]; omega
            · obtain rfl : k = n := by omega
              go_wp2
              go_ret2
              refine ⟨_, _, fun i => (D (A i), S (A i)), rfl, hR1.congr fun i hi => ?_, hR2.congr fun i hi => ?_, sortedOf_mk hperm (sb_whole hsb (by omega)), hF2⟩
              · simp [ints, fsts, hi]
              · simp [ints, snds, hi]
end Go.Proofs.Qxb6627994a
