/-
  SEAT b6627994a: the walk of zzSwapSiftDown: the Go text computes 'sw'.
-/
import Derived.Test.Qxb6627994aWalksA
import Derived.Deep.QuietTactic
import Derived.BigQuiet
import Derived.RegionTactic
namespace Go.Proofs.Qxb6627994a
open Go.RowKit Go.Deep
theorem sw_stop (n f k : Nat) (P : Nat → Int × Int) (h : small n k P = k) : sw n f k P = P := by
  cases f with
  | zero => rfl
  | succ f => rw [sw, if_pos h]
theorem sw_go (n f k x : Nat) (P : Nat → Int × Int) (hf : 1 ≤ f) (h : small n k P = x) (hx : x ≠ k) : sw n f k P = sw n (f - 1) x (swp P k x) := by
  obtain ⟨g, rfl⟩ : ∃ g, f = g + 1 := ⟨f - 1, by omega⟩
  rw [sw, h, if_neg hx, Nat.add_sub_cancel]
theorem small_l (n k c : Nat) (P : Nat → Int × Int) (e : c = 2 * k + 1) (h : c < n ∧ (P c).1 < (P k).1) : small n k P = if c + 1 < n ∧ (P (c + 1)).1 < (P c).1 then c + 1 else c := by
  subst e; simp only [small]; rw [if_pos h]
theorem small_k (n k c : Nat) (P : Nat → Int × Int) (e : c = 2 * k + 1) (h : ¬ (c < n ∧ (P c).1 < (P k).1)) : small n k P = if c + 1 < n ∧ (P (c + 1)).1 < (P k).1 then c + 1 else k := by
  subst e; simp only [small]; rw [if_neg h]
def fsts (P : Nat → Int × Int) : Nat → Int := fun i => (P i).1
def snds (P : Nat → Int × Int) : Nat → Int := fun i => (P i).2
theorem swp_fsts {w : World} {b : Nat} {t : TypeId} {n : Nat} {P : Nat → Int × Int} (h : w.rowIs b t n (ints (fsts P))) (i j : Nat) :
    ((w.setCell ⟨b, i, none⟩ (.int .i64 (P j).1)).setCell ⟨b, j, none⟩ (.int .i64 (P i).1)).rowIs b t n (ints (fsts (swp P i j))) := by
  have := ints_upd (ints_upd h i (P j).1) j (P i).1
  have e : fsts (swp P i j) = upd (upd (fsts P) i (P j).1) j (P i).1 := by
    unfold fsts swp; rw [upd_fst, upd_fst]
  rw [e]; exact this
theorem swp_snds {w : World} {b : Nat} {t : TypeId} {n : Nat} {P : Nat → Int × Int} (h : w.rowIs b t n (ints (snds P))) (i j : Nat) :
    ((w.setCell ⟨b, i, none⟩ (.int .i64 (P j).2)).setCell ⟨b, j, none⟩ (.int .i64 (P i).2)).rowIs b t n (ints (snds (swp P i j))) := by
  have := ints_upd (ints_upd h i (P j).2) j (P i).2
  have e : snds (swp P i j) = upd (upd (snds P) i (P j).2) j (P i).2 := by
    unfold snds swp; rw [upd_snd, upd_snd]
  rw [e]; exact this
set_option maxRecDepth 100000 in
set_option maxHeartbeats 3200000 in
theorem sift9 (db sb n i c0 c1 : Nat) (P : Nat → Int × Int) (w : World) (hd : w.rowIs db 2 n (ints (fsts P))) (hs : w.rowIs sb 3 n (ints (snds P))) (hne : db ≠ sb) (hi : i < n) (hn : n ≤ 65536) :
    Calls Try.prog 9 #[.slice (some ⟨db, 0, none⟩) n c0, .slice (some ⟨sb, 0, none⟩) n c1, .int .i64 i] w fun e w' => e = .returned (.tuple #[]) ∧
      w'.rowIs db 2 n (ints (fsts (sw n n i P))) ∧ w'.rowIs sb 3 n (ints (snds (sw n n i P))) ∧ Frm (fun k => k = db ∨ k = sb) w w' := by
  go_enter Try.func9, Try.ntmps9
  go_wp2
  go_loopw [7] (fun v wr => ∃ (k f : Nat) (Q : Nat → Int × Int), k < n ∧ n ≤ k + f ∧ v = .int .i64 k ∧ Frm (fun k => k = db ∨ k = sb) w wr ∧ wr.rowIs db 2 n (ints (fsts Q)) ∧ wr.rowIs sb 3 n (ints (snds Q)) ∧
      sw n f k Q = sw n n i P) (fun v _ => n - (intOf v).toNat)
  case atStart => exact ⟨i, n, P, hi, by omega, rfl, Frm.refl _ _, hd, hs, rfl⟩
  case round =>
    obtain ⟨k, f, Q, hkn, hkf, rfl, hF, hD, hS, hN⟩ := hrel
    have HN : Hid (sw n f k Q = sw n n i P) := hN
    have hf1 : 1 ≤ f := by omega
    clear hN hi hd hs
    have k0 : wr.cell? ⟨db, k, none⟩ = some (.int .i64 (Q k).1) := hD.cell hkn
    have k1 : wr.cell? ⟨sb, k, none⟩ = some (.int .i64 (Q k).2) := hS.cell hkn
    have hkz : (k : Int) < (n : Int) := by omega
    obtain ⟨c, hcz⟩ : ∃ c : Nat, (2 * (k : Int) + 1) = (c : Int) := ⟨2 * k + 1, by omega⟩
    have HC : Hid ((2 * (k : Int) + 1) = (c : Int)) := hcz
    have HC2 : Hid (c = 2 * k + 1) := by show _ = _; omega
    have hck : k < c := by omega
    have hcb : c ≤ 131073 := by omega
    clear hcz
    by_cases hcn : c < n
    · have hcz : (c : Int) < (n : Int) := by omega
      have a0 : wr.cell? ⟨db, c, none⟩ = some (.int .i64 (Q c).1) := hD.cell hcn
      by_cases hrn : c + 1 < n
      · have hrz : (c : Int) + 1 < (n : Int) := by omega
        have b0 : wr.cell? ⟨db, c + 1, none⟩ = some (.int .i64 (Q (c + 1)).1) := hD.cell hrn
        by_cases hl : (Q c).1 < (Q k).1
        · by_cases hr : (Q (c + 1)).1 < (Q c).1
          · have HX : Hid (small n k Q = (c + 1)) := by
              show _ = _
              rw [small_l n k c Q HC2.out ⟨hcn, hl⟩, if_pos ⟨hrn, hr⟩]
            have x0 : wr.cell? ⟨db, (c + 1), none⟩ = some (.int .i64 (Q (c + 1)).1) := hD.cell (by omega)
            have x1 : wr.cell? ⟨sb, (c + 1), none⟩ = some (.int .i64 (Q (c + 1)).2) := hS.cell (by omega)
            have y0 : ∀ q v, ((wr.drewN q).setCell ⟨db, k, none⟩ v).cell? ⟨db, (c + 1), none⟩ = some (.int .i64 (Q (c + 1)).1) := fun q v => by
              rw [World.cell?_setCell_other _ _ _ _ (fun e => by have := congrArg Addr.off e; simp at this; omega)]; exact x0
            have y2 : ∀ q u v, (((wr.drewN q).setCell ⟨db, k, none⟩ u).setCell ⟨db, (c + 1), none⟩ v).cell? ⟨sb, k, none⟩ = some (.int .i64 (Q k).2) := fun q u v => by
              rw [cell_set1 _ _ _ _ _ (Ne.symm hne), cell_set1 _ _ _ _ _ (Ne.symm hne)]; exact k1
            have y3 : ∀ q u v, (((wr.drewN q).setCell ⟨db, k, none⟩ u).setCell ⟨db, (c + 1), none⟩ v).cell? ⟨sb, (c + 1), none⟩ = some (.int .i64 (Q (c + 1)).2) := fun q u v => by
              rw [cell_set1 _ _ _ _ _ (Ne.symm hne), cell_set1 _ _ _ _ _ (Ne.symm hne)]; exact x1
            have y1 : ∀ q u v v2, ((((wr.drewN q).setCell ⟨db, k, none⟩ u).setCell ⟨db, (c + 1), none⟩ v).setCell ⟨sb, k, none⟩ v2).cell? ⟨sb, (c + 1), none⟩ = some (.int .i64 (Q (c + 1)).2) := fun q u v v2 => by
              rw [World.cell?_setCell_other _ _ _ _ (fun e => by have := congrArg Addr.off e; simp at this; omega)]; exact y3 q u v
            have f0 : wr.frozen? ⟨db, k, none⟩ = false := hD.frozen _
            have f1 : wr.frozen? ⟨db, (c + 1), none⟩ = false := hD.frozen _
            have f2 : wr.frozen? ⟨sb, k, none⟩ = false := hS.frozen _
            have f3 : wr.frozen? ⟨sb, (c + 1), none⟩ = false := hS.frozen _
            go_wp2_with fail
            rw [HC.out]
            go_quiet (fail)
            go_wp2_with fail
            go_quiet (fail)
            go_wp2
            go_roundw
            case rel =>
              refine ⟨(c + 1), f - 1, swp Q k (c + 1), by omega, by omega, by go_num, ?_, ?_, ?_, ?_⟩
              · exact ((((hF.drewN _).setCell (.inl (.inl rfl)) _).setCell (.inl (.inl rfl)) _).setCell (.inl (.inr rfl)) _).setCell (.inl (.inr rfl)) _
              · exact ((swp_fsts hD k (c + 1)).setOther hne _).setOther hne _
              · exact swp_snds ((hS.setOther (Ne.symm hne) _).setOther (Ne.symm hne) _) k (c + 1)
              · rw [← HN.out, sw_go n f k (c + 1) Q hf1 HX.out (by omega)]
            case measure => simp [intOf]; omega
          · have HX : Hid (small n k Q = c) := by
              show _ = _
              rw [small_l n k c Q HC2.out ⟨hcn, hl⟩, if_neg (fun h => hr h.2)]
            have x0 : wr.cell? ⟨db, c, none⟩ = some (.int .i64 (Q c).1) := hD.cell (by omega)
            have x1 : wr.cell? ⟨sb, c, none⟩ = some (.int .i64 (Q c).2) := hS.cell (by omega)
            have y0 : ∀ q v, ((wr.drewN q).setCell ⟨db, k, none⟩ v).cell? ⟨db, c, none⟩ = some (.int .i64 (Q c).1) := fun q v => by
              rw [World.cell?_setCell_other _ _ _ _ (fun e => by have := congrArg Addr.off e; simp at this; omega)]; exact x0
            have y2 : ∀ q u v, (((wr.drewN q).setCell ⟨db, k, none⟩ u).setCell ⟨db, c, none⟩ v).cell? ⟨sb, k, none⟩ = some (.int .i64 (Q k).2) := fun q u v => by
              rw [cell_set1 _ _ _ _ _ (Ne.symm hne), cell_set1 _ _ _ _ _ (Ne.symm hne)]; exact k1
            have y3 : ∀ q u v, (((wr.drewN q).setCell ⟨db, k, none⟩ u).setCell ⟨db, c, none⟩ v).cell? ⟨sb, c, none⟩ = some (.int .i64 (Q c).2) := fun q u v => by
              rw [cell_set1 _ _ _ _ _ (Ne.symm hne), cell_set1 _ _ _ _ _ (Ne.symm hne)]; exact x1
            have y1 : ∀ q u v v2, ((((wr.drewN q).setCell ⟨db, k, none⟩ u).setCell ⟨db, c, none⟩ v).setCell ⟨sb, k, none⟩ v2).cell? ⟨sb, c, none⟩ = some (.int .i64 (Q c).2) := fun q u v v2 => by
              rw [World.cell?_setCell_other _ _ _ _ (fun e => by have := congrArg Addr.off e; simp at this; omega)]; exact y3 q u v
            have f0 : wr.frozen? ⟨db, k, none⟩ = false := hD.frozen _
            have f1 : wr.frozen? ⟨db, c, none⟩ = false := hD.frozen _
            have f2 : wr.frozen? ⟨sb, k, none⟩ = false := hS.frozen _
            have f3 : wr.frozen? ⟨sb, c, none⟩ = false := hS.frozen _
            go_wp2_with fail
            rw [HC.out]
            go_quiet (fail)
            go_wp2_with fail
            go_quiet (fail)
            go_wp2
            go_roundw
            case rel =>
              refine ⟨c, f - 1, swp Q k c, by omega, by omega, by go_num, ?_, ?_, ?_, ?_⟩
              · exact ((((hF.drewN _).setCell (.inl (.inl rfl)) _).setCell (.inl (.inl rfl)) _).setCell (.inl (.inr rfl)) _).setCell (.inl (.inr rfl)) _
              · exact ((swp_fsts hD k c).setOther hne _).setOther hne _
              · exact swp_snds ((hS.setOther (Ne.symm hne) _).setOther (Ne.symm hne) _) k c
              · rw [← HN.out, sw_go n f k c Q hf1 HX.out (by omega)]
            case measure => simp [intOf]; omega
        · by_cases hr : (Q (c + 1)).1 < (Q k).1
          · have HX : Hid (small n k Q = (c + 1)) := by
              show _ = _
              rw [small_k n k c Q HC2.out (fun h => hl h.2), if_pos ⟨hrn, hr⟩]
            have x0 : wr.cell? ⟨db, (c + 1), none⟩ = some (.int .i64 (Q (c + 1)).1) := hD.cell (by omega)
            have x1 : wr.cell? ⟨sb, (c + 1), none⟩ = some (.int .i64 (Q (c + 1)).2) := hS.cell (by omega)
            have y0 : ∀ q v, ((wr.drewN q).setCell ⟨db, k, none⟩ v).cell? ⟨db, (c + 1), none⟩ = some (.int .i64 (Q (c + 1)).1) := fun q v => by
              rw [World.cell?_setCell_other _ _ _ _ (fun e => by have := congrArg Addr.off e; simp at this; omega)]; exact x0
            have y2 : ∀ q u v, (((wr.drewN q).setCell ⟨db, k, none⟩ u).setCell ⟨db, (c + 1), none⟩ v).cell? ⟨sb, k, none⟩ = some (.int .i64 (Q k).2) := fun q u v => by
              rw [cell_set1 _ _ _ _ _ (Ne.symm hne), cell_set1 _ _ _ _ _ (Ne.symm hne)]; exact k1
            have y3 : ∀ q u v, (((wr.drewN q).setCell ⟨db, k, none⟩ u).setCell ⟨db, (c + 1), none⟩ v).cell? ⟨sb, (c + 1), none⟩ = some (.int .i64 (Q (c + 1)).2) := fun q u v => by
              rw [cell_set1 _ _ _ _ _ (Ne.symm hne), cell_set1 _ _ _ _ _ (Ne.symm hne)]; exact x1
            have y1 : ∀ q u v v2, ((((wr.drewN q).setCell ⟨db, k, none⟩ u).setCell ⟨db, (c + 1), none⟩ v).setCell ⟨sb, k, none⟩ v2).cell? ⟨sb, (c + 1), none⟩ = some (.int .i64 (Q (c + 1)).2) := fun q u v v2 => by
              rw [World.cell?_setCell_other _ _ _ _ (fun e => by have := congrArg Addr.off e; simp at this; omega)]; exact y3 q u v
            have f0 : wr.frozen? ⟨db, k, none⟩ = false := hD.frozen _
            have f1 : wr.frozen? ⟨db, (c + 1), none⟩ = false := hD.frozen _
            have f2 : wr.frozen? ⟨sb, k, none⟩ = false := hS.frozen _
            have f3 : wr.frozen? ⟨sb, (c + 1), none⟩ = false := hS.frozen _
            go_wp2_with fail
            rw [HC.out]
            go_quiet (fail)
            go_wp2_with fail
            go_quiet (fail)
            go_wp2
            go_roundw
            case rel =>
              refine ⟨(c + 1), f - 1, swp Q k (c + 1), by omega, by omega, by go_num, ?_, ?_, ?_, ?_⟩
              · exact ((((hF.drewN _).setCell (.inl (.inl rfl)) _).setCell (.inl (.inl rfl)) _).setCell (.inl (.inr rfl)) _).setCell (.inl (.inr rfl)) _
              · exact ((swp_fsts hD k (c + 1)).setOther hne _).setOther hne _
              · exact swp_snds ((hS.setOther (Ne.symm hne) _).setOther (Ne.symm hne) _) k (c + 1)
              · rw [← HN.out, sw_go n f k (c + 1) Q hf1 HX.out (by omega)]
            case measure => simp [intOf]; omega
          · have HX : Hid (small n k Q = k) := by
              show _ = _
              rw [small_k n k c Q HC2.out (fun h => hl h.2), if_neg (fun h => hr h.2)]
            go_wp2_with fail
            rw [HC.out]
            go_quiet (fail)
            go_wp2_with fail
            go_quiet (fail)
            go_wp2
            refine bodyPost_ret (v := .tuple #[]) (by simp [results, Try.results9, go_sem]) rfl ⟨rfl, ?_⟩
            rw [← HN.out, sw_stop n f k Q HX.out]
            exact ⟨hD, hS, hF.drewN _⟩
      · have hrz : decide ((c : Int) + 1 < (n : Int)) = false := decide_eq_false (by omega)
        by_cases hl : (Q c).1 < (Q k).1
        · have HX : Hid (small n k Q = c) := by
            show _ = _
            rw [small_l n k c Q HC2.out ⟨hcn, hl⟩, if_neg (fun h => hrn h.1)]
          have x0 : wr.cell? ⟨db, c, none⟩ = some (.int .i64 (Q c).1) := hD.cell (by omega)
          have x1 : wr.cell? ⟨sb, c, none⟩ = some (.int .i64 (Q c).2) := hS.cell (by omega)
          have y0 : ∀ q v, ((wr.drewN q).setCell ⟨db, k, none⟩ v).cell? ⟨db, c, none⟩ = some (.int .i64 (Q c).1) := fun q v => by
            rw [World.cell?_setCell_other _ _ _ _ (fun e => by have := congrArg Addr.off e; simp at this; omega)]; exact x0
          have y2 : ∀ q u v, (((wr.drewN q).setCell ⟨db, k, none⟩ u).setCell ⟨db, c, none⟩ v).cell? ⟨sb, k, none⟩ = some (.int .i64 (Q k).2) := fun q u v => by
            rw [cell_set1 _ _ _ _ _ (Ne.symm hne), cell_set1 _ _ _ _ _ (Ne.symm hne)]; exact k1
          have y3 : ∀ q u v, (((wr.drewN q).setCell ⟨db, k, none⟩ u).setCell ⟨db, c, none⟩ v).cell? ⟨sb, c, none⟩ = some (.int .i64 (Q c).2) := fun q u v => by
            rw [cell_set1 _ _ _ _ _ (Ne.symm hne), cell_set1 _ _ _ _ _ (Ne.symm hne)]; exact x1
          have y1 : ∀ q u v v2, ((((wr.drewN q).setCell ⟨db, k, none⟩ u).setCell ⟨db, c, none⟩ v).setCell ⟨sb, k, none⟩ v2).cell? ⟨sb, c, none⟩ = some (.int .i64 (Q c).2) := fun q u v v2 => by
            rw [World.cell?_setCell_other _ _ _ _ (fun e => by have := congrArg Addr.off e; simp at this; omega)]; exact y3 q u v
          have f0 : wr.frozen? ⟨db, k, none⟩ = false := hD.frozen _
          have f1 : wr.frozen? ⟨db, c, none⟩ = false := hD.frozen _
          have f2 : wr.frozen? ⟨sb, k, none⟩ = false := hS.frozen _
          have f3 : wr.frozen? ⟨sb, c, none⟩ = false := hS.frozen _
          go_wp2_with fail
          rw [HC.out]
          go_quiet (fail)
          go_wp2_with fail
          go_quiet (fail)
          go_wp2
          go_roundw
          case rel =>
            refine ⟨c, f - 1, swp Q k c, by omega, by omega, by go_num, ?_, ?_, ?_, ?_⟩
            · exact ((((hF.drewN _).setCell (.inl (.inl rfl)) _).setCell (.inl (.inl rfl)) _).setCell (.inl (.inr rfl)) _).setCell (.inl (.inr rfl)) _
            · exact ((swp_fsts hD k c).setOther hne _).setOther hne _
            · exact swp_snds ((hS.setOther (Ne.symm hne) _).setOther (Ne.symm hne) _) k c
            · rw [← HN.out, sw_go n f k c Q hf1 HX.out (by omega)]
          case measure => simp [intOf]; omega
        · have HX : Hid (small n k Q = k) := by
            show _ = _
            rw [small_k n k c Q HC2.out (fun h => hl h.2), if_neg (fun h => hrn h.1)]
          go_wp2_with fail
          rw [HC.out]
          go_quiet (fail)
          go_wp2_with fail
          go_quiet (fail)
          go_wp2
          refine bodyPost_ret (v := .tuple #[]) (by simp [results, Try.results9, go_sem]) rfl ⟨rfl, ?_⟩
          rw [← HN.out, sw_stop n f k Q HX.out]
          exact ⟨hD, hS, hF.drewN _⟩
    · have hcz : decide ((c : Int) < (n : Int)) = false := decide_eq_false (by omega)
      have hrz : decide ((c : Int) + 1 < (n : Int)) = false := decide_eq_false (by omega)
      have HX : Hid (small n k Q = k) := by
        show _ = _
        rw [small_k n k c Q HC2.out (fun h => hcn h.1), if_neg (by omega)]
      go_wp2_with fail
      rw [HC.out]
      go_quiet (fail)
      go_wp2_with fail
      go_quiet (fail)
      go_wp2
      refine bodyPost_ret (v := .tuple #[]) (by simp [results, Try.results9, go_sem]) rfl ⟨rfl, ?_⟩
      rw [← HN.out, sw_stop n f k Q HX.out]
      exact ⟨hD, hS, hF.drewN _⟩
end Go.Proofs.Qxb6627994a
