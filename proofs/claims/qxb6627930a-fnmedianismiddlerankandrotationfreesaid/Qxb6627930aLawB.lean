/-
  SEAT b6627930a: the walk of FnMedianMajorityWinsEvenPadded (the two plain laws are handed to it).
-/
import Derived.Test.Qxb6627930aAids
namespace Go.Proofs.Qxb6627930a
open Go.RowKit
attribute [local go_sem] run_store_float run_quo_zero run_quo_inf
/-- xs as far as k rounds have built it. -/
def preX (v : Nat) (zs : List Nat) (k : Nat) : List Nat := (zs.take k).flatMap fun x => [v, x]
theorem preX_succ (v : Nat) (zs : List Nat) (k : Nat) (hk : k < zs.length) : preX v zs (k + 1) = preX v zs k ++ [v, zs[k]?.getD 0] := by
  unfold preX
  rw [List.take_add_one, List.getElem?_eq_getElem hk, List.flatMap_append]
  simp
def allX (v : Nat) (zs : List Nat) : List Nat := preX v zs zs.length ++ [v]
theorem preX_length (v : Nat) (zs : List Nat) (k : Nat) (hk : k ≤ zs.length) : (preX v zs k).length = 2 * k := by
  induction k with
  | zero => simp [preX]
  | succ k ih => rw [preX_succ v zs k (by omega), List.length_append, ih (by omega)]; simp; omega
abbrev Row (B g n cap : Nat) (xs : List Nat) (W : World) : Prop := W.ownsRow B 24 1 (.slice (some ⟨g, 0, none⟩) n cap) n (xs.map (Value.float .f64))

theorem one_cell (x : Nat) (w : World) (e : TypeId) : ∀ j u, [Value.float .f64 x][j]? = some u → (w.alloc (.cells #[.float .f64 x] e)).cell? ((⟨w.heap.size, 0, none⟩ : Addr).add j) = some u := by
  intro t u ht
  match t, ht with
  | 0, ht => simp at ht; subst ht; simp [Addr.add]
theorem one_one (x : Nat) : ∀ u ∈ [Value.float .f64 x], u.oneCell' = true := by intro u hu; simp at hu; subst hu; rfl

theorem row_cells {B g n cap : Nat} {xs : List Nat} {W : World} (h : Row B g n cap xs W) (hn : xs.length = n) : ∀ j, j < n → W.cell? ⟨g, 0 + j, none⟩ = some (.float .f64 (xs[j]?.getD 0)) := fun j hj => by
  have hj' : j < xs.length := by omega
  rw [Nat.zero_add, World.ownsRow.cellAt h j (by omega)]
  simp [hj']
theorem row_lt {B g n cap : Nat} {xs : List Nat} {W : World} (h : Row B g n cap xs W) : g < W.heap.size := (World.ownsRow.lt h g rfl).2
def padX (X : List Nat) (t nan : Nat) : List Nat := X.take t ++ [nan] ++ [9218868437227405312] ++ X.drop t
theorem allX_length (v : Nat) (zs : List Nat) : (allX v zs).length = 2 * zs.length + 1 := by
  unfold allX; rw [List.length_append, preX_length v zs _ (Nat.le_refl _)]; rfl
theorem take_step (X : List Nat) (k : Nat) (hk : k < X.length) : X.take k ++ [X[k]?.getD 0] = X.take (k + 1) := by
  rw [List.take_add_one, List.getElem?_eq_getElem hk]; rfl
theorem drop_step (X : List Nat) (t k : Nat) (ht : t ≤ k) (hk : k < X.length) : (X.take k).drop t ++ [X[k]?.getD 0] = (X.take (k + 1)).drop t := by
  rw [← take_step X k hk, List.drop_append_of_le_length (by simp; omega)]
theorem row_keep {B g n cap : Nat} {xs : List Nat} {W W' : World} {o : Obj} {G : Nat} (h : Row B g n cap xs W) (hg : (W.alloc o).grownBy W' (some G)) (hne : g ≠ G) : Row B g n cap xs W' :=
  World.ownsRow.kept (World.ownsRow.alloc h o) hg (.inr (fun e => hne (Option.some.inj e)))

set_option maxHeartbeats 4000000 in
set_option maxRecDepth 100000 in
theorem law4 (a : Option Addr) (cap v : Nat) (zs : List Nat) (at' : Int) (hn : zs.length ≤ 9223372036854775807) (w : World)
    (hA : zs.length ≠ 0 → ∃ b off, a = some ⟨b, off, none⟩ ∧ b < w.heap.size ∧ ∀ j, j < zs.length → w.cell? ⟨b, off + j, none⟩ = some (.float .f64 (zs[j]?.getD 0)))
    (PL1 : eqF (Sort.sort ltF (allX v zs).toArray)[(allX v zs).length / 2]! v = true)
    (PL2 : ∀ t nan, t ≤ (allX v zs).length → rk nan = (-2, 0) → eqF (Sort.sort ltF (padX (allX v zs) t nan).toArray)[(padX (allX v zs) t nan).length / 2]! v = true) :
    Calls Try.prog 4 #[.slice a zs.length cap, .float .f64 v, .int .i64 at'] w fun e W' => e = .returned (.bool true) ∧ RowKit.Below w.heap.size w W' := by
  have HB : Hid (∀ w, Calls Try.prog 9 #[.slice a zs.length cap, .float .f64 v, .int .i64 at'] w fun e w' => e = .returned (.bool (decide (zs.length ≤ 1048576))) ∧ w' = w) := bytes9 a zs.length cap v at' hn
  have HA : Hid (zs.length ≠ 0 → ∃ b off, a = some ⟨b, off, none⟩ ∧ b < w.heap.size ∧ ∀ j, j < zs.length → w.cell? ⟨b, off + j, none⟩ = some (.float .f64 (zs[j]?.getD 0))) := hA
  clear hA
  have HP1 : Hid (eqF (Sort.sort ltF (allX v zs).toArray)[(allX v zs).length / 2]! v = true) := PL1
  have HP2 : Hid (∀ t nan, t ≤ (allX v zs).length → rk nan = (-2, 0) → eqF (Sort.sort ltF (padX (allX v zs) t nan).toArray)[(padX (allX v zs) t nan).length / 2]! v = true) := PL2
  clear PL1 PL2
  obtain ⟨i0, hi, hz0, hz1, hz2⟩ := info_parts Try.info24
  by_cases h1 : zs.length ≤ 1048576
  rotate_left
  · rw [decide_eq_false h1] at HB
    go_enter Try.func4, Try.ntmps4
    go_wp2_with fail
    refine (HB.out _).mono ?_
    rintro e w' ⟨rfl, rfl⟩
    go_wp2
    go_ret
    exact ⟨rfl, Below.refl _ _⟩
  rw [decide_eq_true h1] at HB
  by_cases h2 : zs.length ≤ 32768
  rotate_left
  · have d1 : decide (32768 < zs.length) = true := by simp; omega
    have d2 : decide (32768 < (zs.length : Int)) = true := by simp; omega
    go_enter Try.func4, Try.ntmps4
    go_wp2_with fail
    refine (HB.out _).mono ?_
    rintro e w' ⟨rfl, rfl⟩
    go_wp2
    go_ret
    exact ⟨rfl, Below.refl _ _⟩
  have d1 : decide (32768 < zs.length) = false := by simp; omega
  have d2 : decide (32768 < (zs.length : Int)) = false := by simp; omega
  by_cases h3 : at' < 0
  · have d3 : decide (at' < 0) = true := by simpa using h3
    go_enter Try.func4, Try.ntmps4
    go_wp2_with fail
    refine (HB.out _).mono ?_
    rintro e w' ⟨rfl, rfl⟩
    go_wp2
    go_ret
    exact ⟨rfl, Below.refl _ _⟩
  obtain ⟨t, rfl⟩ : ∃ t : Nat, at' = (t : Int) := ⟨at'.toNat, by omega⟩
  have d3 : decide ((t : Int) < 0) = false := by simp
  clear h3
  by_cases h4 : 2 * zs.length + 1 < t
  · have d4 : decide (2 * (zs.length : Int) + 1 < (t : Int)) = true := by simp; omega
    go_enter Try.func4, Try.ntmps4
    go_wp2_with fail
    refine (HB.out _).mono ?_
    rintro e w' ⟨rfl, rfl⟩
    go_wp2
    go_ret
    exact ⟨rfl, Below.refl _ _⟩
  have d4 : decide (2 * (zs.length : Int) + 1 < (t : Int)) = false := by simp; omega
  go_enter Try.func4, Try.ntmps4
  go_wp2_with fail
  refine (HB.out _).mono ?_
  rintro e w' ⟨rfl, rfl⟩
  clear HB
  go_wp2_with (at_make; refine wpList_make_own _ rfl _ _ 22 rfl w'.heap.size 24 i0 (.float .f64 0) 1 Try.underlying22 hi hz0 hz1 _ _ _ (2 * zs.length + 1) rfl rfl (by omega) ?b2 ?b3 (Nat.le_refl _) ?_)
  case b2 => rw [hz2]; omega
  case b3 => unfold maxLen; omega
  intro w0 hown0 hgrow0
  have hB0 : RowKit.Below w'.heap.size w' w0 := (Below.refl _ _).grown hgrow0 (Nat.le_refl _) (fun k h => by cases h)
  have hR0 : Hid (Row w'.heap.size w'.heap.size 0 (2 * zs.length + 1) [] w0) := hown0
  clear hown0 hgrow0
  go_wp2_with fail
  go_loopw [8, 9] (fun sx si wr => ∃ (k l : Nat) (xs : List Nat), k ≤ zs.length ∧ l = 2 * k ∧ si = .int .i64 k ∧ sx = .slice (some ⟨w'.heap.size, 0, none⟩) l (2 * zs.length + 1) ∧ Hid (Row w'.heap.size w'.heap.size l (2 * zs.length + 1) xs wr) ∧ Hid (xs = preX v zs k) ∧ RowKit.Below w'.heap.size w' wr)
    (fun _ si _ => zs.length - (intOf si).toNat)
  case atStart => exact ⟨0, 0, [], Nat.zero_le _, rfl, rfl, rfl, hR0, by simp [Hid, preX], hB0⟩
  case round =>
    obtain ⟨k, l, xs, hk, rfl, rfl, rfl, hR, hX, hnx⟩ := hrel
    clear hR0 hB0
    by_cases hlt : k < zs.length
    · obtain ⟨b, off, rfl, hb, hc⟩ := HA.out (by omega)
      have hcb := hc k hlt
      have hsz := hnx.size
      obtain ⟨x, hx⟩ : ∃ x, zs[k]?.getD 0 = x := ⟨_, rfl⟩
      have HP := preX_succ v zs k hlt
      rw [hx, ← hX.out] at HP
      rw [hx] at hcb
      have HC : Hid (w'.cell? ⟨b, off + k, none⟩ = some (.float .f64 x)) := hcb
      have HP' : Hid (xs ++ [v] ++ [x] = preX v zs (k + 1)) := by
        show _ = _
        rw [HP]; simp
      clear HP hx hc HA hX hcb
      go_wp2_with (at_builtin; refine wpList_append_fits _ rfl (.tmp 43) (.tmp 45) 22 rfl w'.heap.size 24 i0 1 Try.underlying22 hi hz1 w'.heap.size (2 * k) (2 * zs.length + 1) _ rfl (hR.out.alloc _) ⟨wr.heap.size, 0, none⟩ 1 1 [.float .f64 v] rfl rfl (one_cell _ _ _) (one_one _) (by omega) ?_)
      intro w1 hown1 hgrow1
      have hB1 := (hnx.alloc hnx.size _).grown hgrow1 (by simp; omega) (fun k hk => by cases hk; exact Nat.le_refl _)
      have hR1 : Hid (Row w'.heap.size w'.heap.size (2 * k + 1) (2 * zs.length + 1) (xs ++ [v]) w1) := by
        show World.ownsRow _ _ _ _ _ _ _
        simpa using hown1
      have hcx1 := (hB1.cell (p := ⟨b, off + k, none⟩) hb).trans HC.out
      have hsz1 := hB1.size
      clear hown1 hgrow1 hR hnx
      go_wp2_with (at_builtin; refine wpList_append_fits _ rfl (.tmp 47) (.tmp 52) 22 rfl w'.heap.size 24 i0 1 Try.underlying22 hi hz1 w'.heap.size (2 * k + 1) (2 * zs.length + 1) _ rfl (hR1.out.alloc _) ⟨w1.heap.size, 0, none⟩ 1 1 [.float .f64 x] rfl rfl (one_cell _ _ _) (one_one _) (by omega) ?_)
      intro w2 hown2 hgrow2
      have hB2 := (hB1.alloc hB1.size _).grown hgrow2 (by simp; omega) (fun k hk => by cases hk; exact Nat.le_refl _)
      have hR2 : Hid (Row w'.heap.size w'.heap.size (2 * k + 1 + 1) (2 * zs.length + 1) (xs ++ [v] ++ [x]) w2) := by
        show World.ownsRow _ _ _ _ _ _ _
        simpa using hown2
      clear hown2 hgrow2 hR1 hB1 hcx1
      go_wp2
      go_roundw
      case rel => exact ⟨k + 1, _, _, by omega, by omega, by go_num, rfl, hR2, HP', hB2⟩
      case measure => simp [intOf]; omega
    · obtain rfl : k = zs.length := by omega
      clear HA
      have hsz := hnx.size
      go_wp2_with (at_builtin; refine wpList_append_fits _ rfl (.tmp 54) (.tmp 56) 22 rfl w'.heap.size 24 i0 1 Try.underlying22 hi hz1 w'.heap.size (2 * zs.length) (2 * zs.length + 1) _ rfl (hR.out.alloc _) ⟨wr.heap.size, 0, none⟩ 1 1 [.float .f64 v] rfl rfl (one_cell _ _ _) (one_one _) (by omega) ?_)
      intro w1 hown1 hgrow1
      have hB1 := (hnx.alloc hnx.size _).grown hgrow1 (by simp; omega) (fun k hk => by cases hk; exact Nat.le_refl _)
      have hR1 : Hid (Row w'.heap.size w'.heap.size (2 * zs.length + 1) (2 * zs.length + 1) (allX v zs) w1) := by
        show World.ownsRow _ _ _ _ _ _ _
        unfold allX
        rw [← hX.out]
        simpa using hown1
      clear hown1 hgrow1 hR hnx hX
      have hsz1 := hB1.size
      have hlt1 := row_lt hR1.out
      go_wp2_with (at_make; refine wpList_make_own _ rfl _ _ 22 rfl w'.heap.size 24 i0 (.float .f64 0) 1 Try.underlying22 hi hz0 hz1 _ _ _ (2 * zs.length + 3) rfl rfl (by omega) ?b2 ?b3 (by simp; omega) ?_)
      case b2 => rw [hz2]; omega
      case b3 => unfold maxLen; omega
      intro w2 hown2 hgrow2
      have hB2 := hB1.drew.grown hgrow2 (by simpa using hsz1) (fun k h => by cases h)
      have hRx : Hid (Row w'.heap.size w'.heap.size (2 * zs.length + 1) (2 * zs.length + 1) (allX v zs) w2) :=
        World.ownsRow.kept (World.ownsRow.drew hR1.out) hgrow2 (.inr (fun e => by cases e))
      obtain ⟨G, hG⟩ : ∃ G, w1.heap.size = G := ⟨_, rfl⟩
      obtain ⟨nw, hnw⟩ : ∃ nw, nanW w1 = nw := ⟨_, rfl⟩
      have HN : Hid (rk nw = (-2, 0)) := by
        show _ = _
        rw [← hnw]; exact rk_nanW _
      have hR2 : Hid (Row w'.heap.size G 0 (2 * zs.length + 3) [] w2) := by
        show World.ownsRow _ _ _ _ _ _ _
        rw [← hG]; exact hown2
      rw [hG, hnw]
      have hGB : w'.heap.size ≠ G := by omega
      have hGle : w'.heap.size ≤ G := by omega
      clear hown2 hgrow2 hB1 hR1 hnw hG hlt1 hsz1
      have hXl := allX_length v zs
      generalize allX v zs = X at *
      have ht : t ≤ 2 * zs.length + 1 := by omega
      go_wp2_with fail
      go_loopw [13, 14] (fun sp si wr => ∃ (k : Nat), k ≤ t ∧ si = .int .i64 k ∧ sp = .slice (some ⟨G, 0, none⟩) k (2 * zs.length + 3) ∧ Hid (Row w'.heap.size G k (2 * zs.length + 3) (X.take k) wr) ∧ Hid (Row w'.heap.size w'.heap.size (2 * zs.length + 1) (2 * zs.length + 1) X wr) ∧ RowKit.Below w'.heap.size w' wr)
        (fun _ si _ => t - (intOf si).toNat)
      case atStart => exact ⟨0, Nat.zero_le _, rfl, rfl, by simpa using hR2, hRx, hB2⟩
      case round =>
        clear hR2 hRx hB2
        obtain ⟨k, hk, rfl, rfl, hR, hRx, hnx⟩ := hrel
        have hsz := hnx.size
        by_cases hlt : k < t
        · have hd : decide ((k : Int) < (t : Int)) = true := by simp; omega
          have hd' : decide (k < t) = true := by simp; omega
          have hcx := row_cells hRx.out hXl k (by omega)
          rw [Nat.zero_add] at hcx
          obtain ⟨x, hx⟩ : ∃ x, X[k]?.getD 0 = x := ⟨_, rfl⟩
          have HT := take_step X k (by omega)
          rw [hx] at HT hcx
          have HT' : Hid (X.take k ++ [x] = X.take (k + 1)) := HT
          clear HT hx
          go_wp2_with (at_builtin; refine wpList_append_fits _ rfl (.tmp 71) (.tmp 76) 22 rfl w'.heap.size 24 i0 1 Try.underlying22 hi hz1 G k (2 * zs.length + 3) _ rfl (hR.out.alloc _) ⟨wr.heap.size, 0, none⟩ 1 1 [.float .f64 x] rfl rfl (one_cell _ _ _) (one_one _) (by omega) ?_)
          intro w3 hown3 hgrow3
          have hB3 := (hnx.alloc hnx.size _).grown hgrow3 (by simp; omega) (fun k hk => by cases hk; exact hGle)
          have hRx3 : Hid (Row w'.heap.size w'.heap.size (2 * zs.length + 1) (2 * zs.length + 1) X w3) := row_keep hRx.out hgrow3 hGB
          have hR3 : Hid (Row w'.heap.size G (k + 1) (2 * zs.length + 3) (X.take (k + 1)) w3) := by
            show World.ownsRow _ _ _ _ _ _ _
            rw [← HT'.out]
            simpa using hown3
          clear hown3 hgrow3 hR hRx hnx hcx
          go_wp2
          go_roundw
          case rel => exact ⟨k + 1, by omega, by go_num, rfl, hR3, hRx3, hB3⟩
          case measure => simp [intOf]; omega
        · obtain rfl : k = t := by omega
          have hd : decide ((k : Int) < (k : Int)) = false := by simp
          have hd' : decide (k < k) = false := by simp
          go_wp2_with (at_builtin; refine wpList_append_fits _ rfl (.tmp 78) (.tmp 80) 22 rfl w'.heap.size 24 i0 1 Try.underlying22 hi hz1 G k (2 * zs.length + 3) _ rfl (hR.out.alloc _) ⟨wr.heap.size, 0, none⟩ 1 1 [.float .f64 nw] rfl rfl (one_cell _ _ _) (one_one _) (by omega) ?_)
          intro w3 hown3 hgrow3
          have hB3 := (hnx.alloc hnx.size _).grown hgrow3 (by simp; omega) (fun k hk => by cases hk; exact hGle)
          have hRx3 : Hid (Row w'.heap.size w'.heap.size (2 * zs.length + 1) (2 * zs.length + 1) X w3) := row_keep hRx.out hgrow3 hGB
          have hR3 : Hid (Row w'.heap.size G (k + 1) (2 * zs.length + 3) (X.take k ++ [nw]) w3) := by
            show World.ownsRow _ _ _ _ _ _ _
            simpa using hown3
          clear hown3 hgrow3 hR hRx hnx hsz
          have hsz := hB3.size
          go_wp2_with (at_builtin; refine wpList_append_fits _ rfl (.tmp 82) (.tmp 84) 22 rfl w'.heap.size 24 i0 1 Try.underlying22 hi hz1 G (k + 1) (2 * zs.length + 3) _ rfl (hR3.out.alloc _) ⟨w3.heap.size, 0, none⟩ 1 1 [.float .f64 9218868437227405312] rfl rfl (one_cell _ _ _) (one_one _) (by omega) ?_)
          intro w4 hown4 hgrow4
          have hB4 := (hB3.alloc hB3.size _).grown hgrow4 (by simp; omega) (fun k hk => by cases hk; exact hGle)
          have hRx4 : Hid (Row w'.heap.size w'.heap.size (2 * zs.length + 1) (2 * zs.length + 1) X w4) := row_keep hRx3.out hgrow4 hGB
          have hR4 : Hid (Row w'.heap.size G (k + 1 + 1) (2 * zs.length + 3) (X.take k ++ [nw] ++ [9218868437227405312]) w4) := by
            show World.ownsRow _ _ _ _ _ _ _
            simpa using hown4
          clear hown4 hgrow4 hR3 hRx3 hB3 hsz hd hd'
          go_wp2_with fail
          go_loopw [13, 15] (fun sp si wr => ∃ (i : Nat), k ≤ i ∧ i ≤ 2 * zs.length + 1 ∧ si = .int .i64 i ∧ sp = .slice (some ⟨G, 0, none⟩) (i + 2) (2 * zs.length + 3) ∧ Hid (Row w'.heap.size G (i + 2) (2 * zs.length + 3) (X.take k ++ [nw] ++ [9218868437227405312] ++ (X.take i).drop k) wr) ∧ Hid (Row w'.heap.size w'.heap.size (2 * zs.length + 1) (2 * zs.length + 1) X wr) ∧ RowKit.Below w'.heap.size w' wr)
            (fun _ si _ => 2 * zs.length + 1 - (intOf si).toNat)
          case atStart =>
            refine ⟨k, Nat.le_refl _, ht, rfl, rfl, ?_, hRx4, hB4⟩
            rw [List.drop_eq_nil_of_le (by simp; omega), List.append_nil]
            exact hR4
          case round =>
            clear hR4 hRx4 hB4
            obtain ⟨i, hki, hi2, rfl, rfl, hR, hRx, hnx⟩ := hrel
            have hsz := hnx.size
            by_cases hlt : i < 2 * zs.length + 1
            · have hd : decide ((i : Int) < 2 * (zs.length : Int) + 1) = true := by simp; omega
              have hcx := row_cells hRx.out hXl i (by omega)
              rw [Nat.zero_add] at hcx
              obtain ⟨x, hx⟩ : ∃ x, X[i]?.getD 0 = x := ⟨_, rfl⟩
              have HT := drop_step X k i hki (by omega)
              rw [hx] at HT hcx
              have HT' : Hid ((X.take i).drop k ++ [x] = (X.take (i + 1)).drop k) := HT
              clear HT hx
              go_wp2_with (at_builtin; refine wpList_append_fits _ rfl (.tmp 92) (.tmp 97) 22 rfl w'.heap.size 24 i0 1 Try.underlying22 hi hz1 G (i + 2) (2 * zs.length + 3) _ rfl (hR.out.alloc _) ⟨wr.heap.size, 0, none⟩ 1 1 [.float .f64 x] rfl rfl (one_cell _ _ _) (one_one _) (by omega) ?_)
              intro w5 hown5 hgrow5
              have hB5 := (hnx.alloc hnx.size _).grown hgrow5 (by simp; omega) (fun k hk => by cases hk; exact hGle)
              have hRx5 : Hid (Row w'.heap.size w'.heap.size (2 * zs.length + 1) (2 * zs.length + 1) X w5) := row_keep hRx.out hgrow5 hGB
              have hR5 : Hid (Row w'.heap.size G (i + 1 + 2) (2 * zs.length + 3) (X.take k ++ [nw] ++ [9218868437227405312] ++ (X.take (i + 1)).drop k) w5) := by
                show World.ownsRow _ _ _ _ _ _ _
                rw [← HT'.out, show i + 1 + 2 = i + 2 + 1 by omega]
                simpa using hown5
              clear hown5 hgrow5 hR hRx hnx hcx
              go_wp2
              go_roundw
              case rel => exact ⟨i + 1, by omega, by omega, by go_num, by first | rfl | (congr 1; omega), hR5, hRx5, hB5⟩
              case measure => simp [intOf]; omega
            · obtain rfl : i = 2 * zs.length + 1 := by omega
              have hd : decide (2 * (zs.length : Int) + 1 < 2 * (zs.length : Int) + 1) = false := by simp
              have hPL : padX X k nw = X.take k ++ [nw] ++ [9218868437227405312] ++ (X.take (2 * zs.length + 1)).drop k := by
                unfold padX
                rw [← hXl, List.take_length]
              rw [← hPL] at hR
              have hQ1 := HP1.out
              have hQ2 := HP2.out k nw (by omega) HN.out
              have hPl : (padX X k nw).length = 2 * zs.length + 1 + 2 := by
                unfold padX
                simp
                omega
              have hM1 := median6 w'.heap.size 0 (2 * zs.length + 1) X (by omega) (by omega) wr (row_lt hRx.out) (fun j hj => row_cells hRx.out hXl j (by omega))
              generalize padX X k nw = Y at *
              have hM2 : ∀ W, RowKit.Below wr.heap.size wr W → Calls Try.prog 6 #[.slice (some ⟨G, 0, none⟩) Y.length (2 * zs.length + 3)] W fun e W' => e = .returned (.float .f64 (Sort.sort ltF Y.toArray)[Y.length / 2]!) ∧ RowKit.Below W.heap.size W W' := fun W hW =>
                median6 G 0 (2 * zs.length + 3) Y (by omega) (by omega) W (by have := row_lt hR.out; have := hW.size; omega) (fun j hj => (hW.cell (p := ⟨G, 0 + j, none⟩) (row_lt hR.out)).trans (row_cells hR.out hPl j (by omega)))
              generalize (Sort.sort ltF X.toArray)[X.length / 2]! = m1 at *
              generalize (Sort.sort ltF Y.toArray)[Y.length / 2]! = m2 at *
              rw [hXl] at hM1
              rw [hPl] at hM2
              have S1 := zzSame8 m1 v
              have S2 := zzSame8 m2 v
              rw [hQ1] at S1
              rw [hQ2] at S2
              have HM1 : Hid (Calls Try.prog 6 #[.slice (some ⟨w'.heap.size, 0, none⟩) (2 * zs.length + 1) (2 * zs.length + 1)] wr fun e W' => e = .returned (.float .f64 m1) ∧ RowKit.Below wr.heap.size wr W') := hM1
              have HM2 : Hid (∀ W, RowKit.Below wr.heap.size wr W → Calls Try.prog 6 #[.slice (some ⟨G, 0, none⟩) (2 * zs.length + 1 + 2) (2 * zs.length + 3)] W fun e W' => e = .returned (.float .f64 m2) ∧ RowKit.Below W.heap.size W W') := hM2
              have HS1 : Hid (∀ w, Calls Try.prog 8 #[.float .f64 m1, .float .f64 v] w fun e w' => e = .returned (.bool true) ∧ w' = w) := S1
              have HS2 : Hid (∀ w, Calls Try.prog 8 #[.float .f64 m2, .float .f64 v] w fun e w' => e = .returned (.bool true) ∧ w' = w) := S2
              clear hM1 hM2 S1 S2 hR hRx hPL hQ1 hQ2 HP1 HP2 HN
              go_wp2_with fail
              refine Calls.mono (show Calls _ _ _ _ _ from HM1.out) ?_
              rintro e W1 ⟨rfl, hW1⟩
              go_wp2_with fail
              refine (HS1.out _).mono ?_
              rintro e W1' ⟨rfl, rfl⟩
              go_wp2_with fail
              refine Calls.mono (show Calls _ _ _ _ _ from HM2.out _ hW1) ?_
              rintro e W2 ⟨rfl, hW2⟩
              go_wp2_with fail
              refine (HS2.out _).mono ?_
              rintro e W2' ⟨rfl, rfl⟩
              go_wp2
              go_ret
              exact ⟨rfl, hnx.trans ((hW1.mono hsz).trans (hW2.mono (Nat.le_trans hsz hW1.size)))⟩
end Go.Proofs.Qxb6627930a
