/-
  SEAT b6627930a: the walk of FnMedianIsMiddleRankAndRotationFree.
-/
import Derived.Test.Qxb6627930aFloats
import Derived.Laws.CopyOwn
namespace Go.Proofs.Qxb6627930a
open Go.RowKit
attribute [local go_sem] run_store_float

theorem take_drop_step (X : List Nat) (c k : Nat) (hck : c ≤ k) (hk : k < X.length) : (X.take k).drop c ++ [X[k]?.getD 0] = (X.take (k + 1)).drop c := drop_step X c k hck hk
theorem floats_one (zs : List Nat) : ∀ u ∈ zs.map (Value.float .f64), u.oneCell' = true := by
  intro u hu
  obtain ⟨_, _, rfl⟩ := List.mem_map.1 hu
  rfl

theorem calls_args {P : Program} {f : FuncId} {a b : Array Value} {w : World} {R : Ending → World → Prop} (h : Calls P f a w R) (e : a = b) : Calls P f b w R := e ▸ h
theorem row_copied {W : World} {B g : Nat} {cur : List Value} {zs : List Nat} (hB : B ≤ g) (hcl : cur.length = zs.length) (hle : zs.length ≤ maxLen)
    (h : W.heap[g]? = some (.cells (splice cur 0 (zs.map (Value.float .f64))).toArray 24 (0, 0))) : Row B g zs.length zs.length zs W := by
  have e : splice cur 0 (zs.map (Value.float .f64)) = zs.map (Value.float .f64) := by
    unfold splice
    rw [List.take_zero, List.nil_append, List.drop_eq_nil_of_le (by simp [hcl]), List.append_nil]
  rw [e] at h
  refine ⟨by simp, .inr ⟨g, zs.length, (zs.map (Value.float .f64)).toArray, rfl, hB, h, Nat.le_refl _, hle, by simp, ?_⟩⟩
  rw [Nat.mul_one]
  exact List.take_of_length_le (by simp)

set_option maxHeartbeats 4000000 in
set_option maxRecDepth 100000 in
theorem law3 (a : Option Addr) (cap : Nat) (zs : List Nat) (cut : Int) (hn : zs.length ≤ 9223372036854775807) (w : World)
    (hA : zs.length ≠ 0 → ∃ b off, a = some ⟨b, off, none⟩ ∧ b < w.heap.size ∧ ∀ j, j < zs.length → w.cell? ⟨b, off + j, none⟩ = some (.float .f64 (zs[j]?.getD 0))) :
    Calls Try.prog 3 #[.slice a zs.length cap, .int .i64 cut] w fun e W' => e = .returned (.bool true) ∧ RowKit.Below w.heap.size w W' := by
  have HB : Hid (∀ w, Calls Try.prog 5 #[.slice a zs.length cap, .int .i64 cut] w fun e w' => e = .returned (.bool (decide (zs.length ≤ 1048576))) ∧ w' = w) := bytes5 a zs.length cap cut hn
  obtain ⟨i0, hi, hz0, hz1, hz2⟩ := info_parts Try.info24
  by_cases h1 : zs.length ≤ 1048576
  rotate_left
  · rw [decide_eq_false h1] at HB
    clear hA
    go_enter Try.func3, Try.ntmps3
    go_wp2_with fail
    refine (HB.out _).mono ?_
    rintro e w' ⟨rfl, rfl⟩
    go_wp2
    go_ret
    exact ⟨rfl, Below.refl _ _⟩
  rw [decide_eq_true h1] at HB
  by_cases h2 : zs.length ≤ 65536
  rotate_left
  · have d1 : decide (65536 < zs.length) = true := by simp; omega
    have d2 : decide (65536 < (zs.length : Int)) = true := by simp; omega
    clear hA
    go_enter Try.func3, Try.ntmps3
    go_wp2_with fail
    refine (HB.out _).mono ?_
    rintro e w' ⟨rfl, rfl⟩
    go_wp2
    go_ret
    exact ⟨rfl, Below.refl _ _⟩
  have d1 : decide (65536 < zs.length) = false := by simp; omega
  have d2 : decide (65536 < (zs.length : Int)) = false := by simp; omega
  by_cases hodd : zs.length % 2 = 1
  rotate_left
  · have d3 : (zs.length : Int) % 2 = 0 := by omega
    clear hA
    go_enter Try.func3, Try.ntmps3
    go_wp2_with fail
    refine (HB.out _).mono ?_
    rintro e w' ⟨rfl, rfl⟩
    go_wp2
    go_ret
    exact ⟨rfl, Below.refl _ _⟩
  have d3 : (zs.length : Int) % 2 = 1 := by omega
  have hpos : 0 < zs.length := by omega
  by_cases h3 : cut < 0
  · have d3 : decide (cut < 0) = true := by simpa using h3
    clear hA
    go_enter Try.func3, Try.ntmps3
    go_wp2_with fail
    refine (HB.out _).mono ?_
    rintro e w' ⟨rfl, rfl⟩
    go_wp2
    go_ret
    exact ⟨rfl, Below.refl _ _⟩
  obtain ⟨c, rfl⟩ : ∃ t : Nat, cut = (t : Int) := ⟨cut.toNat, by omega⟩
  have d4 : decide ((c : Int) < 0) = false := by simp
  clear h3
  by_cases h4 : zs.length < c
  · have d5 : decide ((zs.length : Int) < (c : Int)) = true := by simp; omega
    have d6 : decide (zs.length < c) = true := by simp; omega
    clear hA
    go_enter Try.func3, Try.ntmps3
    go_wp2_with fail
    refine (HB.out _).mono ?_
    rintro e w' ⟨rfl, rfl⟩
    go_wp2
    go_ret
    exact ⟨rfl, Below.refl _ _⟩
  have d5 : decide ((zs.length : Int) < (c : Int)) = false := by simp; omega
  have d6 : decide (zs.length < c) = false := by simp; omega
  obtain ⟨b, off, rfl, hb, hc⟩ := hA (by omega)
  have HC : Hid (∀ j, j < zs.length → w.cell? ⟨b, off + j, none⟩ = some (.float .f64 (zs[j]?.getD 0))) := hc
  clear hc hA
  go_enter Try.func3, Try.ntmps3
  go_wp2_with fail
  refine (HB.out _).mono ?_
  rintro e w' ⟨rfl, rfl⟩
  clear HB
  go_wp2_with (at_make; refine wpList_make_full _ rfl _ _ 22 rfl w'.heap.size 24 i0 (.float .f64 0) 1 Try.underlying22 hi hz0 hz1 _ _ _ _ zs.length rfl rfl rfl rfl ?b2 ?b3 (Nat.le_refl _) ?_)
  case b2 => rw [hz2]; omega
  case b3 => unfold maxLen; omega
  intro w0 hown0 hgrow0
  have hB0 : RowKit.Below w'.heap.size w' w0 := (Below.refl _ _).grown hgrow0 (Nat.le_refl _) (fun k h => by cases h)
  obtain ⟨cur, hcur, hcl⟩ : ∃ cur : List Value, w0.heap[w'.heap.size]? = some (.cells cur.toArray 24 (0, 0)) ∧ cur.length = zs.length := by
    rcases hown0.2 with ⟨h, _⟩ | ⟨g, cp, cu, hv, _, hg, _, _, hsz, _⟩
    · cases h
    · cases hv
      exact ⟨cu.toList, by simpa using hg, by simpa using hsz⟩
  have hcells : ∀ j u, (zs.map (Value.float .f64))[j]? = some u → w0.cell? ((⟨b, off, none⟩ : Addr).add j) = some u := by
    intro j u hu
    have hj : j < zs.length := by
      have := (List.getElem?_eq_some_iff.1 hu).1
      simpa using this
    rw [add_spot, hB0.cell (p := ⟨b, off + j, none⟩) hb, HC.out j hj]
    simpa [hj] using hu
  have HCU : Hid (w0.heap[w'.heap.size]? = some (.cells cur.toArray 24 (0, 0))) := hcur
  have HCC : Hid (∀ j u, (zs.map (Value.float .f64))[j]? = some u → w0.cell? ((⟨b, off, none⟩ : Addr).add j) = some u) := hcells
  clear hown0 hgrow0 hcur hcells HC
  go_wp2_with (refine wpList_copy_splice rfl (.tmp 35) (.tmp 36) 22 22 rfl 24 Try.underlying22 (by rw [hi]; simp [hz1]) _ _ _ _ _ _ rfl rfl w'.heap.size 0 cur 24 HCU.out (zs.map (Value.float .f64)) ?hmin (fun _ => ⟨rfl, _, rfl, HCC.out⟩) (by simp [hcl]) (floats_one zs) w'.heap.size w' hB0 (Nat.le_refl _) ?_)
  case hmin => rw [List.length_map]; exact (Nat.min_self _).symm
  intro w1 hrow1 hB1
  have hRx1 : Hid (Row w'.heap.size w'.heap.size zs.length zs.length zs w1) := row_copied (Nat.le_refl _) hcl (by unfold maxLen; omega) hrow1.out
  have hsz1 := hB1.size
  have hlt1 := row_lt hRx1.out
  clear hrow1 HCU HCC hB0 hcl
  go_wp2_with (at_make; refine wpList_make_own _ rfl _ _ 22 rfl w'.heap.size 24 i0 (.float .f64 0) 1 Try.underlying22 hi hz0 hz1 _ _ _ zs.length rfl rfl rfl ?b2 ?b3 (by omega) ?_)
  case b2 => rw [hz2]; omega
  case b3 => unfold maxLen; omega
  intro w2 hown2 hgrow2
  have hB2 := hB1.grown hgrow2 hsz1 (fun k h => by cases h)
  have hRx2 : Hid (Row w'.heap.size w'.heap.size zs.length zs.length zs w2) :=
    World.ownsRow.kept hRx1.out hgrow2 (.inr (fun e => by cases e))
  obtain ⟨G, hG⟩ : ∃ G, w1.heap.size = G := ⟨_, rfl⟩
  have hR2 : Hid (Row w'.heap.size G 0 zs.length [] w2) := by
    show World.ownsRow _ _ _ _ _ _ _
    rw [← hG]; exact hown2
  rw [hG]
  have hGB : w'.heap.size ≠ G := by omega
  have hGle : w'.heap.size ≤ G := by omega
  clear hown2 hgrow2 hB1 hRx1 hG hlt1 hsz1
  go_wp2_with fail
  go_loopw [6, 7] (fun sp si wr => ∃ (i l : Nat), i = c + l ∧ i ≤ zs.length ∧ si = .int .i64 i ∧ sp = .slice (some ⟨G, 0, none⟩) l zs.length ∧ Hid (Row w'.heap.size G l zs.length ((zs.take i).drop c) wr) ∧ Hid (Row w'.heap.size w'.heap.size zs.length zs.length zs wr) ∧ RowKit.Below w'.heap.size w' wr)
    (fun _ si _ => zs.length - (intOf si).toNat)
  case atStart =>
    refine ⟨c, 0, rfl, by omega, rfl, rfl, ?_, hRx2, hB2⟩
    rw [List.drop_eq_nil_of_le (by simp; omega)]
    exact hR2
  case round =>
    clear hR2 hRx2 hB2
    obtain ⟨i, l, hil, hile, rfl, rfl, hR, hRx, hnx⟩ := hrel
    have hsz := hnx.size
    by_cases hlt : i < zs.length
    · have hd : decide ((i : Int) < (zs.length : Int)) = true := by simp; omega
      have hd' : decide (i < zs.length) = true := by simp; omega
      have hcx := row_cells hRx.out rfl i hlt
      rw [Nat.zero_add] at hcx
      obtain ⟨x, hx⟩ : ∃ x, zs[i]?.getD 0 = x := ⟨_, rfl⟩
      have HT := drop_step zs c i (by omega) hlt
      rw [hx] at HT hcx
      have HT' : Hid ((zs.take i).drop c ++ [x] = (zs.take (i + 1)).drop c) := HT
      have hlc : l + 1 ≤ zs.length := by omega
      have HIL : Hid (i = c + l) := hil
      clear HT hx hil
      go_wp2_with (at_builtin; refine wpList_append_fits _ rfl (.tmp 49) (.tmp 54) 22 rfl w'.heap.size 24 i0 1 Try.underlying22 hi hz1 G l zs.length _ rfl (hR.out.alloc _) ⟨wr.heap.size, 0, none⟩ 1 1 [.float .f64 x] rfl rfl (one_cell _ _ _) (one_one _) hlc ?_)
      intro w3 hown3 hgrow3
      have hB3 := (hnx.alloc hnx.size _).grown hgrow3 (by simp; omega) (fun k hk => by cases hk; exact hGle)
      have hRx3 : Hid (Row w'.heap.size w'.heap.size zs.length zs.length zs w3) := row_keep hRx.out hgrow3 hGB
      have hR3 : Hid (Row w'.heap.size G (l + 1) zs.length ((zs.take (i + 1)).drop c) w3) := by
        show World.ownsRow _ _ _ _ _ _ _
        rw [← HT'.out]
        simpa using hown3
      clear hown3 hgrow3 hR hRx hnx hcx
      go_wp2
      go_roundw
      case rel => exact ⟨i + 1, l + 1, by have := HIL.out; omega, by omega, by go_num, rfl, hR3, hRx3, hB3⟩
      case measure => simp [intOf]; omega
    · obtain rfl : i = zs.length := by omega
      have hd : decide ((zs.length : Int) < (zs.length : Int)) = false := by simp
      have hd' : decide (zs.length < zs.length) = false := by simp
      rw [List.take_length] at hR
      have hl0 : l + c = zs.length := by omega
      clear hil
      go_wp2_with fail
      go_loopw [6, 8] (fun sp si wr => ∃ (k m : Nat), k ≤ c ∧ m = l + k ∧ si = .int .i64 k ∧ sp = .slice (some ⟨G, 0, none⟩) m zs.length ∧ Hid (Row w'.heap.size G m zs.length (zs.drop c ++ zs.take k) wr) ∧ Hid (Row w'.heap.size w'.heap.size zs.length zs.length zs wr) ∧ RowKit.Below w'.heap.size w' wr)
        (fun _ si _ => c - (intOf si).toNat)
      case atStart => exact ⟨0, l, Nat.zero_le _, rfl, rfl, rfl, by simpa using hR, hRx, hnx⟩
      case round =>
        clear hR hRx hnx hsz hd hd'
        obtain ⟨k, m, hk, hmk, rfl, rfl, hR, hRx, hnx⟩ := hrel
        have hsz := hnx.size
        by_cases hlt : k < c
        · have hd : decide ((k : Int) < (c : Int)) = true := by simp; omega
          have hd' : decide (k < c) = true := by simp; omega
          have hcx := row_cells hRx.out rfl k (by omega)
          rw [Nat.zero_add] at hcx
          obtain ⟨x, hx⟩ : ∃ x, zs[k]?.getD 0 = x := ⟨_, rfl⟩
          have HT := take_step zs k (by omega)
          rw [hx] at HT hcx
          have HT' : Hid (zs.take k ++ [x] = zs.take (k + 1)) := HT
          have hlc : m + 1 ≤ zs.length := by omega
          have hkz : k < zs.length := by omega
          have HIL : Hid (m = l + k) := hmk
          clear HT hx hmk
          go_wp2_with (at_builtin; refine wpList_append_fits _ rfl (.tmp 61) (.tmp 66) 22 rfl w'.heap.size 24 i0 1 Try.underlying22 hi hz1 G m zs.length _ rfl (hR.out.alloc _) ⟨wr.heap.size, 0, none⟩ 1 1 [.float .f64 x] rfl rfl (one_cell _ _ _) (one_one _) hlc ?_)
          intro w3 hown3 hgrow3
          have hB3 := (hnx.alloc hnx.size _).grown hgrow3 (by simp; omega) (fun k hk => by cases hk; exact hGle)
          have hRx3 : Hid (Row w'.heap.size w'.heap.size zs.length zs.length zs w3) := row_keep hRx.out hgrow3 hGB
          have hR3 : Hid (Row w'.heap.size G (m + 1) zs.length (zs.drop c ++ zs.take (k + 1)) w3) := by
            show World.ownsRow _ _ _ _ _ _ _
            rw [← HT'.out]
            simpa using hown3
          clear hown3 hgrow3 hR hRx hnx hcx
          go_wp2
          go_roundw
          case rel => exact ⟨k + 1, m + 1, by omega, by have := HIL.out; omega, by go_num, rfl, hR3, hRx3, hB3⟩
          case measure => simp [intOf]; omega
        · obtain rfl : k = c := by omega
          have hd : decide ((k : Int) < (k : Int)) = false := by simp
          have hd' : decide (k < k) = false := by simp
          obtain rfl : m = zs.length := by omega
          have hQ1 := mid_is zs hodd
          have hQ2 := mid_turned zs k hodd
          have hYl : (zs.drop k ++ zs.take k).length = zs.length := by simp; omega
          have hM1 := median6 w'.heap.size 0 zs.length zs hpos (by omega) wr (row_lt hRx.out) (fun j hj => row_cells hRx.out rfl j hj)
          generalize zs.drop k ++ zs.take k = Y at *
          have hM2 : ∀ W, RowKit.Below wr.heap.size wr W → Calls Try.prog 6 #[.slice (some ⟨G, 0, none⟩) Y.length zs.length] W fun e W' => e = .returned (.float .f64 (Sort.sort ltF Y.toArray)[Y.length / 2]!) ∧ RowKit.Below W.heap.size W W' := fun W hW =>
            median6 G 0 zs.length Y (by omega) (by omega) W (by have := row_lt hR.out; have := hW.size; omega) (fun j hj => (hW.cell (p := ⟨G, 0 + j, none⟩) (row_lt hR.out)).trans (row_cells hR.out hYl j (by omega)))
          have hM3 : ∀ W m, RowKit.Below wr.heap.size wr W → Calls Try.prog 7 #[.slice (some ⟨w'.heap.size, 0, none⟩) zs.length zs.length, .float .f64 m] W fun e W' => e = .returned (.bool (isMid m zs)) ∧ W' = W := fun W m hW =>
            isMiddle7 w'.heap.size 0 zs.length m zs hpos (by omega) W (fun j hj => (hW.cell (p := ⟨w'.heap.size, 0 + j, none⟩) (row_lt hRx.out)).trans (row_cells hRx.out rfl j hj))
          have hM4 := hM3
          generalize (Sort.sort ltF zs.toArray)[zs.length / 2]! = m1 at *
          generalize (Sort.sort ltF Y.toArray)[Y.length / 2]! = m2 at *
          rw [hYl] at hM2
          have S2 := zzSame8 m2 m1
          rw [hQ2] at S2
          have HM1 : Hid (Calls Try.prog 6 #[.slice (some ⟨w'.heap.size, 0, none⟩) zs.length zs.length] wr fun e W' => e = .returned (.float .f64 m1) ∧ RowKit.Below wr.heap.size wr W') := hM1
          have HM2 : Hid (∀ W, RowKit.Below wr.heap.size wr W → Calls Try.prog 6 #[.slice (some ⟨G, 0, none⟩) zs.length zs.length] W fun e W' => e = .returned (.float .f64 m2) ∧ RowKit.Below W.heap.size W W') := hM2
          have HM3 : Hid (∀ W, RowKit.Below wr.heap.size wr W → Calls Try.prog 7 #[.slice (some ⟨w'.heap.size, 0, none⟩) zs.length zs.length, .float .f64 m1] W fun e W' => e = .returned (.bool true) ∧ W' = W) := fun W hW => by
            have := hM4 W m1 hW
            rwa [hQ1] at this
          have HS2 : Hid (∀ w, Calls Try.prog 8 #[.float .f64 m2, .float .f64 m1] w fun e w' => e = .returned (.bool true) ∧ w' = w) := S2
          clear hM1 hM2 hM3 hM4 S2 hR hRx hQ1 hQ2 hYl d3 hodd hmk hl0
          go_wp2_with fail
          refine Calls.mono (calls_args HM1.out rfl) ?_
          rintro e W1 ⟨rfl, hW1⟩
          go_wp2_with fail
          refine Calls.mono (calls_args (HM2.out _ hW1) rfl) ?_
          rintro e W2 ⟨rfl, hW2⟩
          have hW12 := hW1.trans (hW2.mono hW1.size)
          go_wp2_with fail
          refine Calls.mono (calls_args (HM3.out _ hW12) rfl) ?_
          rintro e W2' ⟨rfl, rfl⟩
          go_wp2_with fail
          refine Calls.mono (calls_args (HS2.out _) rfl) ?_
          rintro e W2'' ⟨rfl, rfl⟩
          go_wp2
          go_ret
          exact ⟨rfl, hnx.trans (hW12.mono hsz)⟩
end Go.Proofs.Qxb6627930a
