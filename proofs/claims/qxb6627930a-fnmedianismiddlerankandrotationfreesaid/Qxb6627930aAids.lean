/-
  SEAT b6627930a: zzSame, zzLess, the two bounds on bytes, zzIsMiddle; what 0/0 and 1/0 give.
-/
import Derived.Test.Qxb6627930aMedian
import Derived.Laws.FloatArith
import Derived.OwnWalk
namespace Go.Proofs.Qxb6627930a
open Go.RowKit Ieee
attribute [local go_sem] run_store_float
set_option maxHeartbeats 400000 in
theorem zzSame8 (x y : Nat) (w : World) : Calls Try.prog 8 #[.float .f64 x, .float .f64 y] w fun e w' => e = .returned (.bool (eqF x y)) ∧ w' = w := by
  have h := same_form x y
  have hx := nan_form x
  have hy := nan_form y
  obtain ⟨nx, hnx⟩ : ∃ nx, isNaNB x = nx := ⟨_, rfl⟩
  obtain ⟨ny, hny⟩ : ∃ ny, isNaNB y = ny := ⟨_, rfl⟩
  obtain ⟨b, hb⟩ : ∃ b, (FloatKind.f64.format.order x y == some .eq) = b := ⟨_, rfl⟩
  rw [hnx, hny, hb] at h
  rw [hnx] at hx
  rw [hny] at hy
  have HL : Hid (((nx && ny) || b) = eqF x y) := h
  clear h hnx hny
  cases nx <;> cases ny <;> cases b
  all_goals
    go_enter Try.func8, Try.ntmps8
    go_wp2
    go_ret
    exact ⟨ret_bool (by rw [← HL.out]; first | rfl | simp), rfl⟩
set_option maxHeartbeats 400000 in
theorem zzLess12 (x y : Nat) (w : World) : Calls Try.prog 12 #[.float .f64 x, .float .f64 y] w fun e w' => e = .returned (.bool (ltF x y)) ∧ w' = w := by
  have h := less_form x y
  have hx := nan_form x
  have hy' : (FloatKind.f64.format.order y y == some .eq) = !isNaNB y := by rw [← nan_form y, bne, Bool.not_not]
  obtain ⟨nx, hnx⟩ : ∃ nx, isNaNB x = nx := ⟨_, rfl⟩
  obtain ⟨ny, hny⟩ : ∃ ny, isNaNB y = ny := ⟨_, rfl⟩
  obtain ⟨b, hb⟩ : ∃ b, (FloatKind.f64.format.order x y == some .lt) = b := ⟨_, rfl⟩
  rw [hnx, hny, hb] at h
  rw [hnx] at hx
  rw [hny] at hy'
  have HL : Hid (((nx && !ny) || b) = ltF x y) := h
  clear h hnx hny
  cases nx <;> cases ny <;> cases b
  all_goals
    go_enter Try.func12, Try.ntmps12
    go_wp2
    go_ret
    exact ⟨ret_bool (by rw [← HL.out]; first | rfl | simp), rfl⟩

set_option maxHeartbeats 400000 in
theorem bytes9 (a : Option Addr) (n cap v : Nat) (at' : Int) (hn : n ≤ 9223372036854775807) (w : World) : Calls Try.prog 9 #[.slice a n cap, .float .f64 v, .int .i64 at'] w fun e w' => e = .returned (.bool (decide (n ≤ 1048576))) ∧ w' = w := by
  by_cases h : n ≤ 1048576
  · rw [decide_eq_true h]
    have h1 : decide (1048576 < (n : Int)) = false := by simp; omega
    have h2 : decide (1048576 < n) = false := by simp; omega
    go_enter Try.func9, Try.ntmps9
    go_wp2
    go_ret
    exact ⟨rfl, rfl⟩
  · rw [decide_eq_false h]
    have h1 : decide (1048576 < (n : Int)) = true := by simp; omega
    have h2 : decide (1048576 < n) = true := by simp; omega
    go_enter Try.func9, Try.ntmps9
    go_wp2
    go_ret
    exact ⟨rfl, rfl⟩

set_option maxHeartbeats 400000 in
theorem bytes5 (a : Option Addr) (n cap : Nat) (at' : Int) (hn : n ≤ 9223372036854775807) (w : World) : Calls Try.prog 5 #[.slice a n cap, .int .i64 at'] w fun e w' => e = .returned (.bool (decide (n ≤ 1048576))) ∧ w' = w := by
  by_cases h : n ≤ 1048576
  · rw [decide_eq_true h]
    have h1 : decide (1048576 < (n : Int)) = false := by simp; omega
    have h2 : decide (1048576 < n) = false := by simp; omega
    go_enter Try.func5, Try.ntmps5
    go_wp2
    go_ret
    exact ⟨rfl, rfl⟩
  · rw [decide_eq_false h]
    have h1 : decide (1048576 < (n : Int)) = true := by simp; omega
    have h2 : decide (1048576 < n) = true := by simp; omega
    go_enter Try.func5, Try.ntmps5
    go_wp2
    go_ret
    exact ⟨rfl, rfl⟩

/-- How often p holds among the first k. -/
def cnt (p : Nat → Bool) (zs : List Nat) : Nat := (zs.filter p).length
theorem cnt_take_succ (p : Nat → Bool) (zs : List Nat) (k : Nat) (hk : k < zs.length) : cnt p (zs.take (k+1)) = cnt p (zs.take k) + (if p (zs[k]?.getD 0) then 1 else 0) := by
  unfold cnt
  rw [List.take_add_one, List.getElem?_eq_getElem hk]
  simp only [Option.toList, List.filter_append, List.length_append, Option.getD_some, List.filter_cons, List.filter_nil]
  split <;> simp
def hasK (m : Nat) (zs : List Nat) : Bool := zs.any fun x => eqF x m
theorem hasK_take_succ (m : Nat) (zs : List Nat) (k : Nat) (hk : k < zs.length) : hasK m (zs.take (k+1)) = (hasK m (zs.take k) || eqF (zs[k]?.getD 0) m) := by
  unfold hasK
  rw [List.take_add_one, List.getElem?_eq_getElem hk, List.any_append]
  simp
def isMid (m : Nat) (zs : List Nat) : Bool := hasK m zs && decide (cnt (fun x => ltF x m) zs ≤ zs.length / 2) && decide (cnt (fun x => ltF m x) zs ≤ zs.length / 2)
theorem cnt_le (p : Nat → Bool) (zs : List Nat) : cnt p zs ≤ zs.length := List.length_filter_le _ _


set_option maxHeartbeats 1000000 in
theorem isMiddle7 (b off cap m : Nat) (zs : List Nat) (hpos : 0 < zs.length) (hlen : zs.length ≤ 1000000) (w : World)
    (hI : ∀ j, j < zs.length → w.cell? ⟨b, off + j, none⟩ = some (.float .f64 (zs[j]?.getD 0))) :
    Calls Try.prog 7 #[.slice (some ⟨b, off, none⟩) zs.length cap, .float .f64 m] w fun e W' => e = .returned (.bool (isMid m zs)) ∧ W' = w := by
  have HI : Hid (∀ j, j < zs.length → w.cell? ⟨b, off + j, none⟩ = some (.float .f64 (zs[j]?.getD 0))) := hI
  have HS : Hid (∀ x y w, Calls Try.prog 8 #[.float .f64 x, .float .f64 y] w fun e w' => e = .returned (.bool (eqF x y)) ∧ w' = w) := zzSame8
  have HL : Hid (∀ x y w, Calls Try.prog 12 #[.float .f64 x, .float .f64 y] w fun e w' => e = .returned (.bool (ltF x y)) ∧ w' = w) := zzLess12
  clear hI
  go_enter Try.func7, Try.ntmps7
  go_wp2_with fail
  go_loopw [6, 7, 8, 9] (fun sf sl sg si wr => ∃ (k lt gt : Nat) (f : Bool), k ≤ zs.length ∧ lt ≤ k ∧ gt ≤ k ∧ si = .int .i64 k ∧ sf = .bool f ∧ sl = .int .i64 lt ∧ sg = .int .i64 gt ∧ Hid (f = hasK m (zs.take k) ∧ lt = cnt (fun x => ltF x m) (zs.take k) ∧ gt = cnt (fun x => ltF m x) (zs.take k)) ∧ wr = w)
    (fun _ _ _ si _ => zs.length - (intOf si).toNat)
  case atStart => exact ⟨0, 0, 0, false, Nat.zero_le _, Nat.zero_le _, Nat.zero_le _, rfl, rfl, rfl, rfl, ⟨by simp [hasK], by simp [cnt], by simp [cnt]⟩, rfl⟩
  case round =>
    obtain ⟨k, lt, gt, f, hk, hlk, hgk, rfl, rfl, rfl, rfl, hH, rfl⟩ := hrel
    by_cases hlt : k < zs.length
    · have hc := HI.out k hlt
      obtain ⟨x, hx⟩ : ∃ x, zs[k]?.getD 0 = x := ⟨_, rfl⟩
      rw [hx] at hc
      have hd : decide (k < zs.length) = true := by simpa using hlt
      have hd' : decide ((k : Int) < (zs.length : Int)) = true := by simp; omega
      have HX : Hid (zs[k]?.getD 0 = x) := hx
      clear hx
      obtain ⟨b1, hb1⟩ : ∃ b1, eqF x m = b1 := ⟨_, rfl⟩
      obtain ⟨b2, hb2⟩ : ∃ b2, ltF x m = b2 := ⟨_, rfl⟩
      obtain ⟨b3, hb3⟩ : ∃ b3, ltF m x = b3 := ⟨_, rfl⟩
      have C1 := HS.out x m
      have C2 := HL.out x m
      have C3 := HL.out m x
      rw [hb1] at C1
      rw [hb2] at C2
      rw [hb3] at C3
      have D1 : Hid (∀ w, Calls Try.prog 8 #[.float .f64 x, .float .f64 m] w fun e w' => e = .returned (.bool b1) ∧ w' = w) := C1
      have D2 : Hid (∀ w, Calls Try.prog 12 #[.float .f64 x, .float .f64 m] w fun e w' => e = .returned (.bool b2) ∧ w' = w) := C2
      have D3 : Hid (∀ w, Calls Try.prog 12 #[.float .f64 m, .float .f64 x] w fun e w' => e = .returned (.bool b3) ∧ w' = w) := C3
      have HF : Hid ((f || b1) = hasK m (zs.take (k+1)) ∧ lt + (if b2 then 1 else 0) = cnt (fun x => ltF x m) (zs.take (k+1)) ∧ gt + (if b3 then 1 else 0) = cnt (fun x => ltF m x) (zs.take (k+1))) := by
        refine ⟨?_, ?_, ?_⟩
        · rw [hasK_take_succ m zs k hlt, HX.out, hb1, ← hH.out.1]
        · rw [cnt_take_succ _ zs k hlt, HX.out, hb2, ← hH.out.2.1]
        · rw [cnt_take_succ _ zs k hlt, HX.out, hb3, ← hH.out.2.2]
      clear C1 C2 C3 hb1 hb2 hb3 hH HX HI HS HL
      go_wp2_with fail
      refine (D1.out _).mono ?_
      rintro e w' ⟨rfl, rfl⟩
      cases b1 <;> cases b2 <;> cases b3
      all_goals
        go_wp2_with fail
        refine (D2.out _).mono ?_
        rintro e w' ⟨rfl, rfl⟩
        go_wp2_with fail
        refine (D3.out _).mono ?_
        rintro e w' ⟨rfl, rfl⟩
        go_wp2
        go_roundw
        case rel => first
          | exact ⟨k + 1, lt, gt, f, by omega, by omega, by omega, by go_num, rfl, by go_num, by go_num, ⟨by simpa using HF.out.1, by simpa using HF.out.2.1, by simpa using HF.out.2.2⟩, trivial⟩
          | exact ⟨k + 1, lt, gt + 1, f, by omega, by omega, by omega, by go_num, rfl, by go_num, by go_num, ⟨by simpa using HF.out.1, by simpa using HF.out.2.1, by simpa using HF.out.2.2⟩, trivial⟩
          | exact ⟨k + 1, lt + 1, gt, f, by omega, by omega, by omega, by go_num, rfl, by go_num, by go_num, ⟨by simpa using HF.out.1, by simpa using HF.out.2.1, by simpa using HF.out.2.2⟩, trivial⟩
          | exact ⟨k + 1, lt + 1, gt + 1, f, by omega, by omega, by omega, by go_num, rfl, by go_num, by go_num, ⟨by simpa using HF.out.1, by simpa using HF.out.2.1, by simpa using HF.out.2.2⟩, trivial⟩
          | exact ⟨k + 1, lt, gt, true, by omega, by omega, by omega, by go_num, rfl, by go_num, by go_num, ⟨by simpa using HF.out.1, by simpa using HF.out.2.1, by simpa using HF.out.2.2⟩, trivial⟩
          | exact ⟨k + 1, lt, gt + 1, true, by omega, by omega, by omega, by go_num, rfl, by go_num, by go_num, ⟨by simpa using HF.out.1, by simpa using HF.out.2.1, by simpa using HF.out.2.2⟩, trivial⟩
          | exact ⟨k + 1, lt + 1, gt, true, by omega, by omega, by omega, by go_num, rfl, by go_num, by go_num, ⟨by simpa using HF.out.1, by simpa using HF.out.2.1, by simpa using HF.out.2.2⟩, trivial⟩
          | exact ⟨k + 1, lt + 1, gt + 1, true, by omega, by omega, by omega, by go_num, rfl, by go_num, by go_num, ⟨by simpa using HF.out.1, by simpa using HF.out.2.1, by simpa using HF.out.2.2⟩, trivial⟩
        case measure => simp [intOf]; omega
    · obtain rfl : k = zs.length := by omega
      have HR : Hid (isMid m zs = (f && decide (lt ≤ zs.length / 2) && decide (gt ≤ zs.length / 2))) := by
        show _ = _
        unfold isMid
        rw [hH.out.1, hH.out.2.1, hH.out.2.2, List.take_length]
      obtain ⟨r, hr⟩ : ∃ r, isMid m zs = r := ⟨_, rfl⟩
      clear hH HI HS HL
      have hq0 : 0 ≤ (zs.length : Int) / 2 := by omega
      cases f
      · go_wp2
        go_ret
        exact ⟨ret_bool (by rw [HR.out]; rfl), rfl⟩
      · by_cases h1 : lt ≤ zs.length / 2
        · have h1a : decide ((lt : Int) ≤ (zs.length : Int) / 2) = true := by simp; omega
          by_cases h2 : gt ≤ zs.length / 2
          · have h2a : decide ((gt : Int) ≤ (zs.length : Int) / 2) = true := by simp; omega
            go_wp2
            go_ret
            exact ⟨ret_bool (by rw [HR.out, decide_eq_true h1, decide_eq_true h2]; rfl), rfl⟩
          · have h2a : decide ((gt : Int) ≤ (zs.length : Int) / 2) = false := by simp; omega
            go_wp2
            go_ret
            exact ⟨ret_bool (by rw [HR.out, decide_eq_true h1, decide_eq_false h2]; rfl), rfl⟩
        · have h1a : decide ((lt : Int) ≤ (zs.length : Int) / 2) = false := by simp; omega
          go_wp2
          go_ret
          exact ⟨ret_bool (by rw [HR.out, decide_eq_false h1]; rfl), rfl⟩

/-- The word that a division of zero by zero gives: the model draws a NaN's bits. -/
def nanW (w : World) : Nat := Question.cut (.nanBits .f64 0 0) (w.tape w.drawn (.nanBits .f64 0 0))
theorem rk_nan (t : Nat) : rk ((t % 2) * 2 ^ 63 + 0x7ff0000000000000 + 1 + (t / 2) % (2 ^ 52 - 1)) = (-2, 0) := by
  have hs : double.signWeight = 2 ^ 63 := by decide
  have hb : double.binade = 2 ^ 52 := by decide
  have hi : double.infRung = 0x7ff0000000000000 := by decide
  unfold rk Format.read
  simp only [hs, hb, hi]
  have h1 : ((t % 2) * 2 ^ 63 + 0x7ff0000000000000 + 1 + (t / 2) % (2 ^ 52 - 1)) % 2 ^ 63 = 0x7ff0000000000000 + 1 + (t / 2) % (2 ^ 52 - 1) := by omega
  rw [h1, if_neg (by omega), if_neg (by omega), if_neg (by omega)]
  rfl
theorem rk_nanW (w : World) : rk (nanW w) = (-2, 0) := rk_nan _
theorem rk_inf : rk 9218868437227405312 = (1, 0) := by decide
theorem run_quo_zero (P : Program) (w : World) (t : TypeId) : (binOp .quo t (.float .f64 0) (.float .f64 0)).run P w = .ok (.float .f64 (nanW w)) w.drew := by
  have h : FloatKind.f64.format.div 0 0 = none := by decide
  simp [binOp, Op.floatArith, h, Question.forced]
  rfl
theorem run_quo_inf (P : Program) (w : World) (t : TypeId) : (binOp .quo t (.float .f64 4607182418800017408) (.float .f64 0)).run P w = .ok (.float .f64 9218868437227405312) w :=
  run_float_arith w .quo t .f64 _ _ _ (by decide)
end Go.Proofs.Qxb6627930a
