/-
  THE WALKS of seat b6634849a: zzFnvStep, mix, fnv, Partition, zzStreamPartition, the two bounds, the two laws; each by a contract, leaves first. The plain law: shift-and-add by 2^40, 2^8, 0xb3 is the multiplication by the FNV prime modulo 2^64; a fold over an append.
-/
import Derived.Test.Qxb6634849aRows
import Derived.WalkKit
import Derived.ProofKit
import Derived.WalkSpells
import Derived.WalkLawsBesides
import Derived.Deep.QuietTactic
import Derived.BigQuiet
namespace Go.Proofs.Qxb6634849a
open Go.RowKit
theorem ret_int {k : IntKind} {a b : Int} (h : a = b) : Ending.returned (.int k a) = .returned (.int k b) := by rw [h]
theorem take_snoc (s : ByteArray) (k : Nat) (h : k < s.size) : s.data.toList.take (k + 1) = s.data.toList.take k ++ [s[k]] := by
  rw [List.take_succ_eq_append_getElem (by simpa using h)]; rfl
def fstep (h c : Int) : Int := IntKind.u64.wrap (bits BinOp.xor IntKind.u64 h c * 1099511628211)
def fnvI (h : Int) (l : List UInt8) : Int := l.foldl (fun h c => fstep h (c.toNat : Int)) h
def mixI (h : Int) : Int :=
  let a := IntKind.u64.wrap (bits BinOp.xor IntKind.u64 h (h / 1073741824) * 13787848793156543929)
  let b := IntKind.u64.wrap (bits BinOp.xor IntKind.u64 a (a / 134217728) * 10723151780598845931)
  bits BinOp.xor IntKind.u64 b (b / 2147483648)
theorem fstep_eq (x : Int) : IntKind.u64.wrap (IntKind.u64.wrap (IntKind.u64.wrap (x * 1099511627776) + IntKind.u64.wrap (x * 256)) + IntKind.u64.wrap (x * 179)) = IntKind.u64.wrap (x * 1099511628211) := by
  have e : ∀ y, IntKind.u64.wrap y = y % 18446744073709551616 := fun y => by simp [IntKind.wrap, IntKind.signed, IntKind.bits]
  simp only [e]; omega
theorem wrap_byte (c : UInt8) : IntKind.u64.wrap (c.toNat : Int) = (c.toNat : Int) := by
  have := c.toNat_lt
  rw [IntKind.wrap_u64]; omega
set_option maxHeartbeats 400000 in
theorem step_any (h c : Int) (w : World) (c0 : 0 ≤ c) (c1 : c < 256) :
    Calls Try.prog 9 #[.int .u64 h, .int .u8 c] w fun e w' => e = .returned (.int .u64 (fstep h c)) ∧ w' = w := by
  go_enter Try.func9, Try.ntmps9
  go_wp2
  go_ret
  exact ⟨ret_int (fstep_eq _), rfl⟩
set_option maxHeartbeats 400000 in
theorem mix_any (h : Int) (w : World):
    Calls Try.prog 11 #[.int .u64 h] w fun e w' => e = .returned (.int .u64 (mixI h)) ∧ w' = w := by
  go_enter Try.func11, Try.ntmps11
  go_wp2
  go_ret
  exact ⟨rfl, rfl⟩
set_option maxHeartbeats 400000 in
theorem fnv_any (h : Int) (s : ByteArray) (w : World) (hs : s.size ≤ maxLen) :
    Calls Try.prog 10 #[.int .u64 h, .string s] w fun e w' => e = .returned (.int .u64 (fnvI h s.data.toList)) ∧ w' = w := by
  unfold maxLen at hs
  go_enter Try.func10, Try.ntmps10
  go_wp2
  go_loop [0, 8] (fun n i => ∃ k : Nat, k ≤ s.size ∧ i = .int .i64 k ∧ n = .int .u64 (fnvI h (s.data.toList.take k))) (fun _ i => s.size - (intOf i).toNat)
  case atStart => exact ⟨0, Nat.zero_le _, rfl, rfl⟩
  case round =>
    obtain ⟨k, hk, rfl, rfl⟩ := hrel
    by_cases hlt : k < s.size
    · have HS : Hid (fnvI h (s.data.toList.take (k + 1)) = fstep (fnvI h (s.data.toList.take k)) (s[k].toNat : Int)) := by
        show _ = _
        rw [take_snoc s k hlt]; simp [fnvI, List.foldl_append]
      go_wp2
      go_round
      case rel =>
        refine ⟨k + 1, by omega, by go_num, ?_⟩
        rw [HS.out, fstep, wrap_byte]
      case measure => simp [intOf]; omega
    · go_wp2
      go_ret
      refine ⟨ret_int ?_, rfl⟩
      rw [List.take_of_length_le (by simp; omega)]

def partI (h : Int) : Int := wrap64 ((mixI h).tmod 271)
def pOf (m k : List UInt8) : Int := partI (fnvI (fnvI (fnvI 14695981039346656037 m) [0]) k)
set_option maxHeartbeats 400000 in
theorem partition_any (m k : ByteArray) (w : World) (hm : m.size ≤ maxLen) (hk : k.size ≤ maxLen) :
    Calls Try.prog 7 #[.string m, .string k] w fun e w' => e = .returned (.int .i64 (pOf m.data.toList k.data.toList)) ∧ w' = w := by
  go_enter Try.func7, Try.ntmps7
  go_wp2_with fail
  refine (fnv_any _ _ _ hm).mono ?_
  rintro e w' ⟨rfl, rfl⟩
  go_wp2_with fail
  refine (fnv_any _ _ _ (by decide)).mono ?_
  rintro e w' ⟨rfl, rfl⟩
  go_wp2_with fail
  refine (fnv_any _ _ _ hk).mono ?_
  rintro e w' ⟨rfl, rfl⟩
  go_wp2_with fail
  refine (mix_any _ _).mono ?_
  rintro e w' ⟨rfl, rfl⟩
  go_wp2
  go_ret
  exact ⟨rfl, rfl⟩
set_option maxHeartbeats 400000 in
theorem stream_any (s : ByteArray) (w : World) (hs : s.size ≤ maxLen) :
    Calls Try.prog 6 #[.string s] w fun e w' => e = .returned (.int .i64 (partI (fnvI 14695981039346656037 s.data.toList))) ∧ w' = w := by
  unfold maxLen at hs
  go_enter Try.func6, Try.ntmps6
  go_wp2
  go_loop [3, 4] (fun n i => ∃ k : Nat, k ≤ s.size ∧ i = .int .i64 k ∧ n = .int .u64 (fnvI 14695981039346656037 (s.data.toList.take k))) (fun _ i => s.size - (intOf i).toNat)
  case atStart => exact ⟨0, Nat.zero_le _, rfl, rfl⟩
  case round =>
    obtain ⟨k, hk, rfl, rfl⟩ := hrel
    by_cases hlt : k < s.size
    · have HS : Hid (fnvI 14695981039346656037 (s.data.toList.take (k + 1)) = fstep (fnvI 14695981039346656037 (s.data.toList.take k)) (s[k].toNat : Int)) := by
        show _ = _
        rw [take_snoc s k hlt]; simp [fnvI, List.foldl_append]
      go_wp2_with (go_at_call 9; refine (step_any _ _ _ (by omega) (by have := s[k].toNat_lt; omega)).mono ?_; rintro e w' ⟨rfl, rfl⟩)
      go_round
      case rel =>
        refine ⟨k + 1, by omega, by go_num, ?_⟩
        rw [HS.out]
      case measure => simp [intOf]; omega
    · go_wp2
      go_ret
      refine ⟨ret_int ?_, rfl⟩
      rw [List.take_of_length_le (by simp; omega)]; rfl

theorem fnvI_append (h : Int) (a b : List UInt8) : fnvI h (a ++ b) = fnvI (fnvI h a) b := by simp [fnvI, List.foldl_append]
theorem pOf_eq (m k : List UInt8) : pOf m k = partI (fnvI 14695981039346656037 (m ++ [0] ++ k)) := by
  unfold pOf; rw [fnvI_append, fnvI_append]
set_option maxHeartbeats 400000 in
theorem bytes5_yes (a b c : ByteArray) (w : World) (h : a.size + b.size + c.size ≤ 1048576) :
    Calls Try.prog 5 #[.string a, .string b, .string c] w fun e w' => e = .returned (.bool true) ∧ w' = w := by
  go_enter Try.func5, Try.ntmps5
  go_wp2
  go_ret
  exact ⟨rfl, rfl⟩
set_option maxHeartbeats 400000 in
theorem bytes5_no (a b c : ByteArray) (w : World) (ha : a.size ≤ maxLen) (hb : b.size ≤ maxLen) (hc : c.size ≤ maxLen) (h : ¬ a.size + b.size + c.size ≤ 1048576) :
    Calls Try.prog 5 #[.string a, .string b, .string c] w fun e w' => e = .returned (.bool false) ∧ w' = w := by
  unfold maxLen at ha hb hc
  go_enter Try.func5, Try.ntmps5
  go_wp2
  all_goals (go_ret; exact ⟨rfl, rfl⟩)
theorem data_zero (m k : ByteArray) : (m ++ (⟨#[0]⟩ : ByteArray) ++ k).data.toList = m.data.toList ++ [0] ++ k.data.toList := by
  simp [ByteArray.data_append]
theorem size_zero (m k : ByteArray) : (m ++ (⟨#[0]⟩ : ByteArray) ++ k).size = m.size + 1 + k.size := by
  simp only [ByteArray.size_append]; rfl
set_option maxHeartbeats 400000 in
theorem walk3_in (a b c : ByteArray) (w : World) (ha2 : a.size ≤ 262144) (hb2 : b.size ≤ 262144) (hc2 : c.size ≤ 262144) :
    Calls Try.prog 3 #[.string a, .string b, .string c] w fun e w' => e = .returned (.bool true) ∧ Grown w w' := by
  have m18 : (2000000 : Nat) ≤ maxLen := by unfold maxLen; omega
  have s1 := size_zero (a ++ (⟨#[0]⟩ : ByteArray) ++ b) c
  have s2 := size_zero a b
  have s3 := size_zero b c
  obtain ⟨want, hw⟩ : ∃ x, partI (fnvI 14695981039346656037 (a ++ (⟨#[0]⟩ : ByteArray) ++ b ++ (⟨#[0]⟩ : ByteArray) ++ c).data.toList) = x := ⟨_, rfl⟩
  have Z : Hid (pOf (a ++ (⟨#[0]⟩ : ByteArray) ++ b).data.toList c.data.toList = want) := by
    show _ = _
    rw [← hw, pOf_eq, data_zero (a ++ (⟨#[0]⟩ : ByteArray) ++ b) c]
  have Y : Hid (pOf a.data.toList (b ++ (⟨#[0]⟩ : ByteArray) ++ c).data.toList = want) := by
    show _ = _
    rw [← hw, pOf_eq, data_zero (a ++ (⟨#[0]⟩ : ByteArray) ++ b) c, data_zero, data_zero]; simp
  have B1 : (a ++ (⟨#[0]⟩ : ByteArray) ++ b ++ (⟨#[0]⟩ : ByteArray) ++ c).size ≤ maxLen := by omega
  have B2 : (a ++ (⟨#[0]⟩ : ByteArray) ++ b).size ≤ maxLen := by omega
  have B3 : (b ++ (⟨#[0]⟩ : ByteArray) ++ c).size ≤ maxLen := by omega
  have B4 : c.size ≤ maxLen := by omega
  have B5 : a.size ≤ maxLen := by omega
  have HW : Hid (partI (fnvI 14695981039346656037 (a ++ (⟨#[0]⟩ : ByteArray) ++ b ++ (⟨#[0]⟩ : ByteArray) ++ c).data.toList) = want) := hw
  clear s1 s2 s3 hw
  go_enter Try.func3, Try.ntmps3
  go_wp2_with fail
  refine (bytes5_yes a b c _ (by omega)).mono ?_
  rintro e w' ⟨rfl, rfl⟩
  go_wp2_with fail
  refine (stream_any _ _ B1).mono ?_
  rintro e w' ⟨rfl, rfl⟩
  rw [HW.out]
  go_wp2_with fail
  refine (partition_any _ _ _ B2 B4).mono ?_
  rintro e w' ⟨rfl, rfl⟩
  rw [Z.out]
  go_wp2_with fail
  refine (partition_any _ _ _ B5 B3).mono ?_
  rintro e w' ⟨rfl, rfl⟩
  rw [Y.out]
  go_wp2
  go_ret
  exact ⟨rfl, Grown.refl _⟩
set_option maxHeartbeats 400000 in
theorem walk3 (a b c : ByteArray) (ha : a.size ≤ maxLen) (hb : b.size ≤ maxLen) (hc : c.size ≤ maxLen) (w : World) :
    Calls Try.prog 3 #[.string a, .string b, .string c] w fun e w' => e = .returned (.bool true) ∧ Grown w w' := by
  by_cases h : a.size + b.size + c.size ≤ 1048576
  · by_cases h2 : a.size ≤ 262144 ∧ b.size ≤ 262144 ∧ c.size ≤ 262144
    · exact walk3_in a b c w h2.1 h2.2.1 h2.2.2
    · go_enter Try.func3, Try.ntmps3
      go_wp2_with fail
      refine (bytes5_yes a b c _ h).mono ?_
      rintro e w' ⟨rfl, rfl⟩
      go_wp2
      all_goals (go_ret; exact ⟨rfl, Grown.refl _⟩)
  · go_enter Try.func3, Try.ntmps3
    go_wp2_with fail
    refine (bytes5_no a b c _ ha hb hc h).mono ?_
    rintro e w' ⟨rfl, rfl⟩
    go_wp2
    go_ret
    exact ⟨rfl, Grown.refl _⟩

theorem grown_drewN {w w' : World} (h : Grown w w') (n : Nat) : Grown w (w'.drewN n) := h
set_option maxHeartbeats 400000 in
theorem bytes8_yes (a b : ByteArray) (w : World) (h : a.size + b.size ≤ 1048576) :
    Calls Try.prog 8 #[.string a, .string b] w fun e w' => e = .returned (.bool true) ∧ w' = w := by
  go_enter Try.func8, Try.ntmps8
  go_wp2
  go_ret
  exact ⟨rfl, rfl⟩
set_option maxHeartbeats 400000 in
theorem bytes8_no (a b : ByteArray) (w : World) (ha : a.size ≤ maxLen) (hb : b.size ≤ maxLen) (h : ¬ a.size + b.size ≤ 1048576) :
    Calls Try.prog 8 #[.string a, .string b] w fun e w' => e = .returned (.bool false) ∧ w' = w := by
  unfold maxLen at ha hb
  go_enter Try.func8, Try.ntmps8
  go_wp2
  all_goals (go_ret; exact ⟨rfl, rfl⟩)
theorem cut_eq (s : ByteArray) (i : Nat) (h : i < s.size) (hz : s[i].toNat = 0) :
    pOf (s.extract 0 i).data.toList (s.extract (i + 1) s.size).data.toList = partI (fnvI 14695981039346656037 s.data.toList) := by
  rw [pOf_eq]
  congr 2
  have e1 : (s.extract 0 i).data.toList = s.data.toList.take i := by simp [ByteArray.data_extract]
  have e2 : (s.extract (i + 1) s.size).data.toList = s.data.toList.drop (i + 1) := by
    rw [ByteArray.data_extract]; simp [List.take_of_length_le]
  have e3 : s[i] = 0 := by
    have := UInt8.toNat_inj (a := s[i]) (b := 0); simp at this; exact this.1 hz
  rw [e1, e2, ← e3]
  have h' : i < s.data.toList.length := by simpa using h
  have e4 : s[i] = s.data.toList[i] := rfl
  rw [e4, List.append_assoc, List.singleton_append, ← List.drop_eq_getElem_cons h', List.take_append_drop]
set_option maxHeartbeats 400000 in
theorem walk4_in (a b : ByteArray) (w : World) (ha2 : a.size ≤ 4096) (hb2 : b.size ≤ 4096) :
    Calls Try.prog 4 #[.string a, .string b] w fun e w' => e = .returned (.bool true) ∧ Grown w w' := by
  have m18 : (2000000 : Nat) ≤ maxLen := by unfold maxLen; omega
  have sz := size_zero a b
  obtain ⟨want, hw⟩ : ∃ x, partI (fnvI 14695981039346656037 (a ++ (⟨#[0]⟩ : ByteArray) ++ b).data.toList) = x := ⟨_, rfl⟩
  have HW : Hid (partI (fnvI 14695981039346656037 (a ++ (⟨#[0]⟩ : ByteArray) ++ b).data.toList) = want) := hw
  have Z : Hid (pOf a.data.toList b.data.toList = want) := by
    show _ = _
    rw [← hw, pOf_eq, data_zero]
  clear hw
  have B4 : b.size ≤ maxLen := by omega
  have B5 : a.size ≤ maxLen := by omega
  have B6 : Hid ((a ++ (⟨#[0]⟩ : ByteArray) ++ b).size ≤ 10000) := by show _ ≤ _; omega
  clear sz
  go_enter Try.func4, Try.ntmps4
  go_wp2_with fail
  refine (bytes8_yes a b _ (by omega)).mono ?_
  rintro e w' ⟨rfl, rfl⟩
  go_wp2_with fail
  generalize (a ++ (⟨#[0]⟩ : ByteArray) ++ b) = s at *
  refine (stream_any _ _ (by have := B6.out; omega)).mono ?_
  rintro e w' ⟨rfl, rfl⟩
  rw [HW.out]
  go_wp2_with fail
  refine (partition_any _ _ _ B5 B4).mono ?_
  rintro e w' ⟨rfl, rfl⟩
  rw [Z.out]
  have hsz : s.size ≤ 10000 := B6.out
  clear B6 Z B4 B5
  go_wp2_with fail
  go_loopw [7] (fun i wr => ∃ k : Nat, k ≤ s.size ∧ i = .int .i64 k ∧ Grown w' wr) (fun i _ => s.size - (intOf i).toNat)
  case atStart => exact ⟨0, Nat.zero_le _, rfl, Grown.refl _⟩
  case round =>
    obtain ⟨k, hk, rfl, hg⟩ := hrel
    by_cases hlt : k < s.size
    · by_cases hz : s[k].toNat = 0
      · have hz1 : (((s[k].toNat : Nat) : Int) != 0) = false := by simp [hz]
        have HP : Hid (∀ wx, Calls Try.prog 7 #[.string (s.extract 0 k), .string (s.extract (k + 1) s.size)] wx fun e wy => e = .returned (.int .i64 want) ∧ wy = wx) := by
          intro wx
          have hc : pOf (s.extract 0 k).data.toList (s.extract (k + 1) s.size).data.toList = want := by
            rw [← HW.out, cut_eq s k hlt hz]
          have := partition_any (s.extract 0 k) (s.extract (k + 1) s.size) wx (by rw [ByteArray.size_extract]; omega) (by rw [ByteArray.size_extract]; omega)
          rw [hc] at this
          exact this
        clear hz
        go_wp2_with fail
        go_quiet ((go_at_call 7; exact Calls.quiet_of_same (HP.out _)))
        go_wp2
        go_roundw
        case rel => exact ⟨k + 1, by omega, by go_num, grown_drewN hg _⟩
        case measure => simp [intOf]; omega
      · have hz1 : (((s[k].toNat : Nat) : Int) != 0) = true := by simp; exact hz
        clear hz
        go_wp2
        go_roundw
        case rel => exact ⟨k + 1, by omega, by go_num, hg⟩
        case measure => simp [intOf]; omega
    · go_wp2
      go_ret
      exact ⟨rfl, hg⟩
set_option maxHeartbeats 400000 in
theorem walk4 (a b : ByteArray) (ha : a.size ≤ maxLen) (hb : b.size ≤ maxLen) (w : World) :
    Calls Try.prog 4 #[.string a, .string b] w fun e w' => e = .returned (.bool true) ∧ Grown w w' := by
  by_cases h : a.size + b.size ≤ 1048576
  · by_cases h2 : a.size ≤ 4096 ∧ b.size ≤ 4096
    · exact walk4_in a b w h2.1 h2.2
    · go_enter Try.func4, Try.ntmps4
      go_wp2_with fail
      refine (bytes8_yes a b _ h).mono ?_
      rintro e w' ⟨rfl, rfl⟩
      go_wp2
      all_goals (go_ret; exact ⟨rfl, Grown.refl _⟩)
  · go_enter Try.func4, Try.ntmps4
    go_wp2_with fail
    refine (bytes8_no a b _ ha hb h).mono ?_
    rintro e w' ⟨rfl, rfl⟩
    go_wp2
    go_ret
    exact ⟨rfl, Grown.refl _⟩
end Go.Proofs.Qxb6634849a
