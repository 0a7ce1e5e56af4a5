/-
  THE WALKS of seat b6627962a: recordsRouteOf, Records, the bound, the two laws; each by a contract. The plain laws: whole_route (a route with text around it is no route), one_byte (a route with one byte changed is none).
-/
import Derived.Test.Qxb6627962aRows
import Derived.WalkKit
import Derived.ProofKit
import Derived.WalkSpells
import Derived.WalkLawsBesides
import Derived.Deep.QuietTactic
import Derived.BigQuiet
import Derived.Deep.OwnRows
import Derived.Laws.IdiomStrings
namespace Go.Proofs.Qxb6627962a
open Go.RowKit
def rt0 : List UInt8 := [47, 112, 114, 101, 112, 97, 114, 101]
def rt1 : List UInt8 := [47, 114, 101, 103, 105, 115, 116, 101, 114, 66, 114, 97, 110, 99, 104]
def rt2 : List UInt8 := [47, 114, 101, 103, 105, 115, 116, 101, 114, 84, 99, 99, 66, 114, 97, 110, 99, 104]
def rt3 : List UInt8 := [47, 114, 101, 103, 105, 115, 116, 101, 114, 88, 97, 66, 114, 97, 110, 99, 104]
def recB (l : List UInt8) : Bool := l == rt0 || l == rt1 || l == rt2 || l == rt3
def rt (k : Int) : List UInt8 := if k = 0 then rt0 else if k = 1 then rt1 else if k = 2 then rt2 else rt3
theorem ret_bool {a b : Bool} (h : a = b) : Ending.returned (.bool a) = .returned (.bool b) := by rw [h]
theorem ret_string {a b : ByteArray} (h : a = b) : Ending.returned (.string a) = .returned (.string b) := by rw [h]
set_option maxHeartbeats 400000 in
theorem records_any (s : ByteArray) (w : World) :
    Calls Try.prog 7 #[.string s] w fun e w' => e = .returned (.bool (recB s.toList)) ∧ w' = w := by
  go_enter Try.func7, Try.ntmps7
  go_wp2
  all_goals
    go_ret
    refine ⟨ret_bool ?_, rfl⟩
    simp_all [recB, rt0, rt1, rt2, rt3]
set_option maxHeartbeats 400000 in
theorem route_any (k : Int) (w : World) :
    Calls Try.prog 6 #[.int .i64 k] w fun e w' => e = .returned (.string ⟨(rt k).toArray⟩) ∧ w' = w := by
  go_enter Try.func6, Try.ntmps6
  go_wp2
  all_goals
    go_ret
    refine ⟨ret_string ?_, rfl⟩
    simp_all [rt, rt0, rt1, rt2, rt3]

def rts : List (List UInt8) := [rt0, rt1, rt2, rt3]
theorem recB_iff (l : List UInt8) : recB l = true ↔ l ∈ rts := by
  simp [recB, rts, or_assoc]
theorem rt_mem (k : Int) : rt k ∈ rts := by
  unfold rt rts; split
  · simp
  split
  · simp
  split <;> simp
theorem pre_cases : ∀ a ∈ rts, ∀ b ∈ rts, b.take a.length = a → b.drop a.length = [] := by decide
theorem no_slash : ∀ b ∈ rts, (47 : UInt8) ∉ b.tail := by decide
theorem head_slash : ∀ b ∈ rts, ∃ t, b = 47 :: t := by
  intro b hb
  simp only [rts, List.mem_cons, List.not_mem_nil, or_false] at hb
  rcases hb with rfl | rfl | rfl | rfl <;> exact ⟨_, rfl⟩
theorem whole_route (r p q : List UInt8) (hr : r ∈ rts) : recB (p ++ r ++ q) = (p.isEmpty && q.isEmpty) := by
  obtain ⟨t, ht⟩ := head_slash r hr
  cases p with
  | cons x p =>
    have : ¬ recB (x :: p ++ r ++ q) = true := by
      rw [recB_iff]
      intro hm
      have := no_slash _ hm
      rw [ht] at this
      simp at this
    simp only [List.isEmpty_cons, Bool.false_and]
    simpa using this
  | nil =>
    cases q with
    | nil => simpa using (recB_iff r).2 hr
    | cons y q =>
      have : ¬ recB ([] ++ r ++ y :: q) = true := by
        rw [recB_iff]
        intro hm
        have := pre_cases r hr _ hm (by simp)
        simp at this
      simp only [List.isEmpty_cons, Bool.and_false]
      simpa using this
set_option maxHeartbeats 400000 in
theorem bytes5_yes (k : Int) (a b : ByteArray) (w : World) (h : a.size + b.size ≤ 1048576) :
    Calls Try.prog 5 #[.int .i64 k, .string a, .string b] w fun e w' => e = .returned (.bool true) ∧ w' = w := by
  go_enter Try.func5, Try.ntmps5
  go_wp2
  go_ret
  exact ⟨rfl, rfl⟩
set_option maxHeartbeats 400000 in
theorem bytes5_no (k : Int) (a b : ByteArray) (w : World) (ha : a.size ≤ maxLen) (hb : b.size ≤ maxLen) (h : ¬ a.size + b.size ≤ 1048576) :
    Calls Try.prog 5 #[.int .i64 k, .string a, .string b] w fun e w' => e = .returned (.bool false) ∧ w' = w := by
  unfold maxLen at ha hb
  go_enter Try.func5, Try.ntmps5
  go_wp2
  all_goals (go_ret; exact ⟨rfl, rfl⟩)
theorem data_three (p q : ByteArray) (l : List UInt8) : (p ++ (⟨l.toArray⟩ : ByteArray) ++ q).toList = p.data.toList ++ l ++ q.data.toList := by
  rw [ByteArray.toList_eq]; simp [ByteArray.data_append]
theorem empty_size (p : ByteArray) : p.data.toList.isEmpty = ((p.size : Int) == 0) := by
  rw [Bool.eq_iff_iff, List.isEmpty_iff_length_eq_zero, beq_iff_eq]
  have : p.data.toList.length = p.size := by simp
  omega
set_option maxHeartbeats 400000 in
theorem walk3_in (k : Int) (p q : ByteArray) (w : World) (h0 : 0 ≤ k) (h3 : k ≤ 3) (hp : p.size ≤ 524288) (hq : q.size ≤ 524288) :
    Calls Try.prog 3 #[.int .i64 k, .string p, .string q] w fun e w' => e = .returned (.bool true) ∧ Grown w w' := by
  obtain ⟨r, hr⟩ : ∃ r : ByteArray, r = ⟨(rt k).toArray⟩ := ⟨_, rfl⟩
  have C6 : Hid (∀ w, Calls Try.prog 6 #[.int .i64 k] w fun e w' => e = .returned (.string r) ∧ w' = w) := by rw [hr]; exact route_any k
  have R1 : Hid (recB r.toList = true) := by
    show _ = _
    rw [hr, ByteArray.toList_eq, recB_iff]; exact rt_mem k
  obtain ⟨pb, hpb⟩ : ∃ pb : Bool, ((p.size : Int) == 0) = pb := ⟨_, rfl⟩
  obtain ⟨qb, hqb⟩ : ∃ qb : Bool, ((q.size : Int) == 0) = qb := ⟨_, rfl⟩
  have R2 : Hid (recB (p ++ r ++ q).toList = (pb && qb)) := by
    show _ = _
    rw [← hpb, ← hqb, hr, data_three, whole_route _ _ _ (rt_mem k), empty_size, empty_size]
  have sz : r.size ≤ 18 := by
    have : ∀ l ∈ rts, l.length ≤ 18 := by decide
    have := this _ (rt_mem k)
    rw [hr]; simpa [ByteArray.size] using this
  clear hr
  cases pb <;> cases qb
  all_goals
    go_enter Try.func3, Try.ntmps3
    go_wp2_with fail
    refine (bytes5_yes k p q _ (by omega)).mono ?_
    rintro e w' ⟨rfl, rfl⟩
    go_wp2_with fail
    refine (C6.out _).mono ?_
    rintro e w' ⟨rfl, rfl⟩
    go_wp2_with fail
    refine (records_any _ _).mono ?_
    rintro e w' ⟨rfl, rfl⟩
    rw [R1.out]
    go_wp2_with fail
    refine (records_any _ _).mono ?_
    rintro e w' ⟨rfl, rfl⟩
    rw [R2.out]
    go_wp2
    go_ret
    exact ⟨rfl, Grown.refl _⟩
set_option maxHeartbeats 400000 in
theorem walk3 (k : Int) (p q : ByteArray) (hp : p.size ≤ maxLen) (hq : q.size ≤ maxLen) (w : World) :
    Calls Try.prog 3 #[.int .i64 k, .string p, .string q] w fun e w' => e = .returned (.bool true) ∧ Grown w w' := by
  by_cases h : p.size + q.size ≤ 1048576
  · by_cases h2 : p.size ≤ 524288 ∧ q.size ≤ 524288 ∧ 0 ≤ k ∧ k ≤ 3
    · exact walk3_in k p q w h2.2.2.1 h2.2.2.2 h2.1 h2.2.1
    · go_enter Try.func3, Try.ntmps3
      go_wp2_with fail
      refine (bytes5_yes k p q _ h).mono ?_
      rintro e w' ⟨rfl, rfl⟩
      go_wp2
      all_goals (go_ret; exact ⟨rfl, Grown.refl _⟩)
  · go_enter Try.func3, Try.ntmps3
    go_wp2_with fail
    refine (bytes5_no k p q _ hp hq h).mono ?_
    rintro e w' ⟨rfl, rfl⟩
    go_wp2
    go_ret
    exact ⟨rfl, Grown.refl _⟩

theorem same_length : ∀ a ∈ rts, ∀ b ∈ rts, a.length = b.length → a = b := by decide
theorem one_byte (r : List UInt8) (hr : r ∈ rts) (i : Nat) (hi : i < r.length) (b : UInt8) : recB (r.set i b) = (b == r[i]) := by
  rw [Bool.eq_iff_iff, recB_iff, beq_iff_eq]
  constructor
  · intro hm
    have := same_length _ hm r hr (by simp)
    have h2 : (r.set i b)[i]'(by simpa using hi) = r[i] := by simp only [this]
    simpa using h2
  · rintro rfl
    rw [List.set_getElem_self]; exact hr
theorem Try.info5 : (Try.prog.info? 5).map (fun i => (i.zero, i.size, i.bytes)) = some (some (.int .u8 0), 1, 1) := by kernel_rfl
theorem addr_add (b off j : Nat) : (⟨b, off, none⟩ : Addr).add j = ⟨b, off + j, none⟩ := by
  unfold Addr.add; split <;> simp_all
theorem grown_drewN {w w' : World} (h : Grown w w') (n : Nat) : Grown w (w'.drewN n) := h
set_option maxHeartbeats 400000 in
theorem walk4_in (k i b : Int) (w : World) (r : ByteArray) (hr : r.data.toList ∈ rts) (hC6 : ∀ w, Calls Try.prog 6 #[.int .i64 k] w fun e w' => e = .returned (.string r) ∧ w' = w)
    (h0 : 0 ≤ k) (h3 : k ≤ 3) (hi0 : 0 ≤ i) (hi1 : i < r.size) (hb0 : 0 ≤ b) (hb1 : b < 256) :
    Calls Try.prog 4 #[.int .i64 k, .int .i64 i, .int .u8 b] w fun e w' => e = .returned (.bool true) ∧ Grown w w' := by
  have C6 : Hid (∀ w, Calls Try.prog 6 #[.int .i64 k] w fun e w' => e = .returned (.string r) ∧ w' = w) := hC6
  have R1 : Hid (recB r.toList = true) := by
    show _ = _
    rw [ByteArray.toList_eq, recB_iff]; exact hr
  have sz : r.size ≤ 18 := by
    have : ∀ l ∈ rts, l.length ≤ 18 := by decide
    simpa using this _ hr
  have HR : Hid (r.data.toList ∈ rts) := hr
  clear hr hC6
  obtain ⟨i, rfl⟩ := Int.eq_ofNat_of_zero_le hi0
  obtain ⟨b8, hb8⟩ : ∃ b8 : UInt8, b = (b8.toNat : Int) := ⟨UInt8.ofNat b.toNat, by rw [UInt8.toNat_ofNat']; omega⟩
  have hi2 : i < r.size := by omega
  have R2 : Hid (∀ bb : Bool, (b == (r[i].toNat : Int)) = bb → recB (⟨(r.data.toList.set i b8).toArray⟩ : ByteArray).toList = bb) := by
    intro bb hbb
    rw [hb8] at hbb
    have e4 : r[i] = r.data.toList[i]'(by simpa using hi2) := rfl
    rw [ByteArray.toList_eq]
    show recB (r.data.toList.set i b8) = bb
    rw [one_byte _ HR.out i (by simpa using hi2) b8, ← hbb, ← e4, Bool.eq_iff_iff, beq_iff_eq, beq_iff_eq, ← UInt8.toNat_inj]
    omega
  have HB8 : Hid (b = (b8.toNat : Int)) := hb8
  clear HR hb8
  have hmk := run_make_row' (P := Try.prog) 25 5 (.int .u8 0) 1 Try.underlying25 Try.info5 rfl .i64 .i64 r.size (by omega) (by omega)
  go_enter Try.func4, Try.ntmps4
  go_wp2_with fail
  refine (C6.out _).mono ?_
  rintro e w' ⟨rfl, rfl⟩
  go_wp2_with fail
  clear hmk C6
  go_loopw [9] (fun v wr => ∃ (m : Nat) (c : Array Value), m ≤ r.size ∧ v = .int .i64 m ∧ wr = w'.alloc (.cells c 5) ∧ c.size = r.size ∧ ∀ t (_ : t < m) (h : t < r.size), c[t]? = some (.int .u8 r[t].toNat)) (fun v _ => r.size - (intOf v).toNat)
  case atStart => exact ⟨0, _, Nat.zero_le _, rfl, rfl, size_madeCells _ _, fun t ht => by omega⟩
  case round =>
    obtain ⟨m, c, hm, rfl, rfl, hcs, hct⟩ := hrel
    have HCT : Hid (∀ t (_ : t < m) (h : t < r.size), c[t]? = some (.int .u8 r[t].toNat)) := hct
    have HCS : Hid (c.size = r.size) := hcs
    by_cases hlt : m < r.size
    · obtain ⟨cv, hcv⟩ : ∃ cv, c[m]? = some cv := ⟨c[m]'(by omega), by simp [hcs, hlt]⟩
      clear hct hcs
      go_wp2
      go_roundw
      case rel =>
        refine ⟨m + 1, _, by omega, by go_num, rfl, by rw [Array.size_setIfInBounds]; exact HCS.out, ?_⟩
        intro t ht h
        rw [Array.getElem?_setIfInBounds]
        by_cases e : m = t
        · subst e; rw [if_pos rfl, if_pos (by rw [HCS.out]; exact h)]
        · rw [if_neg e]; exact HCT.out t (by omega) h
      case measure => simp [intOf]; omega
    · obtain rfl : m = r.size := by omega
      clear hct hcs
      obtain ⟨cv, hcv⟩ : ∃ cv, c[i]? = some cv := ⟨c[i]'(by rw [HCS.out]; omega), by simp⟩
      have hconv := run_convert_bytes_back (P := Try.prog) (w'.alloc (.cells (c.setIfInBounds i (.int .u8 b)) 5)) 25 9 5 ⟨w'.heap.size, 0, none⟩ r.size (r.data.toList.set i b8) Try.underlying25 Try.underlying5 Try.underlying9 (by
        intro j hj
        have hj' : j < r.size := by simpa using hj
        rw [addr_add, Nat.zero_add, World.cell?_alloc_at _ _ _ _ rfl, Array.getElem?_setIfInBounds, List.getElem_set]
        by_cases e : i = j
        · rw [if_pos e, if_pos e, if_pos (by rw [HCS.out]; exact hi2), HB8.out]
        · rw [if_neg e, if_neg e, HCT.out j hj' hj']; rfl)
      rw [List.length_set, show r.data.toList.length = r.size by simp] at hconv
      generalize hs2 : (⟨(r.data.toList.set i b8).toArray⟩ : ByteArray) = s2 at *
      clear hs2
      obtain ⟨bb, hbb⟩ : ∃ bb : Bool, (b == (r[i].toNat : Int)) = bb := ⟨_, rfl⟩
      have R3 : Hid (recB s2.toList = bb) := R2.out bb hbb
      clear R2
      go_wp2_with fail
      refine (records_any _ _).mono ?_
      rintro e w'' ⟨rfl, rfl⟩
      rw [R1.out]
      go_wp2_with fail
      have HP : Hid (∀ wx, Calls Try.prog 7 #[.string s2] wx fun e wy => e = .returned (.bool bb) ∧ wy = wx) := by
        intro wx
        have := records_any s2 wx
        rw [R3.out] at this
        exact this
      cases bb
      all_goals
        go_quiet ((go_at_call 7; exact Calls.quiet_of_same (HP.out _)))
        go_wp2
        go_ret
        exact ⟨rfl, grown_drewN ((Grown.refl _).alloc _ _) _⟩
set_option maxHeartbeats 400000 in
theorem walk4 (k i b : Int) (hb0 : 0 ≤ b) (hb1 : b < 256) (w : World) :
    Calls Try.prog 4 #[.int .i64 k, .int .i64 i, .int .u8 b] w fun e w' => e = .returned (.bool true) ∧ Grown w w' := by
  by_cases hk : 0 ≤ k ∧ k ≤ 3
  · obtain ⟨r, hr⟩ : ∃ r : ByteArray, r = ⟨(rt k).toArray⟩ := ⟨_, rfl⟩
    have hC6 : ∀ w, Calls Try.prog 6 #[.int .i64 k] w fun e w' => e = .returned (.string r) ∧ w' = w := by rw [hr]; exact route_any k
    have hm : r.data.toList ∈ rts := by rw [hr]; exact rt_mem k
    clear hr
    by_cases hi : 0 ≤ i ∧ i < r.size
    · exact walk4_in k i b w r hm hC6 hk.1 hk.2 hi.1 hi.2 hb0 hb1
    · have C6 : Hid (∀ w, Calls Try.prog 6 #[.int .i64 k] w fun e w' => e = .returned (.string r) ∧ w' = w) := hC6
      clear hC6 hm
      go_enter Try.func4, Try.ntmps4
      go_wp2_with fail
      refine (C6.out _).mono ?_
      rintro e w' ⟨rfl, rfl⟩
      by_cases h1 : i < 0
      · go_wp2
        go_ret
        exact ⟨rfl, Grown.refl _⟩
      · have h2 : (r.size : Int) ≤ i := by omega
        go_wp2
        go_ret
        exact ⟨rfl, Grown.refl _⟩
  · go_enter Try.func4, Try.ntmps4
    by_cases h1 : k < 0
    · go_wp2
      go_ret
      exact ⟨rfl, Grown.refl _⟩
    · have h2 : 3 < k := by omega
      go_wp2
      go_ret
      exact ⟨rfl, Grown.refl _⟩
end Go.Proofs.Qxb6627962a
