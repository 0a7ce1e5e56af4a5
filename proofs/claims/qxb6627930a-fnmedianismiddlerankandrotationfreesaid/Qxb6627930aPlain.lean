/-
  SEAT b6627930a: the plain laws: the middle one of what is sorted; a majority wins; a turn changes nothing. No program in this text's own statements.
-/
import Derived.Test.Qxb6627930aLawB
namespace Go.Proofs.Qxb6627930a
open Go.Sort

theorem rlt_irrefl (a : Int × Int) : rlt a a = false := by unfold rlt; simp
theorem rlt_trans {a b c : Int × Int} (h1 : rlt a b = true) (h2 : rlt b c = true) : rlt a c = true := by
  unfold rlt at *; simp at *; omega
/-- a ≤ b < c. -/
theorem rle_lt {a b c : Int × Int} (h1 : rlt b a = false) (h2 : rlt b c = true) : rlt a c = true := by
  unfold rlt at *; simp at *; omega
/-- a < b ≤ c. -/
theorem rlt_le {a b c : Int × Int} (h1 : rlt a b = true) (h2 : rlt c b = false) : rlt a c = true := by
  unfold rlt at *; simp at *; omega
theorem req_of {a b : Int × Int} (h1 : rlt a b = false) (h2 : rlt b a = false) : a = b := by
  unfold rlt at *; simp at *; exact Prod.ext (by omega) (by omega)

theorem cnt_append (p : Nat → Bool) (xs ys : List Nat) : cnt p (xs ++ ys) = cnt p xs + cnt p ys := by unfold cnt; rw [List.filter_append, List.length_append]
theorem cnt_perm (p : Nat → Bool) {xs ys : List Nat} (h : xs.Perm ys) : cnt p xs = cnt p ys := (h.filter p).length_eq
theorem cnt_none (p : Nat → Bool) (xs : List Nat) (h : ∀ x ∈ xs, p x = false) : cnt p xs = 0 := by
  unfold cnt
  rw [List.filter_eq_nil_iff.2 (fun x hx => by simp [h x hx])]; rfl
theorem cnt_all (p : Nat → Bool) (xs : List Nat) (h : ∀ x ∈ xs, p x = true) : cnt p xs = xs.length := by
  unfold cnt
  rw [List.filter_eq_self.2 h]

/-- What sort gives, as a list. -/
def srt (zs : List Nat) : List Nat := (Sort.sort ltF zs.toArray).toList
theorem srt_perm (zs : List Nat) : (srt zs).Perm zs := by
  have h := (sort_f zs.toArray).1.2.2
  have hs := size_sort zs.toArray
  rw [← hs, Array.extract_size, hs, Array.extract_size] at h
  exact h
theorem srt_length (zs : List Nat) : (srt zs).length = zs.length := (srt_perm zs).length_eq
theorem srt_sorted (zs : List Nat) (i j : Nat) (hij : i < j) (hj : j < zs.length) : ltF ((srt zs)[j]'(by rw [srt_length]; exact hj)) ((srt zs)[i]'(by rw [srt_length]; omega)) = false := by
  have h := (sort_f zs.toArray).2 i j (Nat.zero_le _) hij (by simpa using hj)
  have hs := size_sort zs.toArray
  rw [getElem!_pos _ _ (by rw [hs]; simpa using hj), getElem!_pos _ _ (by rw [hs]; simp; omega)] at h
  exact h
theorem srt_at (zs : List Nat) (h : Nat) (hh : h < zs.length) : (Sort.sort ltF zs.toArray)[h]! = (srt zs)[h]'(by rw [srt_length]; exact hh) := by
  have hs := size_sort zs.toArray
  rw [getElem!_pos _ _ (by rw [hs]; simpa using hh)]
  rfl
theorem srt_le (zs : List Nat) (i j : Nat) (hij : i ≤ j) (hj : j < zs.length) : ltF ((srt zs)[j]'(by rw [srt_length]; exact hj)) ((srt zs)[i]'(by rw [srt_length]; omega)) = false := by
  rcases Nat.lt_or_ge i j with h | h
  · exact srt_sorted zs i j h hj
  · obtain rfl : i = j := by omega
    exact rlt_irrefl _

theorem mem_take {xs : List Nat} {k x : Nat} (h : x ∈ xs.take k) : ∃ i, ∃ hi : i < xs.length, i < k ∧ xs[i] = x := by
  obtain ⟨i, hi, rfl⟩ := List.mem_iff_getElem.1 h
  have hi' : i < k ∧ i < xs.length := by simpa [Nat.lt_min] using hi
  exact ⟨i, hi'.2, hi'.1, by rw [List.getElem_take]⟩
theorem mem_drop {xs : List Nat} {k x : Nat} (h : x ∈ xs.drop k) : ∃ i, ∃ hi : i < xs.length, k ≤ i ∧ xs[i] = x := by
  obtain ⟨i, hi, rfl⟩ := List.mem_iff_getElem.1 h
  have hi' : i < xs.length - k := by simpa using hi
  exact ⟨k + i, by omega, by omega, by rw [List.getElem_drop]⟩

theorem below_mid (zs : List Nat) (h : Nat) (hh : h < zs.length) : cnt (fun x => ltF x (Sort.sort ltF zs.toArray)[h]!) zs ≤ h := by
  rw [srt_at zs h hh, ← cnt_perm _ (srt_perm zs)]
  have hl := srt_length zs
  rw [show cnt (fun x => ltF x ((srt zs)[h]'(by omega))) (srt zs) = cnt (fun x => ltF x ((srt zs)[h]'(by omega))) ((srt zs).take h ++ (srt zs).drop h) by rw [List.take_append_drop], cnt_append]
  rw [cnt_none _ ((srt zs).drop h)]
  · have := cnt_le (fun x => ltF x ((srt zs)[h]'(by omega))) ((srt zs).take h)
    simp at this
    omega
  · intro x hx
    obtain ⟨i, hi, hk, rfl⟩ := mem_drop hx
    exact srt_le zs h i hk (by omega)
theorem above_mid (zs : List Nat) (h : Nat) (hh : h < zs.length) : cnt (fun x => ltF (Sort.sort ltF zs.toArray)[h]! x) zs ≤ zs.length - 1 - h := by
  rw [srt_at zs h hh, ← cnt_perm _ (srt_perm zs)]
  have hl := srt_length zs
  rw [show cnt (fun x => ltF ((srt zs)[h]'(by omega)) x) (srt zs) = cnt (fun x => ltF ((srt zs)[h]'(by omega)) x) ((srt zs).take (h + 1) ++ (srt zs).drop (h + 1)) by rw [List.take_append_drop], cnt_append]
  rw [cnt_none _ ((srt zs).take (h + 1))]
  · have := cnt_le (fun x => ltF ((srt zs)[h]'(by omega)) x) ((srt zs).drop (h + 1))
    simp at this
    omega
  · intro x hx
    obtain ⟨i, hi, hk, rfl⟩ := mem_take hx
    exact srt_le zs i h (by omega) hh
/-- Whoever has at most h below it and at most as many above as lie behind h is the one at h. -/
theorem mid_unique (zs : List Nat) (h v : Nat) (hh : h < zs.length) (h1 : cnt (fun x => ltF x v) zs ≤ h) (h2 : cnt (fun x => ltF v x) zs ≤ zs.length - 1 - h) : eqF (Sort.sort ltF zs.toArray)[h]! v = true := by
  have hl := srt_length zs
  rw [← cnt_perm _ (srt_perm zs)] at h1 h2
  rw [srt_at zs h hh]
  unfold eqF
  rw [beq_iff_eq]
  refine req_of ?_ ?_
  · cases hc : rlt (rk ((srt zs)[h]'(by omega))) (rk v) with
    | false => rfl
    | true =>
      exfalso
      rw [show cnt (fun x => ltF x v) (srt zs) = cnt (fun x => ltF x v) ((srt zs).take (h + 1) ++ (srt zs).drop (h + 1)) by rw [List.take_append_drop], cnt_append, cnt_all _ ((srt zs).take (h + 1))] at h1
      · simp at h1; omega
      · intro x hx
        obtain ⟨i, hi, hk, rfl⟩ := mem_take hx
        exact rle_lt (srt_le zs i h (by omega) hh) hc
  · cases hc : rlt (rk v) (rk ((srt zs)[h]'(by omega))) with
    | false => rfl
    | true =>
      exfalso
      rw [show cnt (fun x => ltF v x) (srt zs) = cnt (fun x => ltF v x) ((srt zs).take h ++ (srt zs).drop h) by rw [List.take_append_drop], cnt_append, cnt_all _ ((srt zs).drop h)] at h2
      · simp at h2; omega
      · intro x hx
        obtain ⟨i, hi, hk, rfl⟩ := mem_drop hx
        exact rlt_le hc (srt_le zs h i hk (by omega))

theorem cnt_cons (p : Nat → Bool) (x : Nat) (xs : List Nat) : cnt p (x :: xs) = (if p x then 1 else 0) + cnt p xs := by
  unfold cnt
  rw [List.filter_cons]
  split <;> simp; omega
theorem ite_one (b : Bool) : (if b = true then 1 else 0 : Nat) ≤ 1 := by cases b <;> simp
theorem ite_no : (if (false : Bool) = true then 1 else 0 : Nat) = 0 := rfl
theorem cnt_nil (p : Nat → Bool) : cnt p [] = 0 := rfl
theorem cnt_preX (p : Nat → Bool) (v : Nat) (zs : List Nat) (hv : p v = false) : ∀ k, k ≤ zs.length → cnt p (preX v zs k) ≤ k
  | 0, _ => by simp [preX, cnt]
  | k + 1, h => by
    rw [preX_succ v zs k (by omega), cnt_append, cnt_cons, cnt_cons, hv]
    have := cnt_preX p v zs hv k (by omega)
    have := ite_one (p (zs[k]?.getD 0))
    rw [ite_no, cnt_nil]
    omega
theorem cnt_allX (p : Nat → Bool) (v : Nat) (zs : List Nat) (hv : p v = false) : cnt p (allX v zs) ≤ zs.length := by
  unfold allX
  rw [cnt_append, cnt_cons, hv]
  have := cnt_preX p v zs hv zs.length (Nat.le_refl _)
  simp [cnt] at *
  omega
theorem majority (v : Nat) (zs : List Nat) : eqF (Sort.sort ltF (allX v zs).toArray)[(allX v zs).length / 2]! v = true := by
  have hl := allX_length v zs
  have i1 : (fun x => ltF x v) v = false := rlt_irrefl _
  have i2 : (fun x => ltF v x) v = false := rlt_irrefl _
  have c1 := cnt_allX (fun x => ltF x v) v zs i1
  have c2 := cnt_allX (fun x => ltF v x) v zs i2
  refine mid_unique _ _ _ (by omega) (by omega) (by omega)
theorem nan_low (v nan : Nat) (h : rk nan = (-2, 0)) : ltF v nan = false := by
  have := rk_class v
  unfold ltF rlt; rw [h]; simp; omega
theorem inf_high (v : Nat) : ltF 9218868437227405312 v = false := by
  have := rk_class v
  unfold ltF rlt; rw [rk_inf]; simp; omega
theorem padX_perm (X : List Nat) (t nan : Nat) : (padX X t nan).Perm (nan :: 9218868437227405312 :: X) := by
  unfold padX
  have h : X.take t ++ [nan] ++ [9218868437227405312] ++ X.drop t = X.take t ++ ([nan, 9218868437227405312] ++ X.drop t) := by simp
  rw [h]
  refine List.perm_append_comm_assoc _ _ _ |>.trans ?_
  rw [List.take_append_drop]
  exact List.Perm.refl _
theorem majority_padded (v : Nat) (zs : List Nat) (t nan : Nat) (_ht : t ≤ (allX v zs).length) (hnan : rk nan = (-2, 0)) : eqF (Sort.sort ltF (padX (allX v zs) t nan).toArray)[(padX (allX v zs) t nan).length / 2]! v = true := by
  have hl := allX_length v zs
  have hp := padX_perm (allX v zs) t nan
  have hpl : (padX (allX v zs) t nan).length = 2 * zs.length + 3 := by rw [hp.length_eq]; simp; omega
  have i1 : (fun x => ltF x v) v = false := rlt_irrefl _
  have i2 : (fun x => ltF v x) v = false := rlt_irrefl _
  have c1 := cnt_allX (fun x => ltF x v) v zs i1
  have c2 := cnt_allX (fun x => ltF v x) v zs i2
  have e1 : cnt (fun x => ltF x v) (padX (allX v zs) t nan) ≤ zs.length + 1 := by
    rw [cnt_perm _ hp, cnt_cons, cnt_cons, inf_high, ite_no]
    have := ite_one (ltF nan v)
    omega
  have e2 : cnt (fun x => ltF v x) (padX (allX v zs) t nan) ≤ zs.length + 1 := by
    rw [cnt_perm _ hp, cnt_cons, cnt_cons, nan_low v nan hnan, ite_no]
    have := ite_one (ltF v 9218868437227405312)
    omega
  refine mid_unique _ _ _ (by omega) (by omega) (by omega)

theorem mid_is (zs : List Nat) (hodd : zs.length % 2 = 1) : isMid (Sort.sort ltF zs.toArray)[zs.length / 2]! zs = true := by
  have h1 := below_mid zs (zs.length / 2) (by omega)
  have h2 := above_mid zs (zs.length / 2) (by omega)
  unfold isMid
  rw [decide_eq_true h1, decide_eq_true (by omega), Bool.and_true, Bool.and_true]
  unfold hasK
  rw [List.any_eq_true]
  refine ⟨_, (srt_perm zs).mem_iff.1 (List.getElem_mem (l := srt zs) (n := zs.length / 2) (by rw [srt_length]; omega)), ?_⟩
  rw [srt_at zs _ (by omega)]
  simp [eqF]
theorem mid_turned (zs : List Nat) (c : Nat) (hodd : zs.length % 2 = 1) : eqF (Sort.sort ltF (zs.drop c ++ zs.take c).toArray)[(zs.drop c ++ zs.take c).length / 2]! (Sort.sort ltF zs.toArray)[zs.length / 2]! = true := by
  have h1 := below_mid zs (zs.length / 2) (by omega)
  have h2 := above_mid zs (zs.length / 2) (by omega)
  have hp : (zs.drop c ++ zs.take c).Perm zs := (List.perm_append_comm).trans (by rw [List.take_append_drop])
  have hl := hp.length_eq
  rw [hl]
  refine mid_unique _ _ _ (by omega) ?_ ?_
  · rw [cnt_perm _ hp]; exact h1
  · rw [cnt_perm _ hp, hl]; exact h2
end Go.Proofs.Qxb6627930a
