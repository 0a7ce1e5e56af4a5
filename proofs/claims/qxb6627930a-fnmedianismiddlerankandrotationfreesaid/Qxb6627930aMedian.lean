/-
  SEAT b6627930a: slices.Collect, slices.Sorted over slices.Values, and Median, at []float64.
-/
import Derived.Test.Qxb6627930aIter
import Derived.Test.Qxb6627930aSortTop
namespace Go.Proofs.Qxb6627930a
open Go.RowKit Go.Sort
attribute [local go_sem] run_store_float

theorem appendSeq16 (Bs b off cap : Nat) (zs : List Nat) (hlen : zs.length ≤ 1000000) (w : World) (hBs : Bs < w.heap.size) (hb : b < w.heap.size)
    (hc : w.cell? ⟨Bs, 0, none⟩ = some (.slice (some ⟨b, off, none⟩) zs.length cap)) (hI : ∀ j, j < zs.length → w.cell? ⟨b, off + j, none⟩ = some (.float .f64 (zs[j]?.getD 0))) :
    Calls Try.prog 16 #[.slice none 0 0, .func (.func 15) #[] #[.pointer (some ⟨Bs, 0, none⟩)]] w fun e W' => ∃ v, e = .returned v ∧ W'.ownsRow w.heap.size 24 1 v zs.length (zs.map (Value.float .f64)) ∧ RowKit.Below w.heap.size w W' :=
  callsIn_wide.1 (appendSeq_in Fence.wide 3 trivial trivial rfl (by omega) Bs b off cap zs (by unfold maxLen; omega) (by omega) w hBs hb hc hI)

set_option maxHeartbeats 400000 in
theorem collect13 (Bs b off cap : Nat) (zs : List Nat) (hpos : 0 < zs.length) (hlen : zs.length ≤ 1000000) (w : World) (hBs : Bs < w.heap.size) (hb : b < w.heap.size)
    (hc : w.cell? ⟨Bs, 0, none⟩ = some (.slice (some ⟨b, off, none⟩) zs.length cap)) (hI : ∀ j, j < zs.length → w.cell? ⟨b, off + j, none⟩ = some (.float .f64 (zs[j]?.getD 0))) :
    Calls Try.prog 13 #[.func (.func 15) #[] #[.pointer (some ⟨Bs, 0, none⟩)]] w fun e W' => ∃ g c, e = .returned (.slice (some ⟨g, 0, none⟩) zs.length c) ∧ w.heap.size ≤ g ∧ g < W'.heap.size ∧ Holds (Value.float .f64) W' g 0 zs.toArray ∧ RowKit.Below w.heap.size w W' := by
  have HC := appendSeq16 Bs b off cap zs hlen w hBs hb hc hI
  have HH : Hid (Calls Try.prog 16 #[.slice none 0 0, .func (.func 15) #[] #[.pointer (some ⟨Bs, 0, none⟩)]] w fun e W' => ∃ v, e = .returned v ∧ W'.ownsRow w.heap.size 24 1 v zs.length (zs.map (Value.float .f64)) ∧ RowKit.Below w.heap.size w W') := HC
  clear HC hc hI
  go_enter Try.func13, Try.ntmps13
  go_wp2_with fail
  refine Calls.mono (show Calls _ _ _ _ _ from HH.out) ?_
  rintro e W' ⟨v, rfl, hown, hB⟩
  rcases hown.2 with ⟨_, h0⟩ | ⟨g, c, cur, rfl, hg, hgb, hlc, hcm, hcs, htk⟩
  · omega
  · go_wp2
    go_ret
    have hgl : g < W'.heap.size := (Array.getElem?_eq_some_iff.1 hgb).1
    refine ⟨g, c, rfl, hg, hgl, ?_, hB⟩
    intro j hj
    have hj' : j < zs.length := by simpa using hj
    have hjc : j < cur.size := by omega
    have e1 : cur[j]? = some (.float .f64 zs[j]) := by
      have h2 : (cur.toList.take (zs.length * 1))[j]? = (zs.map (Value.float .f64))[j]? := by rw [htk]
      rw [List.getElem?_take, if_pos (by omega)] at h2
      rw [← Array.getElem?_toList, h2]; simp [hj']
    refine ⟨?_, by simp [World.frozen?, hgb]⟩
    rw [Nat.zero_add]
    simp [World.cell?, hgb, e1, hj']

theorem below_sorted (B : Nat) (W : World) (n g : Nat) (d : Array Nat) (os : Array Obj) (hg : B ≤ g) (hB : B ≤ W.heap.size) :
    RowKit.Below B W (grow (putRow (Value.float .f64) (Sort.ahead W n) g 0 d) os) := by
  refine ⟨rfl, rfl, rfl, by simp, fun k hk => ?_⟩
  rw [heap_grow_old _ _ (by simp; omega)]
  simp only [putRow, mapBlock, heap_ahead, Array.getElem?_modify]
  rw [if_neg (by omega)]
theorem size_sort (d : Array Nat) : (Sort.sort ltF d).size = d.size := (sort_f d).1.1

set_option maxHeartbeats 400000 in
/-- slices.Sorted(slices.Values(s)). -/
theorem sorted10 (Bs b off cap : Nat) (zs : List Nat) (hpos : 0 < zs.length) (hlen : zs.length ≤ 1000000) (w : World) (hBs : Bs < w.heap.size) (hb : b < w.heap.size)
    (hc : w.cell? ⟨Bs, 0, none⟩ = some (.slice (some ⟨b, off, none⟩) zs.length cap)) (hI : ∀ j, j < zs.length → w.cell? ⟨b, off + j, none⟩ = some (.float .f64 (zs[j]?.getD 0))) :
    Calls Try.prog 10 #[.func (.func 15) #[] #[.pointer (some ⟨Bs, 0, none⟩)]] w fun e W' => ∃ g c, e = .returned (.slice (some ⟨g, 0, none⟩) zs.length c) ∧
      (∀ j, j < zs.length → W'.cell? ⟨g, j, none⟩ = some (.float .f64 (Sort.sort ltF zs.toArray)[j]!)) ∧ RowKit.Below w.heap.size w W' := by
  have HC := collect13 Bs b off cap zs hpos hlen w hBs hb hc hI
  have HH : Hid (Calls Try.prog 13 #[.func (.func 15) #[] #[.pointer (some ⟨Bs, 0, none⟩)]] w fun e W' => ∃ g c, e = .returned (.slice (some ⟨g, 0, none⟩) zs.length c) ∧ w.heap.size ≤ g ∧ g < W'.heap.size ∧ Holds (Value.float .f64) W' g 0 zs.toArray ∧ RowKit.Below w.heap.size w W') := HC
  clear HC hc hI
  go_enter Try.func10, Try.ntmps10
  go_wp2_with fail
  refine Calls.mono (show Calls _ _ _ _ _ from HH.out) ?_
  rintro e W ⟨g, c, rfl, hg, hgl, hH, hB⟩
  have HS := slices_Sort_f g 0 c zs.toArray W hH hgl (by simp; omega)
  rw [List.size_toArray] at HS
  have HS' : Hid (Calls Try.prog 14 #[.slice (some ⟨g, 0, none⟩) zs.length c] W fun e w' => e = .returned (.tuple #[]) ∧ ∃ n os, w' = grow (putRow (Value.float .f64) (Sort.ahead W n) g 0 (Sort.sort ltF zs.toArray)) os) := HS
  have HHo : Hid (Holds (Value.float .f64) W g 0 zs.toArray) := hH
  clear HS HH hH
  go_wp2_with fail
  refine Calls.mono (show Calls _ _ _ _ _ from HS'.out) ?_
  rintro e W' ⟨rfl, n, os, rfl⟩
  have hBl := below_sorted w.heap.size W n g (Sort.sort ltF zs.toArray) os hg hB.size
  have hcl : ∀ j, j < zs.length → (grow (putRow (Value.float .f64) (Sort.ahead W n) g 0 (Sort.sort ltF zs.toArray)) os).cell? ⟨g, j, none⟩ = some (.float .f64 (Sort.sort ltF zs.toArray)[j]!) := fun j hj => by
    rw [cell?_grow _ _ _ (by simpa using hgl)]
    have := cell?_putRow (Value.float .f64) (Sort.ahead W n) g 0 zs.toArray (Sort.sort ltF zs.toArray) (holds_ahead _ _ _ _ _ _ HHo.out) (size_sort _) j (by rw [size_sort]; simpa using hj)
    rwa [Nat.zero_add] at this
  have HCL : Hid (∀ j, j < zs.length → (grow (putRow (Value.float .f64) (Sort.ahead W n) g 0 (Sort.sort ltF zs.toArray)) os).cell? ⟨g, j, none⟩ = some (.float .f64 (Sort.sort ltF zs.toArray)[j]!)) := hcl
  clear hcl
  generalize grow (putRow (Value.float .f64) (Sort.ahead W n) g 0 (Sort.sort ltF zs.toArray)) os = W2 at *
  go_wp2
  go_ret
  exact ⟨g, c, rfl, HCL.out, hB.trans hBl⟩

set_option maxHeartbeats 400000 in
/-- Median of a slice that is not empty: the middle one of what is sorted. -/
theorem median6 (b off cap : Nat) (zs : List Nat) (hpos : 0 < zs.length) (hlen : zs.length ≤ 1000000) (w : World) (hb : b < w.heap.size)
    (hI : ∀ j, j < zs.length → w.cell? ⟨b, off + j, none⟩ = some (.float .f64 (zs[j]?.getD 0))) :
    Calls Try.prog 6 #[.slice (some ⟨b, off, none⟩) zs.length cap] w fun e W' => e = .returned (.float .f64 (Sort.sort ltF zs.toArray)[zs.length / 2]!) ∧ RowKit.Below w.heap.size w W' := by
  obtain ⟨mv, hmv⟩ : ∃ mv, (Sort.sort ltF zs.toArray)[zs.length / 2]! = mv := ⟨_, rfl⟩
  rw [hmv]
  have HMV : Hid ((Sort.sort ltF zs.toArray)[zs.length / 2]! = mv) := hmv
  clear hmv
  have HV : Hid (∀ w, Calls Try.prog 11 #[.slice (some ⟨b, off, none⟩) zs.length cap] w fun e w' => e = .returned (.func (.func 15) #[] #[.pointer (some ⟨w.heap.size, 0, none⟩)]) ∧ w' = w.alloc (.cells #[.slice (some ⟨b, off, none⟩) zs.length cap] 22)) :=
    fun w => callsIn_wide.1 (values_in Fence.wide 3 trivial rfl _ _ _ w)
  have hB0 : RowKit.Below w.heap.size w (w.alloc (.cells #[.slice (some ⟨b, off, none⟩) zs.length cap] 22)) := (RowKit.Below.refl _ w).alloc (Nat.le_refl _) _
  have HS := sorted10 w.heap.size b off cap zs hpos hlen (w.alloc (.cells #[.slice (some ⟨b, off, none⟩) zs.length cap] 22)) (by simp) (by simp; omega) (by simp [go_sem]) (fun j hj => (hB0.cell (p := ⟨b, off + j, none⟩) hb).trans (hI j hj))
  have HS' : Hid (Calls Try.prog 10 #[.func (.func 15) #[] #[.pointer (some ⟨w.heap.size, 0, none⟩)]] (w.alloc (.cells #[.slice (some ⟨b, off, none⟩) zs.length cap] 22)) fun e W' => ∃ g c, e = .returned (.slice (some ⟨g, 0, none⟩) zs.length c) ∧
      (∀ j, j < zs.length → W'.cell? ⟨g, j, none⟩ = some (.float .f64 (Sort.sort ltF zs.toArray)[j]!)) ∧ RowKit.Below (w.alloc (.cells #[.slice (some ⟨b, off, none⟩) zs.length cap] 22)).heap.size (w.alloc (.cells #[.slice (some ⟨b, off, none⟩) zs.length cap] 22)) W') := HS
  clear HS hI
  go_enter Try.func6, Try.ntmps6
  go_wp2_with fail
  refine (HV.out _).mono ?_
  rintro e w' ⟨rfl, rfl⟩
  go_wp2_with fail
  refine Calls.mono (show Calls _ _ _ _ _ from HS'.out) ?_
  rintro e W ⟨g, c, rfl, hcl, hBl⟩
  have hmid := hcl (zs.length / 2) (by omega)
  rw [HMV.out] at hmid
  have hi0 : 0 ≤ (zs.length : Int) / 2 := by omega
  have hi1 : (zs.length : Int) / 2 < (zs.length : Int) := by omega
  clear hcl HV HS'
  go_wp2
  go_ret
  exact ⟨rfl, hB0.trans (hBl.mono (by simp))⟩
end Go.Proofs.Qxb6627930a
