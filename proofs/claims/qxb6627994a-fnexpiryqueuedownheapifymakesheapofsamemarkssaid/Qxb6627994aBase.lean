/-
  SEAT b6627994a: words for worlds: 'Frm P w w'': all blocks of w but those in P are as they were in w'. No program in this text.
-/
import Derived.Test.Qxb6627994aPlain
import Derived.Deep.OwnRows
import Derived.Below
import Derived.Deep.Draws
namespace Go.Proofs.Qxb6627994a
open Go.RowKit Go.Deep

/-- Of the blocks that w had, only those in P may have turned; new blocks may have come. -/
structure Frm (P : Nat → Prop) (w w' : World) : Prop where
  os : w'.os = w.os
  tape : w'.tape = w.tape
  output : w'.output = w.output
  size : w.heap.size ≤ w'.heap.size
  block : ∀ k, k < w.heap.size → ¬ P k → w'.heap[k]? = w.heap[k]?

namespace Frm
variable {P Q : Nat → Prop} {w w' w'' : World}
theorem refl (P : Nat → Prop) (w : World) : Frm P w w := ⟨rfl, rfl, rfl, Nat.le_refl _, fun _ _ _ => rfl⟩
theorem trans (h : Frm P w w') (k : Frm P w' w'') : Frm P w w'' :=
  ⟨k.os.trans h.os, k.tape.trans h.tape, k.output.trans h.output, Nat.le_trans h.size k.size,
    fun i hi hp => (k.block i (Nat.lt_of_lt_of_le hi h.size) hp).trans (h.block i hi hp)⟩
theorem mono (h : Frm P w w') (hPQ : ∀ k, k < w.heap.size → P k → Q k) : Frm Q w w' :=
  ⟨h.os, h.tape, h.output, h.size, fun k hk hq => h.block k hk (fun hp => hq (hPQ k hk hp))⟩
theorem drew (h : Frm P w w') : Frm P w w'.drew := ⟨h.os, h.tape, h.output, h.size, h.block⟩
theorem drewN (h : Frm P w w') (n : Nat) : Frm P w (w'.drewN n) := ⟨h.os, h.tape, h.output, h.size, h.block⟩
theorem alloc (h : Frm P w w') (o : Obj) : Frm P w (w'.alloc o) :=
  h.trans ⟨rfl, rfl, rfl, by rw [nblk_alloc]; omega, fun k hk _ => blk_alloc_lt _ _ _ hk⟩
theorem setCell (h : Frm P w w') {a : Addr} (ha : P a.block ∨ w.heap.size ≤ a.block) (v : Value) : Frm P w (w'.setCell a v) :=
  ⟨h.os, h.tape, h.output, by rw [nblk_setCell]; exact h.size, fun k hk hp => by
    rw [blk_setCell_other _ _ _ _ (by rintro rfl; rcases ha with ha | ha; exact hp ha; omega)]
    exact h.block k hk hp⟩
theorem row (h : Frm P w w') {b : Nat} {t : TypeId} {n : Nat} {f : Nat → Value} (r : w.rowIs b t n f) (hb : ¬ P b) : w'.rowIs b t n f :=
  r.of_block (h.block b r.lt hb)
theorem cell (h : Frm P w w') {a : Addr} (ha : a.block < w.heap.size) (hb : ¬ P a.block) : w'.cell? a = w.cell? a :=
  World.cell?_of_block (w := w) (h.block _ ha hb)
theorem below {B : Nat} (h : Frm P w w') (hB : B ≤ w.heap.size) (hP : ∀ k, P k → B ≤ k) : Below B w w' :=
  ⟨h.os, h.tape, h.output, h.size, fun k hk => h.block k (by omega) (fun hp => by have := hP k hp; omega)⟩
theorem ofBelow {B : Nat} (h : Below B w w') : Frm (fun k => B ≤ k) w w' :=
  ⟨h.os, h.tape, h.output, h.size, fun k _ hp => h.block k (by omega)⟩
end Frm

/-- Nothing that was there has turned. -/
def Non : Nat → Prop := fun _ => False
/-- An int64 or int row's content. -/
def ints (D : Nat → Int) : Nat → Value := fun i => .int .i64 (D i)
theorem ints_apply (D : Nat → Int) (i : Nat) : ints D i = .int .i64 (D i) := rfl
theorem cell_of_int {w : World} {b : Nat} {t : TypeId} {n : Nat} {D : Nat → Int} (h : w.rowIs b t n (ints D)) : ∀ i, i < n → w.cell? ⟨b, i, none⟩ = some (.int .i64 (D i)) :=
  fun _ hi => h.cell hi
/-- One cell more is filled. -/
theorem ints_step {w : World} {b : Nat} {t : TypeId} {n k : Nat} {D : Nat → Int} (h : w.rowIs b t n (ints fun i => if i < k then D i else 0)) :
    (w.setCell ⟨b, k, none⟩ (.int .i64 (D k))).rowIs b t n (ints fun i => if i < k + 1 then D i else 0) :=
  (h.set k _).congr fun i _ => by
    simp only [ints]
    by_cases e : i = k
    · subst e; simp
    · rw [if_neg e]
      by_cases hlt : i < k
      · rw [if_pos hlt, if_pos (by omega)]
      · rw [if_neg hlt, if_neg (by omega)]
theorem ints_upd {w : World} {b : Nat} {t : TypeId} {n : Nat} {D : Nat → Int} (h : w.rowIs b t n (ints D)) (i : Nat) (v : Int) :
    (w.setCell ⟨b, i, none⟩ (.int .i64 v)).rowIs b t n (ints (upd D i v)) :=
  (h.set i _).congr fun j _ => by
    simp only [ints, upd]; split <;> rfl
/-- The marks' row: two cells a mark. -/
def mrk (D S : Nat → Int) : Nat → Value := fun j => if j % 2 = 0 then .int .i64 (D (j / 2)) else .int .i64 (S (j / 2))
theorem mrk_even (D S : Nat → Int) (i : Nat) : mrk D S (i * 2) = .int .i64 (D i) := by
  unfold mrk; rw [if_pos (by omega), show i * 2 / 2 = i from by omega]
theorem mrk_odd (D S : Nat → Int) (i : Nat) : mrk D S (i * 2 + 1) = .int .i64 (S i) := by
  unfold mrk; rw [if_neg (by omega), show (i * 2 + 1) / 2 = i from by omega]
theorem mrk_upd {w : World} {b : Nat} {t : TypeId} {n : Nat} {D S : Nat → Int} (h : w.rowIs b t n (mrk D S)) (i : Nat) (d s : Int) :
    ((w.setCell ⟨b, i * 2, none⟩ (.int .i64 d)).setCell ⟨b, i * 2 + 1, none⟩ (.int .i64 s)).rowIs b t n (mrk (upd D i d) (upd S i s)) :=
  ((h.set (i * 2) _).set (i * 2 + 1) _).congr fun j _ => by
    by_cases e1 : j = i * 2 + 1
    · rw [if_pos e1, e1, mrk_odd]; simp [upd]
    · rw [if_neg e1]
      by_cases e0 : j = i * 2
      · rw [if_pos e0, e0, mrk_even]; simp [upd]
      · rw [if_neg e0]
        simp only [mrk, upd]
        by_cases e2 : j % 2 = 0
        · rw [if_pos e2, if_pos e2, if_neg (by omega)]
        · rw [if_neg e2, if_neg e2, if_neg (by omega)]
theorem mrk_congr {D D' S S' : Nat → Int} {n j : Nat} (hD : ∀ i, i < n → D i = D' i) (hS : ∀ i, i < n → S i = S' i) (hj : j < n * 2) : mrk D S j = mrk D' S' j := by
  unfold mrk; rw [hD (j / 2) (by omega), hS (j / 2) (by omega)]
theorem upd_fill (D : Nat → Int) (k i : Nat) : upd (fun i => if i < k then D i else 0) k (D k) i = if i < k + 1 then D i else 0 := by
  simp only [upd]
  by_cases e : i = k
  · subst e; simp
  · rw [if_neg e]
    by_cases hlt : i < k
    · rw [if_pos hlt, if_pos (by omega)]
    · rw [if_neg hlt, if_neg (by omega)]
theorem mrk_step {w : World} {b : Nat} {t : TypeId} {n k : Nat} {D S : Nat → Int} (h : w.rowIs b t (n * 2) (mrk (fun i => if i < k then D i else 0) (fun i => if i < k then S i else 0))) :
    ((w.setCell ⟨b, k * 2, none⟩ (.int .i64 (D k))).setCell ⟨b, k * 2 + 1, none⟩ (.int .i64 (S k))).rowIs b t (n * 2) (mrk (fun i => if i < k + 1 then D i else 0) (fun i => if i < k + 1 then S i else 0)) :=
  (mrk_upd h k (D k) (S k)).congr fun _ hj => mrk_congr (fun i _ => upd_fill D k i) (fun i _ => upd_fill S k i) hj
/-- The marks as pairs. -/
def mrkP (P : Nat → Int × Int) : Nat → Value := mrk (fun i => (P i).1) (fun i => (P i).2)
theorem mrkP_even (P : Nat → Int × Int) (i : Nat) : mrkP P (i * 2) = .int .i64 (P i).1 := mrk_even _ _ i
theorem mrkP_odd (P : Nat → Int × Int) (i : Nat) : mrkP P (i * 2 + 1) = .int .i64 (P i).2 := mrk_odd _ _ i
theorem upd_fst (P : Nat → Int × Int) (i : Nat) (m : Int × Int) : (fun j => (upd P i m j).1) = upd (fun j => (P j).1) i m.1 := by
  funext j; simp only [upd]; split <;> rfl
theorem upd_snd (P : Nat → Int × Int) (i : Nat) (m : Int × Int) : (fun j => (upd P i m j).2) = upd (fun j => (P j).2) i m.2 := by
  funext j; simp only [upd]; split <;> rfl
theorem mrkP_upd {w : World} {b : Nat} {t : TypeId} {n : Nat} {P : Nat → Int × Int} (h : w.rowIs b t n (mrkP P)) (i : Nat) (m : Int × Int) :
    ((w.setCell ⟨b, i * 2, none⟩ (.int .i64 m.1)).setCell ⟨b, i * 2 + 1, none⟩ (.int .i64 m.2)).rowIs b t n (mrkP (upd P i m)) := by
  unfold mrkP; rw [upd_fst, upd_snd]; exact mrk_upd h i m.1 m.2
theorem cell_set1 (w : World) (a : Addr) (v : Value) (b o : Nat) (h : b ≠ a.block) : (w.setCell a v).cell? ⟨b, o, none⟩ = w.cell? ⟨b, o, none⟩ :=
  World.cell?_of_block (w := w) (blk_setCell_other _ _ _ _ h)
theorem cell_set2 (w : World) (q mb i j : Nat) (u v : Value) (b o : Nat) (h : b ≠ mb) :
    (((w.drewN q).setCell ⟨mb, i, none⟩ u).setCell ⟨mb, j, none⟩ v).cell? ⟨b, o, none⟩ = w.cell? ⟨b, o, none⟩ := by
  rw [cell_set1 _ _ _ _ _ h, cell_set1 _ _ _ _ _ h]; rfl
theorem ret_int {k : IntKind} {a b : Int} (h : a = b) : Ending.returned (.int k a) = .returned (.int k b) := by rw [h]
theorem ret_bool {a b : Bool} (h : a = b) : Ending.returned (.bool a) = .returned (.bool b) := by rw [h]
end Go.Proofs.Qxb6627994a
