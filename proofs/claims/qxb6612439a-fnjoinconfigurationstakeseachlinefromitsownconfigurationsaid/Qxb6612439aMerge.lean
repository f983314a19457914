/-
  Merging two rows of lines: the plain function and its laws.
-/
import Derived.Test.Qxb6612439aGive
namespace Go.Proofs.Qxb6612439a
open Go.RowKit Go.Shelf

def mergeL : List (ByteArray × ByteArray) → List (ByteArray × ByteArray) → List (ByteArray × ByteArray)
  | [], b => b
  | a, [] => a
  | x :: a, y :: b => if lessP x y then x :: mergeL a (y :: b) else y :: mergeL (x :: a) b
termination_by a b => a.length + b.length

theorem mergeL_nil_right (a : List (ByteArray × ByteArray)) : mergeL a [] = a := by cases a <;> simp [mergeL]
theorem mergeL_nil_left (b : List (ByteArray × ByteArray)) : mergeL [] b = b := by simp [mergeL]

theorem mergeL_perm (a b : List (ByteArray × ByteArray)) : (mergeL a b).Perm (a ++ b) := by
  fun_induction mergeL a b with
  | case1 b => simp
  | case2 a h => simp
  | case3 x a y b h ih => exact ih.cons x
  | case4 x a y b h ih =>
    refine (ih.cons y).trans ?_
    exact (List.perm_middle (a := y) (l₁ := x :: a) (l₂ := b)).symm

theorem less_total {x y : List UInt8} (h1 : Op.bytesLess x y = false) (h2 : x ≠ y) : Op.bytesLess y x = true := by
  have h1' : ¬ x < y := fun h => by rw [(less_lt x y).2 h] at h1; cases h1
  rw [less_lt]
  apply Classical.byContradiction
  intro h3
  exact h2 (List.le_antisymm (List.not_lt.1 h3) (List.not_lt.1 h1'))

theorem mergeL_rises (a b : List (ByteArray × ByteArray)) (ha : a.Pairwise (fun x y => lessP x y = true)) (hb : b.Pairwise (fun x y => lessP x y = true)) (hd : ∀ x ∈ a, ∀ y ∈ b, bytesOf x.1 ≠ bytesOf y.1) :
    (mergeL a b).Pairwise (fun x y => lessP x y = true) := by
  fun_induction mergeL a b with
  | case1 b => exact hb
  | case2 a h => exact ha
  | case3 x a y b h ih =>
    refine List.pairwise_cons.2 ⟨fun z hz => ?_, ih (List.pairwise_cons.1 ha).2 hb (fun p hp q hq => hd p (by simp [hp]) q hq)⟩
    have hz' := (mergeL_perm a (y :: b)).mem_iff.1 hz
    rcases List.mem_append.1 hz' with e | e
    · exact (List.pairwise_cons.1 ha).1 z e
    · rcases List.mem_cons.1 e with e | e
      · subst e; exact h
      · exact less_trans h ((List.pairwise_cons.1 hb).1 z e)
  | case4 x a y b h ih =>
    have hxy : lessP x y = false := by simpa using h
    have hyx : lessP y x = true := less_total hxy (hd x (by simp) y (by simp))
    refine List.pairwise_cons.2 ⟨fun z hz => ?_, ih ha (List.pairwise_cons.1 hb).2 (fun p hp q hq => hd p hp q (by simp [hq]))⟩
    have hz' := (mergeL_perm (x :: a) b).mem_iff.1 hz
    rcases List.mem_append.1 hz' with e | e
    · rcases List.mem_cons.1 e with e | e
      · subst e; exact hyx
      · exact less_trans hyx ((List.pairwise_cons.1 ha).1 z e)
    · exact (List.pairwise_cons.1 hb).1 z e

/-- One step of the merge, i lines of a and j of b being taken. -/
theorem mergeL_left {a b : List (ByteArray × ByteArray)} {i j : Nat} (hi : i < a.length) (h : b.length ≤ j ∨ ∃ hj : j < b.length, lessP a[i] b[j] = true) : mergeL (a.drop i) (b.drop j) = a[i] :: mergeL (a.drop (i + 1)) (b.drop j) := by
  rw [List.drop_eq_getElem_cons hi]
  rcases h with h | ⟨hj, h⟩
  · rw [List.drop_eq_nil_of_le h, mergeL_nil_right, mergeL_nil_right]
  · rw [List.drop_eq_getElem_cons hj, mergeL, if_pos h]
theorem mergeL_right {a b : List (ByteArray × ByteArray)} {i j : Nat} (hj : j < b.length) (h : a.length ≤ i ∨ ∃ hi : i < a.length, lessP a[i] b[j] = false) : mergeL (a.drop i) (b.drop j) = b[j] :: mergeL (a.drop i) (b.drop (j + 1)) := by
  rw [List.drop_eq_getElem_cons hj]
  rcases h with h | ⟨hi, h⟩
  · rw [List.drop_eq_nil_of_le h, mergeL_nil_left, mergeL_nil_left]
  · rw [List.drop_eq_getElem_cons hi, mergeL, if_neg (by rw [h]; simp)]

theorem row_line {w : World} {B cap n : Nat} {a : Option Addr} {ls : List (ByteArray × ByteArray)} (h : w.ownsRow B 34 2 (.slice a n cap) n (cellsL ls)) (hn : ls.length = n) {i : Nat} (hi : i < n) :
    ∃ g, a = some ⟨g, 0, none⟩ ∧ g < w.heap.size ∧ w.cell? ⟨g, i * 2, none⟩ = some (.string (ls[i]'(by omega)).1) ∧ w.cell? ⟨g, i * 2 + 1, none⟩ = some (.string (ls[i]'(by omega)).2) := by
  rcases ownsRow_form h with ⟨h1, h2⟩ | ⟨g, c, h1, _, _⟩
  · omega
  · simp only [Value.slice.injEq] at h1
    obtain ⟨rfl, _, rfl⟩ := h1
    have c0 := h.cellAt (i * 2) (by omega)
    have c1 := h.cellAt (i * 2 + 1) (by omega)
    rw [show i * 2 = 2 * i from Nat.mul_comm _ _, (cellsL_get ls i (by omega)).1] at c0
    rw [show i * 2 = 2 * i from Nat.mul_comm _ _, (cellsL_get ls i (by omega)).2] at c1
    rw [Nat.mul_comm i 2]
    exact ⟨g, rfl, World.block_lt_of_cell? _ _ c0, c0, c1⟩

end Go.Proofs.Qxb6612439a
