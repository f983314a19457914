/-
  THE PLAIN LAW: lines of a text, their names, and a sorted list that is a permutation of a strictly rising one; no Go in it.
-/
import Derived.Lib.Bytealg
import Derived.Lib.Strings
namespace Go.Proofs.Qxb6612439a

def splitL : List UInt8 → List (List UInt8)
  | [] => []
  | c :: cs => if c = 10 then [10] :: splitL cs else
    match splitL cs with
    | [] => [[c]]
    | l :: ls => (c :: l) :: ls

theorem splitL_nl (cs : List UInt8) : splitL (10 :: cs) = [10] :: splitL cs := by simp [splitL]

theorem splitL_join : ∀ l : List UInt8, (splitL l).flatten = l
  | [] => rfl
  | c :: cs => by
    have ih := splitL_join cs
    rw [splitL]
    by_cases h : c = 10
    · rw [if_pos h, List.flatten_cons, ih, h]; rfl
    · rw [if_neg h]
      cases hs : splitL cs with
      | nil => rw [hs] at ih; simp at ih; rw [ih]; simp
      | cons x xs => rw [hs] at ih; simp at ih ⊢; exact ih

/-- A piece without a line feed, the line feed behind it, and the rest. -/
theorem splitL_cut (r : List UInt8) : ∀ l : List UInt8, (∀ x ∈ l, x ≠ 10) → splitL (l ++ 10 :: r) = (l ++ [10]) :: splitL r
  | [], _ => by rw [List.nil_append, splitL_nl]; rfl
  | c :: l, h => by
    have hc : c ≠ 10 := h c (by simp)
    have ih := splitL_cut r l (fun x hx => h x (by simp [hx]))
    rw [List.cons_append, splitL, if_neg hc, ih]
    rfl

/-- The last piece, without a line feed. -/
theorem splitL_last : ∀ l : List UInt8, l ≠ [] → (∀ x ∈ l, x ≠ 10) → splitL l = [l]
  | [], h, _ => absurd rfl h
  | [c], _, h => by
    have hc : c ≠ 10 := h c (by simp)
    rw [splitL, if_neg hc]
    rfl
  | c :: d :: l, _, h => by
    have hc : c ≠ 10 := h c (by simp)
    have ih := splitL_last (d :: l) (by simp) (fun x hx => h x (by simp at hx ⊢; right; exact hx))
    rw [splitL, if_neg hc, ih]

theorem splitL_length : ∀ l : List UInt8, (splitL l).length ≤ l.length
  | [] => by simp [splitL]
  | c :: cs => by
    have ih := splitL_length cs
    rw [splitL]
    split
    · simp; omega
    · split
      · simp
      · rename_i h; rw [h] at ih; simp at ih ⊢; omega

/-- A line's name: all before its first blank. -/
def nameL (l : List UInt8) : List UInt8 := l.takeWhile (· != 32)

/-- 'less' on lists of bytes, as strings.Compare and '<' have it. -/
theorem cmp_less : ∀ a b : List UInt8, Lib.compareBytes a b < 0 ↔ Op.bytesLess a b = true
  | [], [] => by simp [Lib.compareBytes, Op.bytesLess]
  | [], _ :: _ => by simp [Lib.compareBytes, Op.bytesLess]
  | _ :: _, [] => by simp [Lib.compareBytes, Op.bytesLess]
  | a :: x, b :: y => by
    rw [Lib.compareBytes, Op.bytesLess]
    by_cases h1 : a < b
    · simp [h1]
    · by_cases h2 : b < a
      · have h3 : a ≠ b := by intro e; subst e; exact h1 h2
        simp [h1, h2, h3]
      · have h3 : a = b := UInt8.toNat_inj.1 (by rw [UInt8.lt_iff_toNat_lt] at h1 h2; omega)
        subst h3
        simp [h1, cmp_less x y]

theorem less_lt : ∀ a b : List UInt8, Op.bytesLess a b = true ↔ a < b
  | [], [] => by simp [Op.bytesLess]
  | [], _ :: _ => by simp [Op.bytesLess]
  | _ :: _, [] => by simp [Op.bytesLess]
  | a :: x, b :: y => by
    rw [Op.bytesLess, List.cons_lt_cons_iff]
    simp [less_lt x y]

theorem less_trans {a b c : List UInt8} (h1 : Op.bytesLess a b = true) (h2 : Op.bytesLess b c = true) : Op.bytesLess a c = true :=
  (less_lt a c).2 (List.lt_trans ((less_lt a b).1 h1) ((less_lt b c).1 h2))
theorem less_irrefl (a : List UInt8) : Op.bytesLess a a = false := by
  cases h : Op.bytesLess a a
  · rfl
  · exact absurd ((less_lt a a).1 h) (List.lt_irrefl a)
theorem less_ntrans {a b c : List UInt8} (h1 : Op.bytesLess a b = false) (h2 : Op.bytesLess b c = false) : Op.bytesLess a c = false := by
  cases h : Op.bytesLess a c
  · rfl
  · have h1' : ¬ a < b := fun x => by rw [(less_lt a b).2 x] at h1; cases h1
    have h2' : ¬ b < c := fun x => by rw [(less_lt b c).2 x] at h2; cases h2
    rw [List.not_lt] at h1' h2'
    exact absurd ((less_lt a c).1 h) (List.not_lt.2 (List.le_trans h2' h1'))

/-- A sorted list that is a permutation of a strictly rising one is that one. -/
theorem sorted_unique {α : Type} (lt : α → α → Bool) : ∀ (d d' : List α), d.Pairwise (fun x y => lt x y = true) → d'.Pairwise (fun x y => lt y x = false) → d'.Perm d → d' = d
  | [], d', _, _, hp => hp.eq_nil
  | x :: xs, [], _, _, hp => absurd hp.symm (by simp)
  | x :: xs, y :: ys, hs, hs', hp => by
    have hxy : y = x := by
      apply Classical.byContradiction
      intro hne
      have hx : x ∈ y :: ys := hp.mem_iff.2 (by simp)
      have hy : y ∈ x :: xs := hp.mem_iff.1 (by simp)
      have hx' : x ∈ ys := by
        rcases List.mem_cons.1 hx with e | e
        · exact absurd e.symm hne
        · exact e
      have hy' : y ∈ xs := by
        rcases List.mem_cons.1 hy with e | e
        · exact absurd e hne
        · exact e
      have h1 := (List.pairwise_cons.1 hs).1 y hy'
      have h2 := (List.pairwise_cons.1 hs').1 x hx'
      rw [h1] at h2
      cases h2
    subst hxy
    rw [sorted_unique lt xs ys (List.pairwise_cons.1 hs).2 (List.pairwise_cons.1 hs').2 ((List.perm_cons _).1 hp)]

/-- Each rises above the one before it. -/
def risesB : List (List UInt8) → Bool
  | a :: b :: l => Op.bytesLess a b && risesB (b :: l)
  | _ => true

theorem rises_pairwise : ∀ l : List (List UInt8), risesB l = true → l.Pairwise (fun x y => Op.bytesLess x y = true)
  | [], _ => .nil
  | [a], _ => by simp
  | a :: b :: l, h => by
    rw [risesB, Bool.and_eq_true] at h
    have ih := rises_pairwise (b :: l) h.2
    refine List.pairwise_cons.2 ⟨fun x hx => ?_, ih⟩
    rcases List.mem_cons.1 hx with e | e
    · rw [e]; exact h.1
    · exact less_trans h.1 ((List.pairwise_cons.1 ih).1 x e)

theorem rises_iff (l : List (List UInt8)) : risesB l = true ↔ ∀ i, i + 1 < l.length → Op.bytesLess (l[i]?.getD []) (l[i + 1]?.getD []) = true := by
  match l with
  | [] => simp [risesB]
  | [a] => simp [risesB]
  | a :: b :: l =>
    rw [risesB, Bool.and_eq_true, rises_iff (b :: l)]
    constructor
    · rintro ⟨h1, h2⟩ i hi
      cases i with
      | zero => simpa using h1
      | succ i => simpa using h2 i (by simpa using hi)
    · intro h
      exact ⟨by simpa using h 0 (by simp), fun i hi => by simpa using h (i + 1) (by simpa using hi)⟩

end Go.Proofs.Qxb6612439a
