/-
  THE PLAIN FUNCTION of readQuoted.
-/
import Derived.Test.Qxb6613468aDoorLn2
namespace Go.Proofs.Qxb6613468aDoor
open Go.RowKit

theorem restOf_len {rem : List UInt8} (h : rem ≠ []) : (restOf rem).length < rem.length := by
  cases rem with
  | nil => exact absurd rfl h
  | cons a r =>
    unfold restOf
    have h1 : ((a :: r).dropWhile (· != 10)).length ≤ (a :: r).length := (List.dropWhile_sublist _).length_le
    rw [List.length_drop]
    have : 0 < (a :: r).length := by simp
    omega
theorem lineOf_len (rem : List UInt8) : (lineOf rem).length ≤ rem.length := (List.takeWhile_sublist _).length_le

/-- A quoted field read from the line on: the text that is appended; the rest of the line where it closes (none: refused); the lines read. -/
def rq (line rem : List UInt8) : List UInt8 × Option (List UInt8) × Nat :=
  if _hq : (34 : UInt8) ∈ line then
    (match _hp : (line.dropWhile (· != 34)).drop 1 with
    | [] => (line.takeWhile (· != 34), some [], 0)
    | c :: post =>
      if c = 34 then ((line.takeWhile (· != 34)) ++ 34 :: (rq post rem).1, (rq post rem).2.1, (rq post rem).2.2)
      else if c = 44 then (line.takeWhile (· != 34), some (c :: post), 0)
      else (line.takeWhile (· != 34), none, 0))
  else if _hr : rem = [] then (line ++ [10], none, 0)
  else (line ++ 10 :: (rq (dropEnd 13 (lineOf rem)) (restOf rem)).1, (rq (dropEnd 13 (lineOf rem)) (restOf rem)).2.1, (rq (dropEnd 13 (lineOf rem)) (restOf rem)).2.2 + 1)
termination_by (rem.length, line.length)
decreasing_by
  · apply Prod.Lex.right
    have h1 : (line.dropWhile (· != 34)).length ≤ line.length := (List.dropWhile_sublist _).length_le
    have h2 := congrArg List.length _hp
    rw [List.length_drop, List.length_cons] at h2
    omega
  · apply Prod.Lex.left
    exact restOf_len _hr

theorem rq_none {line rem : List UInt8} (h : (34 : UInt8) ∉ line) (hr : rem = []) : rq line rem = (line ++ [10], none, 0) := by
  rw [rq, dif_neg h, dif_pos hr]
theorem rq_more {line rem : List UInt8} (h : (34 : UInt8) ∉ line) (hr : rem ≠ []) : rq line rem = (line ++ 10 :: (rq (dropEnd 13 (lineOf rem)) (restOf rem)).1, (rq (dropEnd 13 (lineOf rem)) (restOf rem)).2.1, (rq (dropEnd 13 (lineOf rem)) (restOf rem)).2.2 + 1) := by
  rw [rq, dif_neg h, dif_neg hr]
theorem split34 {pre post : List UInt8} (h : (34 : UInt8) ∉ pre) : (pre ++ 34 :: post).takeWhile (· != 34) = pre ∧ ((pre ++ 34 :: post).dropWhile (· != 34)).drop 1 = post := by
  induction pre with
  | nil => simp
  | cons a x ih =>
    have ha : a ≠ 34 := fun e => h (by simp [e])
    have ih := ih (fun e => h (by simp [e]))
    simp only [List.cons_append, List.takeWhile_cons, List.dropWhile_cons]
    simp [ha]
    simpa using ih
theorem rq_end {pre rem : List UInt8} (h : (34 : UInt8) ∉ pre) : rq (pre ++ [34]) rem = (pre, some [], 0) := by
  have hs := split34 (post := []) h
  rw [rq, dif_pos (by simp)]
  split
  · rw [hs.1]
  · rename_i c post hp
    rw [hs.2] at hp
    cases hp
theorem rq_cons {pre post rem : List UInt8} {c : UInt8} (h : (34 : UInt8) ∉ pre) : rq (pre ++ 34 :: c :: post) rem = if c = 34 then (pre ++ 34 :: (rq post rem).1, (rq post rem).2.1, (rq post rem).2.2) else if c = 44 then (pre, some (c :: post), 0) else (pre, none, 0) := by
  have hs := split34 (post := c :: post) h
  rw [rq, dif_pos (by simp)]
  split
  · rename_i hp
    rw [hs.2] at hp
    cases hp
  · rename_i c' post' hp
    rw [hs.2] at hp
    cases hp
    rw [hs.1]

end Go.Proofs.Qxb6613468aDoor
