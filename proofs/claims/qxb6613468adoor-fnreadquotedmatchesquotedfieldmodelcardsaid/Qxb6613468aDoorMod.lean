/-
  For the law FnReadQuotedMatchesQuotedFieldModel (3): the lines of a text, plain; rq byte by byte; a slice of lines that grows.
-/
import Derived.Test.Qxb6613468aDoorLawB
namespace Go.Proofs.Qxb6613468aDoor
open Go.RowKit

/-- The lines of a text, each without its line feed and one carriage return. -/
def linesOf (rem : List UInt8) : List (List UInt8) :=
  if _h : rem = [] then [] else dropEnd 13 (lineOf rem) :: linesOf (restOf rem)
termination_by rem.length
decreasing_by exact restOf_len _h

theorem linesOf_nil : linesOf [] = [] := by rw [linesOf, dif_pos rfl]
theorem linesOf_more {rem : List UInt8} (h : rem ≠ []) : linesOf rem = dropEnd 13 (lineOf rem) :: linesOf (restOf rem) := by rw [linesOf, dif_neg h]
theorem linesOf_nl {x r : List UInt8} (h : (10 : UInt8) ∉ x) : linesOf (x ++ 10 :: r) = dropEnd 13 x :: linesOf r := by
  rw [linesOf_more (by simp), (line_nl h).1, (line_nl h).2]
theorem line_last {x : List UInt8} (h : (10 : UInt8) ∉ x) : lineOf x = x ∧ restOf x = [] := by
  unfold lineOf restOf
  induction x with
  | nil => simp
  | cons a x ih =>
    have ha : a ≠ 10 := fun e => h (by simp [e])
    have ih := ih (fun e => h (by simp [e]))
    simp only [List.takeWhile_cons, List.dropWhile_cons]
    simp [ha]
    simpa using ih
theorem linesOf_last {x : List UInt8} (h : (10 : UInt8) ∉ x) (hx : x ≠ []) : linesOf x = [dropEnd 13 x] := by
  rw [linesOf_more hx, (line_last h).1, (line_last h).2, linesOf_nil]
theorem linesOf_len (rem : List UInt8) : (linesOf rem).length ≤ rem.length ∧ ∀ l ∈ linesOf rem, l.length ≤ rem.length := by
  fun_induction linesOf rem with
  | case1 => simp
  | case2 rem h ih =>
    have h1 := restOf_len h
    have h2 := lineOf_len rem
    have h3 := dropEnd_len 13 (lineOf rem)
    refine ⟨by simp; omega, fun l hl => ?_⟩
    rcases List.mem_cons.1 hl with rfl | hl
    · omega
    · have := ih.2 l hl; omega

theorem rq_byte {c : UInt8} {l rem : List UInt8} (h : c ≠ 34) : rq (c :: l) rem = (c :: (rq l rem).1, (rq l rem).2.1, (rq l rem).2.2) := by
  rcases idx_cases l 34 with ⟨_, hq⟩ | ⟨o, _, _, hsp, hno⟩
  · have hq' : (34 : UInt8) ∉ c :: l := by simp [hq, Ne.symm h]
    by_cases hr : rem = []
    · rw [rq_none hq' hr, rq_none hq hr]; rfl
    · rw [rq_more hq' hr, rq_more hq hr]; rfl
  · have hp' : (34 : UInt8) ∉ c :: l.take o := by simp [hno, Ne.symm h]
    generalize l.take o = pre at *
    generalize l.drop (o + 1) = post at *
    subst hsp
    cases post with
    | nil => rw [← List.cons_append, rq_end hp', rq_end hno]
    | cons d post =>
      rw [← List.cons_append, rq_cons hp', rq_cons hno]
      split
      · rfl
      · split
        · rfl
        · rfl
theorem rq_two {l rem : List UInt8} : rq (34 :: 34 :: l) rem = (34 :: (rq l rem).1, (rq l rem).2.1, (rq l rem).2.2) := by
  have h := rq_cons (pre := []) (post := l) (rem := rem) (c := 34) (by simp)
  rw [if_pos rfl] at h
  exact h
theorem rq_shut {rem : List UInt8} : rq [34] rem = ([], some [], 0) := rq_end (pre := []) (by simp)
theorem rq_comma {l rem : List UInt8} : rq (34 :: 44 :: l) rem = ([], some (44 :: l), 0) := by
  have h := rq_cons (pre := []) (post := l) (rem := rem) (c := 44) (by simp)
  rw [if_neg (by decide), if_pos rfl] at h
  exact h
theorem rq_bad {c : UInt8} {l rem : List UInt8} (h1 : c ≠ 34) (h2 : c ≠ 44) : rq (34 :: c :: l) rem = ([], none, 0) := by
  have h := rq_cons (pre := []) (post := l) (rem := rem) (c := c) (by simp)
  rw [if_neg h1, if_neg h2] at h
  exact h
theorem rq_over : rq [] [] = ([10], none, 0) := rq_none (by simp) rfl
theorem rq_next {rem : List UInt8} (h : rem ≠ []) : rq [] rem = (10 :: (rq (dropEnd 13 (lineOf rem)) (restOf rem)).1, (rq (dropEnd 13 (lineOf rem)) (restOf rem)).2.1, (rq (dropEnd 13 (lineOf rem)) (restOf rem)).2.2 + 1) := rq_more (by simp) h

/-! ### a slice of lines -/
theorem Tryd.info22 : (Tryd.prog.info? 22).map (fun i => (i.zero, i.size, i.bytes)) = some (some (.slice none 0 0), 1, 24) := by kernel_rfl
theorem run_append_line {w : World} {ty : TypeId} {B n : Nat} {v x : Value} {xs : List Value} (hown : w.ownsRow B 22 1 v n xs) (hx : x.oneCell' = true) (hb : n ≤ 1000000) (hB : B ≤ w.heap.size) :
    ∃ v' w', (Builtin.append_ #[39, 39] ty #[v, .slice (some ⟨w.heap.size, 0, none⟩) 1 1]).run Tryd.prog (w.alloc (.cells #[x] 22)) = .ok v' w' ∧ w'.ownsRow B 22 1 v' (n + 1) (xs ++ [x]) ∧ (w.alloc (.cells #[x] 22)).grownBy w' v.ownBlock := by
  obtain ⟨i0, hi0, hz0, hz1, hz2⟩ := info_parts Tryd.info22
  obtain ⟨v', w', h1, h2, h3, _⟩ := run_append_own (P := Tryd.prog) (w.alloc (.cells #[x] 22)) B 39 ty 22 i0 _ 1 24 Tryd.underlying39 hi0 hz0 hz1 hz2 rfl (by decide) v n xs (hown.alloc _) ⟨w.heap.size, 0, none⟩ 1 1 [x] (by simp)
    (fun j u hu => by
      have hj : j = 0 := by have := (List.getElem?_eq_some_iff.1 hu).1; simp at this; omega
      subst hj
      rw [Go.Addr.add_lit, cell_of_row _ w.heap.size _ _ _ _ (heap_alloc_new w _)]
      simpa using hu) (by simpa using hx) (by unfold maxLen; omega) (by omega) (Nat.le_trans hB (by simp))
  exact ⟨v', w', h1, h2, h3⟩
theorem wpList_append_line {w : World} {ops : Array Oper} {rest : List Oper} {o : Oper} {a : Act} {Q : Exit → Act → World → Prop} (hgd : o.guard = none) (s y : Operand)
    (ho : o.op = .call { callee := .builtin .append, args := #[s, y], argTypes := #[39, 39] }) (B n : Nat) (v x : Value) (xs : List Value) (hs : a.eval s = v) (hx : a.eval y = .slice (some ⟨w.heap.size, 0, none⟩) 1 1) (hown : w.ownsRow B 22 1 v n xs) (h1 : x.oneCell' = true) (hb : n ≤ 1000000) (hB : B ≤ w.heap.size)
    (h : ∀ v' w', w'.ownsRow B 22 1 v' (n + 1) (xs ++ [x]) → (w.alloc (.cells #[x] 22)).grownBy w' v.ownBlock → wpList Tryd.prog ops Q rest (a.put o.dst v') w') :
    wpList Tryd.prog ops Q (o :: rest) a (w.alloc (.cells #[x] 22)) := by
  refine wpList_plain hgd fun K hK => ?_
  obtain ⟨v', w', hr, h2, h3⟩ := run_append_line (ty := o.type) hown h1 hb hB
  unfold Oper.wp execOp
  simp only [ho, resolve, invoke, builtin, Sem.run_bind, Sem.run_pure, Result.andThen_ok, List.map_toArray, List.map_cons, List.map_nil, hs, hx, hr]
  exact hK _ _ (h v' w' h2 h3)

/-- The lines lie in the world, at the values. -/
def Lines (w : World) (vals : List Value) (ls : List (List UInt8)) : Prop := vals.length = ls.length ∧ ∀ i (h : i < vals.length) (h' : i < ls.length), RowB w vals[i] ls[i]
theorem Lines.nil (w : World) : Lines w [] [] := ⟨rfl, fun i h => by simp at h⟩
theorem RowB.grownBy {w w' : World} {v : Value} {l : List UInt8} {row : Option Nat} (h : RowB w v l) (hg : w.grownBy w' row) (hne : ∀ k, blockOf v = some k → some k ≠ row) : RowB w' v l := by
  have hlt := h.lt
  rcases h with h | ⟨b, off, cap, rfl, h2, cur, fr, h3, h4⟩
  · exact .inl h
  · exact .inr ⟨b, off, cap, rfl, h2, cur, fr, (hg.block b (hlt b rfl) (hne b rfl)).trans h3, h4⟩
theorem Lines.grownBy {w w' : World} {vals : List Value} {ls : List (List UInt8)} {row : Option Nat} (h : Lines w vals ls) (hg : w.grownBy w' row) (hne : ∀ v ∈ vals, ∀ k, blockOf v = some k → some k ≠ row) : Lines w' vals ls :=
  ⟨h.1, fun i h1 h2 => (h.2 i h1 h2).grownBy hg (hne _ (List.getElem_mem h1))⟩
theorem Lines.snoc {w : World} {vals : List Value} {ls : List (List UInt8)} {v : Value} {l : List UInt8} (h : Lines w vals ls) (hv : RowB w v l) : Lines w (vals ++ [v]) (ls ++ [l]) := by
  refine ⟨by simp [h.1], fun i h1 h2 => ?_⟩
  by_cases hi : i < vals.length
  · have hi' : i < ls.length := by rw [← h.1]; exact hi
    rw [List.getElem_append_left hi, List.getElem_append_left hi']
    exact h.2 i hi hi'
  · have e : i = vals.length := by simp at h1; omega
    subst e
    have e2 : (ls ++ [l])[vals.length] = l := by simp [h.1]
    rw [e2]
    simpa using hv
/-- A line's row is not the row of the lines. -/
theorem row_ne_own {w : World} {B n : Nat} {v x : Value} {xs : List Value} {l : List UInt8} (h : RowB w x l) (ho : w.ownsRow B 22 1 v n xs) : ∀ k, blockOf x = some k → some k ≠ v.ownBlock := by
  intro k hk e
  rcases h with ⟨rfl, _⟩ | ⟨b, off, cap, rfl, _, cur, fr, h3, _⟩
  · cases hk
  · cases hk
    rcases ho.2 with ⟨rfl, _⟩ | ⟨g, cap', cur', rfl, _, hg, _⟩
    · cases e
    · have : b = g := Option.some.inj e
      subst this
      rw [hg] at h3
      simp at h3
theorem row_oneCell {w : World} {v : Value} {l : List UInt8} (h : RowB w v l) : v.oneCell' = true := by
  obtain ⟨a, cap, rfl⟩ := h.slice
  rfl
theorem own_slice22 {w : World} {B n : Nat} {v : Value} {xs : List Value} (h : w.ownsRow B 22 1 v n xs) : ∃ a c, v = .slice a n c := by
  rcases h.2 with ⟨rfl, rfl⟩ | ⟨g, cap, cur, rfl, _⟩
  · exact ⟨_, _, rfl⟩
  · exact ⟨_, _, rfl⟩
theorem bl_own {v : Value} : blockOf v = v.ownBlock := by
  cases v <;> rfl

end Go.Proofs.Qxb6613468aDoor
