/-
  Plain words for the law (4).
-/
import Derived.Test.Qxb6613468aDoorLawA
namespace Go.Proofs.Qxb6613468aDoor
open Go.RowKit

theorem copied_row {w2 : World} {B n : Nat} {cur : List Value} {l : List UInt8} (hn : l.length = n) (hc : cur.length = n) (h : w2.heap[B]? = some (.cells (splice cur 0 (Lib.byteCells l)).toArray 5 (0, 0))) :
    RowB w2 (.slice (some ⟨B, 0, none⟩) n n) l := by
  have e : splice cur 0 (Lib.byteCells l) = Lib.byteCells l := by
    unfold splice
    rw [List.drop_eq_nil_of_le (by rw [Lib.byteCells_length]; omega)]
    simp
  rw [e] at h
  exact .inr ⟨B, 0, n, by rw [hn], by omega, _, _, h, fun i hi => by simp [Lib.byteCells, hi]⟩

theorem rq_join {la bb cc : List UInt8} (h34 : (34 : UInt8) ∉ la) (h10 : (10 : UInt8) ∉ bb) : rq la (bb ++ 10 :: cc) = (la ++ 10 :: (rq (dropEnd 13 bb) cc).1, (rq (dropEnd 13 bb) cc).2.1, (rq (dropEnd 13 bb) cc).2.2 + 1) := by
  rw [rq_more h34 (by simp)]
  obtain ⟨h1, h2⟩ := line_nl (r := cc) h10
  rw [h1, h2]

theorem Sen.up {w : World} {B B' : Nat} {a0 a1 a2 : Addr} (h : Sen w B a0 a1 a2) (hB : B ≤ B') : Sen w B' a0 a1 a2 := ⟨h.g0, h.g1, h.g2, h.h0, h.h1, h.h2, h.n01, h.n12, by obtain ⟨l0, l1, l2, l3⟩ := h.lt; exact ⟨by omega, by omega, by omega, by omega⟩⟩
theorem RowB.eqh {w w' : World} {v : Value} {l : List UInt8} (h : RowB w v l) (he : w'.heap = w.heap) : RowB w' v l := by
  rcases h with h | ⟨b, off, cap, rfl, h2, cur, fr, h3, h4⟩
  · exact .inl h
  · exact .inr ⟨b, off, cap, rfl, h2, cur, fr, by rw [he]; exact h3, h4⟩
theorem cat_bytes (b c : ByteArray) : bytesOf (b ++ (⟨#[10]⟩ : ByteArray) ++ c) = bytesOf b ++ 10 :: bytesOf c := by
  unfold bytesOf
  simp [ByteArray.data_append]

/-- The text and the lines are bounded by what is read. -/
theorem rq_bound (line rem : List UInt8) : (rq line rem).1.length ≤ line.length + 2 * rem.length + 1 ∧ (rq line rem).2.2 ≤ rem.length := by
  fun_induction rq line rem with
  | case1 line rem _ _ =>
    have h1 : (line.takeWhile (· != 34)).length ≤ line.length := (List.takeWhile_sublist _).length_le
    simp only
    omega
  | case2 line rem _ post hp ih =>
    have h1 := congrArg List.length (List.takeWhile_append_dropWhile (p := (· != (34 : UInt8))) (l := line))
    have h2 := congrArg List.length hp
    rw [List.length_append] at h1
    rw [List.length_drop, List.length_cons] at h2
    simp only [List.length_append, List.length_cons]
    omega
  | case3 line rem _ _ _ _ =>
    have h1 : (line.takeWhile (· != 34)).length ≤ line.length := (List.takeWhile_sublist _).length_le
    simp only
    omega
  | case4 line rem _ _ _ _ _ _ =>
    have h1 : (line.takeWhile (· != 34)).length ≤ line.length := (List.takeWhile_sublist _).length_le
    simp only
    omega
  | case5 line _ => simp
  | case6 line rem _ hr ih =>
    have h1 := line_rest rem
    have h2 := restOf_len hr
    have h3 := dropEnd_len 13 (lineOf rem)
    simp only [List.length_append, List.length_cons]
    omega
theorem rq_tail (line rem : List UInt8) : ∀ tl, (rq line rem).2.1 = some tl → tl.length ≤ line.length + rem.length := by
  fun_induction rq line rem with
  | case1 line rem _ _ => intro tl h; simp at h; subst h; simp
  | case2 line rem _ post hp ih =>
    intro tl h
    have h0 := ih tl h
    have h1 : (line.dropWhile (· != 34)).length ≤ line.length := (List.dropWhile_sublist _).length_le
    have h2 := congrArg List.length hp
    rw [List.length_drop, List.length_cons] at h2
    omega
  | case3 line rem _ post hp _ =>
    intro tl h
    simp at h
    subst h
    have h1 : (line.dropWhile (· != 34)).length ≤ line.length := (List.dropWhile_sublist _).length_le
    have h2 := congrArg List.length hp
    rw [List.length_drop] at h2
    simp at h2 ⊢
    omega
  | case4 line rem _ _ _ _ _ _ => intro tl h; simp at h
  | case5 line _ => intro tl h; simp at h
  | case6 line rem _ hr ih =>
    intro tl h
    have h0 := ih tl h
    have h1 := line_rest rem
    have h3 := dropEnd_len 13 (lineOf rem)
    omega
theorem rq_small {line rem : List UInt8} (h1 : line.length ≤ 65536) (h2 : rem.length ≤ 65536) : (rq line rem).1.length ≤ 900000 ∧ (rq line rem).2.2 ≤ 1000000 := by
  have := rq_bound line rem
  omega

theorem apart_old {v vt : Value} {cb B : Nat} {w : World} (hlt : ∀ k, blockOf v = some k → k < B) (hB : B ≤ cb) (hw : B ≤ w.heap.size) (hv : vt.ownBlock = none) : Apart v vt cb w := fun k e => ⟨by rw [hv]; simp, by have := hlt k e; omega, by have := hlt k e; omega⟩
theorem RowB.below {w w' : World} {v : Value} {l : List UInt8} {B : Nat} (h : RowB w v l) (hb : Below B w w') (hlt : ∀ k, blockOf v = some k → k < B) : RowB w' v l := by
  rcases h with h | ⟨b, off, cap, rfl, h2, cur, fr, h3, h4⟩
  · exact .inl h
  · exact .inr ⟨b, off, cap, rfl, h2, cur, fr, (hb.block b (hlt b rfl)).trans h3, h4⟩

/-- Two slices that hold the same bytes. -/
structure Eqv (w : World) (x y : Value) : Prop where
  out : ∃ l, RowB w x l ∧ RowB w y l ∧ l.length ≤ 1048576
theorem Eqv.calls {w : World} {x y : Value} (h : Eqv w x y) (m : Nat) : Calls Tryd.prog 12 #[x, y] (w.drewN m) fun e w' => e = .returned (.bool true) ∧ ∃ k, w' = (w.drewN m).drewN k := by
  obtain ⟨l, h1, h2, h3⟩ := h.out
  refine (same_any x y l l (w.drewN m) (h1.drewN m) (h2.drewN m) h3 h3).mono ?_
  rintro e w' ⟨rfl, q, hq⟩
  exact ⟨by simp, q, hq.symm⟩

end Go.Proofs.Qxb6613468aDoor
