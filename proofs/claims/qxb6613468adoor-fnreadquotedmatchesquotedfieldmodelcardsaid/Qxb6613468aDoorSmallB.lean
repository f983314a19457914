/-
  Plain words for ReadSlice; readErr (26), Buffered (27).
-/
import Derived.Test.Qxb6613468aDoorFill2
import Derived.Lib.Bytealg
namespace Go.Proofs.Qxb6613468aDoor
open Go.RowKit

theorem idx_cases (l : List UInt8) (c : UInt8) : (Lib.indexByte l c = -1 ∧ c ∉ l) ∨ ∃ o : Nat, Lib.indexByte l c = o ∧ o < l.length ∧ l = l.take o ++ c :: l.drop (o + 1) ∧ c ∉ l.take o := by
  rcases Int.lt_or_le (Lib.indexByte l c) 0 with h | h
  · have h1 : Lib.indexByte l c = -1 := by have := Lib.indexByte_ge l c; omega
    refine .inl ⟨h1, fun hc => ?_⟩
    obtain ⟨k, hk, e⟩ := List.mem_iff_getElem.1 hc
    exact Lib.indexByte_none h1 k (by rw [List.getElem?_eq_getElem hk, e])
  · obtain ⟨o, ho⟩ := Int.eq_ofNat_of_zero_le h
    obtain ⟨h1, h2⟩ := Lib.indexByte_some ho
    obtain ⟨hl, e⟩ := List.getElem?_eq_some_iff.1 h1
    refine .inr ⟨o, ho, hl, ?_, fun hc => ?_⟩
    · conv => lhs; rw [← List.take_append_drop o l, List.drop_eq_getElem_cons hl, e]
    · obtain ⟨k, hk, e'⟩ := List.mem_iff_getElem.1 hc
      have hk' : k < o := by rw [List.length_take] at hk; omega
      rw [List.getElem_take] at e'
      exact h2 k hk' (by rw [List.getElem?_eq_getElem (by omega), e'])

theorem found_plain {l y1 : List UInt8} {r sN q o : Nat} (hy : y1 = (l.drop (r + sN)).take (q - (r + sN))) (ho : o < y1.length) (hsp : y1 = y1.take o ++ 10 :: y1.drop (o + 1)) (n1 : (10 : UInt8) ∉ (l.drop r).take sN) (n2 : (10 : UInt8) ∉ y1.take o) (hq : r + (o + sN) + 1 ≤ q) :
    (l.drop r).take (o + sN + 1) = ((l.drop r).take sN ++ y1.take o) ++ [10] ∧ (10 : UInt8) ∉ ((l.drop r).take sN ++ y1.take o) ∧ (l.drop r).take (q - r) = (l.drop r).take (o + sN + 1) ++ (l.drop (r + (o + sN) + 1)).take (q - (r + (o + sN) + 1)) := by
  have e1 : y1.take (o + 1) = y1.take o ++ [10] := by
    conv => lhs; rw [hsp]
    rw [List.take_append, List.take_of_length_le (by rw [List.length_take]; omega)]
    have : o + 1 - (y1.take o).length = 1 := by rw [List.length_take]; omega
    rw [this]
    rfl
  have e2 : ((l.drop r).drop sN).take (o + 1) = y1.take (o + 1) := by
    rw [hy, List.take_take, List.drop_drop]
    have : min (o + 1) (q - (r + sN)) = o + 1 := by omega
    rw [this]
  refine ⟨?_, ?_, ?_⟩
  · rw [show o + sN + 1 = sN + (o + 1) from by omega, List.take_add, e2, e1, List.append_assoc]
  · intro h
    rcases List.mem_append.1 h with h | h
    · exact n1 h
    · exact n2 h
  · rw [show q - r = (o + sN + 1) + (q - (r + (o + sN) + 1)) from by omega, List.take_add, List.drop_drop, show r + (o + sN + 1) = r + (o + sN) + 1 from by omega]
theorem none_plain {l y1 : List UInt8} {r sN q : Nat} (hy : y1 = (l.drop (r + sN)).take (q - (r + sN))) (hs : r + sN ≤ q) (n1 : (10 : UInt8) ∉ (l.drop r).take sN) (n2 : (10 : UInt8) ∉ y1) : (10 : UInt8) ∉ (l.drop r).take (q - r) := by
  rw [show q - r = sN + (q - (r + sN)) from by omega, List.take_add, List.drop_drop, ← hy]
  intro h
  rcases List.mem_append.1 h with h | h
  · exact n1 h
  · exact n2 h

/-- The bytes that are still to come. -/
def remB (l : List UInt8) (r q : Nat) (s : ByteArray) (i : Nat) : List UInt8 := (l.drop r).take (q - r) ++ (bytesOf s).drop i

/-- A slice of the bytes to come is cut off. -/
def CutS (E1 E2 : Value) (rem x : List UInt8) (E : Value) (rem' : List UInt8) : Prop :=
  rem = x ++ rem' ∧ ((E = .nilIface ∧ ∃ x0, x = x0 ++ [10] ∧ (10 : UInt8) ∉ x0) ∨ (E = E2 ∧ (10 : UInt8) ∉ x ∧ x.length = 4096) ∨ (E = E1 ∧ (10 : UInt8) ∉ x ∧ rem' = []))

/-- What ReadSlice leaves. -/
def SlicePost (bb sb rb : Nat) (s : ByteArray) (E1 E2 : Value) (rem : List UInt8) (w : World) (v E : Value) (w' : World) : Prop :=
  ∃ x r q i l, RowB w' v x ∧ blockOf v = some rb ∧ x.length ≤ 4096 ∧ BR w' bb sb rb s r q i .nilIface l ∧ CutS E1 E2 rem x E (remB l r q s i) ∧ Only (Bs bb sb rb) w w'

/-- 1 at nil. -/
def nilN : Value → Nat
  | .nilIface => 1
  | _ => 0

/-- How much is still to be done. -/
def meas (bb : Nat) (w : World) : Nat := match w.heap[bb]? with
  | some (.cells cs _ _) => 2 * (4096 - ((intOf (cs[3]?.getD undef)).toNat - (intOf (cs[2]?.getD undef)).toNat)) + nilN (cs[4]?.getD undef)
  | _ => 0

theorem BR.meas {w : World} {bb sb rb : Nat} {s : ByteArray} {r q i : Nat} {e : Value} {l : List UInt8} (h : BR w bb sb rb s r q i e l) : Qxb6613468aDoor.meas bb w = 2 * (4096 - (q - r)) + nilN e := by
  obtain ⟨x, y, hb⟩ := h.hb
  unfold Qxb6613468aDoor.meas
  rw [hb]
  simp [cellsB, intOf]

theorem BR.inAt {w : World} {bb sb rb : Nat} {s : ByteArray} {r q i : Nat} {e : Value} {l : List UInt8} (h : BR w bb sb rb s r q i e l) (k : Nat) (hk : k ≤ q) :
    ∃ off0, (if 4096 = k then some (⟨rb, 0, none⟩ : Addr) else some ⟨rb, k, none⟩) = some ⟨rb, off0, none⟩ ∧ In w rb off0 ((l.drop k).take (q - k)) := by
  have h0 : In w rb 0 l := ⟨_, _, h.hr, fun i hi => by simp [Lib.byteCells, hi]⟩
  have hq := h.hq
  by_cases h4 : 4096 = k
  · refine ⟨0, by rw [if_pos h4], ?_⟩
    have : q - k = 0 := by omega
    rw [this, List.take_zero]
    exact h0.take 0
  · refine ⟨k, by rw [if_neg h4], ?_⟩
    have := (h0.drop k).take (q - k)
    rwa [Nat.zero_add] at this

set_option maxHeartbeats 1000000 in
theorem readerr_any (bb sb rb r q : Nat) (e : Value) (x y : Int) (w : World) (h : w.heap[bb]? = some (.cells (cellsB sb rb r q e x y) 62 (0, 0))) :
    Calls Tryd.prog 26 #[.pointer (some ⟨bb, 0, none⟩)] w fun e' w' => e' = .returned e ∧ w.setCell ⟨bb, 4, none⟩ .nilIface = w' := by
  have b4 : w.cell? ⟨bb, 4, none⟩ = some e := by rw [cell_of_row w bb 4 _ _ _ h]; rfl
  have f4 : w.frozen? ⟨bb, 4, none⟩ = false := free_of_row h
  clear h
  go_enter Tryd.func26, Tryd.ntmps26
  go_wp2
  go_ret
  exact ⟨rfl, rfl⟩

set_option maxHeartbeats 1000000 in
theorem buffered_any (bb sb rb r q : Nat) (e : Value) (x y : Int) (w : World) (h : w.heap[bb]? = some (.cells (cellsB sb rb r q e x y) 62 (0, 0))) (hrq : r ≤ q) (hq : q ≤ 4096) :
    Calls Tryd.prog 27 #[.pointer (some ⟨bb, 0, none⟩)] w fun e' w' => e' = .returned (.int .i64 (q - r : Nat)) ∧ ∃ n, w.drewN n = w' := by
  have b2 : w.cell? ⟨bb, 2, none⟩ = some (.int .i64 r) := by rw [cell_of_row w bb 2 _ _ _ h]; rfl
  have b3 : w.cell? ⟨bb, 3, none⟩ = some (.int .i64 q) := by rw [cell_of_row w bb 3 _ _ _ h]; rfl
  clear h
  go_enter Tryd.func27, Tryd.ntmps27
  go_wp2_with fail
  go_quiet (fail)
  go_wp2_with fail
  go_ret
  refine ⟨?_, nq, rfl⟩
  have : ((q - r : Nat) : Int) = (q : Int) - (r : Int) := by omega
  rw [this]
  rfl

end Go.Proofs.Qxb6613468aDoor
