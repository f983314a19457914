/-
  The walk of the law FnWriteUnescapedCutAndModel (6), where its bounds let it go on.
-/
import Derived.Test.Qxb6613957aRead
namespace Go.Proofs.Qxb6613957a
open Go.RowKit

theorem below_grown {w w' : World} (h : Below w.heap.size w w') : w.grownBy w' none := ⟨h.os, h.tape, h.output, h.size, fun k hk _ => h.block k hk⟩

theorem owns_below {w w' : World} {B e s n : Nat} {v : Value} {xs : List Value} (h : w.ownsRow B e s v n xs) (hb : Below w.heap.size w w') : w'.ownsRow B e s v n xs := by
  refine h.kept (below_grown hb) ?_
  cases hv : v.ownBlock with
  | none => exact .inl rfl
  | some k => exact .inr (by simp)

theorem Bld.below {w w' : World} {B C T : Nat} {v : Value} {xs : List UInt8} {op : Bool} {st : Int} (h : Bld w B C T v xs op st) (hb : Below w.heap.size w w') : Bld w' B C T v xs op st := by
  have hs := hb.size
  refine ⟨h.bc, h.bt, h.ct, by have := h.cl; omega, by have := h.tl; omega, ?_, ?_, ?_, ?_, ?_, ?_, ?_, ?_, owns_below h.own hb, h.vc, h.vt⟩
  · exact (hb.cell (p := ⟨T, 0, none⟩) h.tl).trans h.t0
  · exact (hb.cell (p := ⟨T, 1, none⟩) h.tl).trans h.t1
  · exact (hb.cell (p := ⟨T, 2, none⟩) h.tl).trans h.t2
  · exact (hb.cell (p := ⟨T, 3, none⟩) h.tl).trans h.t3
  · exact (hb.frozen (p := ⟨T, 2, none⟩) h.tl).trans h.f2
  · exact (hb.frozen (p := ⟨T, 3, none⟩) h.tl).trans h.f3
  · exact (hb.cell (p := ⟨C, 0, none⟩) h.cl).trans h.c0
  · exact (hb.frozen (p := ⟨C, 0, none⟩) h.cl).trans h.g0

/-- Two pieces do to the flag and the start what the whole does. -/
theorem op_two (op : Bool) (c d : Nat) : opAft (opAft op c) d = opAft op (c + d) := by
  unfold opAft
  rw [Bool.eq_iff_iff]
  cases op <;> simp <;> omega
theorem st_two (op : Bool) (st : Int) (n m c d : Nat) (hm : c = 0 → m = 0) : stAft (opAft op c) (stAft op st n c) (n + m) d = stAft op st n (c + d) := by
  unfold stAft opAft startOf
  by_cases h0 : 0 < c
  · rw [if_pos h0, if_pos (show 0 < c + d by omega)]
    by_cases hd : 0 < d
    · rw [if_pos hd]; simp [h0]
    · rw [if_neg hd]
  · obtain rfl : c = 0 := by omega
    obtain rfl : m = 0 := hm rfl
    simp

theorem unesc_nil_iff (q : Bool) (l : List UInt8) (h : l = []) : (unesc q l).length = 0 := by subst h; rfl

theorem bytes_take (lit : ByteArray) (c : Nat) : bytesOf (lit.extract 0 c) = (bytesOf lit).take c := by
  unfold bytesOf
  rw [Lib.extract_data]
  simp
theorem bytes_drop (lit : ByteArray) (c : Nat) : bytesOf (lit.extract c lit.size) = (bytesOf lit).drop c := by
  unfold bytesOf
  rw [Lib.extract_data, List.take_of_length_le]
  rw [List.length_drop, ← Lib.size_eq]
  exact Nat.le_refl _

theorem cut_bytes (q : Bool) (lit : ByteArray) (c : Nat) (hc : c ≤ lit.size) (h : ∀ h : 0 < c, lit[c - 1] ≠ 92) : unesc q ((bytesOf lit).take c) ++ unesc q ((bytesOf lit).drop c) = unesc q (bytesOf lit) := by
  rw [← unesc_cut q _ _ ((bytesOf lit).take c) (Nat.le_refl _), List.take_append_drop]
  rcases Nat.eq_zero_or_pos c with e | e
  · subst e; simp
  · rw [List.getLast?_take]
    rw [if_neg (by omega)]
    have := h e
    have e2 : (bytesOf lit)[c - 1]? = some (lit[c - 1]) := by
      rw [List.getElem?_eq_getElem (by rw [bytesOf_size]; omega)]; rfl
    rw [e2]
    simpa using this

end Go.Proofs.Qxb6613957a
