/-
  (*csvReader).readLine (21).
-/
import Derived.Test.Qxb6613468aDoorCsv2
namespace Go.Proofs.Qxb6613468aDoor
open Go.RowKit

theorem grown_drewN (w : World) (n : Nat) : w.grownBy (w.drewN n) none := ⟨rfl, rfl, rfl, Nat.le_refl _, fun _ _ _ => rfl⟩

theorem CR.remLen {w : World} {B cb bb sb rb : Nat} {s : ByteArray} {ln st : Int} {text rem : List UInt8} {vt vl : Value} (h : CR w B cb bb sb rb s ln st text rem vt vl) : rem.length ≤ 1052672 := by
  obtain ⟨r, q, i, l, hbr, hrem⟩ := h.br
  rw [← hrem]
  unfold remB
  rw [List.length_append, List.length_take, List.length_drop, List.length_drop, bytesOf_size, hbr.hl]
  have := hbr.hsz
  omega

/-- ReadSlice, of the csvReader. -/
theorem slice_cr {w : World} {B cb bb sb rb : Nat} {s : ByteArray} {ln st : Int} {text rem : List UInt8} {vt vl : Value} {a0 a1 a2 : Addr} (h : CR w B cb bb sb rb s ln st text rem vt vl) (hS : Sen w B a0 a1 a2) (hB : B ≤ w.heap.size) :
    Calls Tryd.prog 24 #[.pointer (some ⟨bb, 0, none⟩), .int .u8 10] w fun e w' => ∃ v E x rem', e = .returned (.tuple #[v, E]) ∧ RowB w' v x ∧ blockOf v = some rb ∧ CutS (I a1) (I a2) rem x E rem' ∧ CR w' B cb bb sb rb s ln st text rem' vt vl ∧ Below B w w' ∧ Sen w' B a0 a1 a2 ∧ Only (Bs bb sb rb) w w' := by
  obtain ⟨r, q, i, l, hbr, hrem⟩ := h.br
  obtain ⟨ra, rl⟩ := h.rowApart
  obtain ⟨nb, n1, n2, n3⟩ := h.ncb
  obtain ⟨l1, l2, l3, l4⟩ := h.low
  have low : ∀ k, Bs bb sb rb k → B ≤ k := fun k e => by rcases e with rfl | rfl | rfl <;> assumption
  have no : ∀ k, k < B → ¬ Bs bb sb rb k := fun k hk e => by have := low k e; omega
  refine (slice_any bb sb rb r q i s l a1 a2 w hbr hS.g1 (no 1 (by have := hS.lt.1; omega)) hS.g2 (no 2 hS.lt.1)).mono ?_
  rintro e w' ⟨v, E, rfl, x, r', q', i', l', h1, h2, h3, h4, h5, h6⟩
  rw [hrem] at h5
  obtain ⟨ll, hll⟩ := h.lg
  exact ⟨v, E, x, _, rfl, h1, h2, h5, ⟨h6.heap h.hc nb, ⟨r', q', i', l', h4, rfl⟩, owns_only h.tx h6 (fun k e => (ra k e).2), ⟨ll, owns_only hll h6 (fun k e => (rl k e).2)⟩, h.ntl, h.ntr, h.nlr, h.low⟩, h6.below hB low, hS.only h6 low, h6⟩

theorem CR.line {w : World} {B cb bb sb rb : Nat} {s : ByteArray} {ln st : Int} {text rem : List UInt8} {vt vl : Value} (h : CR w B cb bb sb rb s ln st text rem vt vl) (x : Int) (hB : B ≤ w.heap.size) : CR (w.setCell ⟨cb, 1, none⟩ (.int .i64 x)) B cb bb sb rb s x st text rem vt vl ∧ Below B w (w.setCell ⟨cb, 1, none⟩ (.int .i64 x)) ∧ Only (fun k => k = cb) w (w.setCell ⟨cb, 1, none⟩ (.int .i64 x)) := by
  obtain ⟨ra, rl⟩ := h.rowApart
  obtain ⟨nb, n1, n2, n3⟩ := h.ncb
  have on2 : Only (fun k => k = cb) w (w.setCell ⟨cb, 1, none⟩ (.int .i64 x)) := (Only.refl (fun k => k = cb) w).setCell (p := ⟨cb, 1, none⟩) rfl _
  obtain ⟨r, q, i, l, hbr, hrem⟩ := h.br
  obtain ⟨ll, hll⟩ := h.lg
  refine ⟨⟨?_, ⟨r, q, i, l, hbr.only on2 (fun e => n1 e.symm) (fun e => n2 e.symm) (fun e => n3 e.symm), hrem⟩, owns_only h.tx on2 (fun k e => (ra k e).1), ⟨ll, owns_only hll on2 (fun k e => (rl k e).1)⟩, h.ntl, h.ntr, h.nlr, h.low⟩, on2.below hB (fun k e => by rw [e]; exact h.low.1), on2⟩
  have := heap_setCell_same w cb 1 _ _ (.int .i64 x) h.hc
  simpa [cellsC] using this

end Go.Proofs.Qxb6613468aDoor
