/-
  What JoinConfigurations holds in memory between its steps; the lines that it takes.
-/
import Derived.Test.Qxb6612439aRange
import Derived.Test.Qxb6612439aShelfS
import Derived.Test.Qxb6612439aJstrict
import Derived.Lib.IndexMore
import Derived.Lib.IndexBytes
namespace Go.Proofs.Qxb6612439a
open Go.RowKit Go.Shelf

theorem Try.info50 : (Try.prog.info? 50).map (fun i => (i.zero, i.size, i.bytes)) = some (some (.agg #[.string ⟨#[]⟩, .string ⟨#[]⟩]), 2, 32) := by kernel_rfl

/-- Of a text's lines those whose name is taken from configuration k. -/
def pickL (Fn : List UInt8 → Int) (k : Int) (ts : List (List UInt8)) : List (List UInt8) := ts.filter fun t => Fn (nameL t) == k
def pickAll (Fn : List UInt8 → Int) : Nat → List ByteArray → List (List UInt8)
  | _, [] => []
  | k, c :: cs => pickL Fn k (splitL (bytesOf c)) ++ pickAll Fn (k + 1) cs

theorem pickAll_append (Fn : List UInt8 → Int) : ∀ (a : List ByteArray) (k : Nat) (b : List ByteArray), pickAll Fn k (a ++ b) = pickAll Fn k a ++ pickAll Fn (k + a.length) b
  | [], k, b => by simp [pickAll]
  | c :: a, k, b => by
    rw [List.cons_append, pickAll, pickAll, pickAll_append Fn a (k + 1) b, List.append_assoc, List.length_cons, show k + 1 + a.length = k + (a.length + 1) from by omega]

theorem pickAll_take (Fn : List UInt8 → Int) (ss : List ByteArray) (k : Nat) (h : k < ss.length) :
    pickAll Fn 0 (ss.take (k + 1)) = pickAll Fn 0 (ss.take k) ++ pickL Fn k (splitL (bytesOf (ss[k]?.getD ByteArray.empty))) := by
  rw [List.take_succ_eq_append_getElem h, pickAll_append]
  simp [pickAll, h, Nat.min_eq_left (Nat.le_of_lt h)]

theorem pickL_snoc (Fn : List UInt8 → Int) (k : Int) (ts : List (List UInt8)) (t : List UInt8) : pickL Fn k (ts ++ [t]) = pickL Fn k ts ++ if Fn (nameL t) == k then [t] else [] := by
  unfold pickL
  rw [List.filter_append]
  by_cases h : (Fn (nameL t) == k) = true <;> simp [h]

theorem pickL_len (Fn : List UInt8 → Int) (k : Int) (ts : List (List UInt8)) : (pickL Fn k ts).length ≤ ts.length := List.length_filter_le _ _
theorem pickAll_len (Fn : List UInt8 → Int) : ∀ (ss : List ByteArray) (k j : Nat), (pickAll Fn j (ss.take k)).length ≤ sumS 0 ss
  | [], k, j => by simp [pickAll]
  | c :: cs, 0, j => by simp [pickAll]
  | c :: cs, k + 1, j => by
    have h1 := pickAll_len Fn cs k (j + 1)
    have h2 := pickL_len Fn j (splitL (bytesOf c))
    have h3 := splitL_length (bytesOf c)
    rw [bytesOf_size] at h3
    rw [List.take_succ_cons, pickAll, List.length_append, sumS]
    omega

/-- What stands before the first blank. -/
theorem cut_name (l : List UInt8) : (Lib.cut l [32]).1 = nameL l := by
  have htw : ∀ (l : List UInt8) (o : Nat), l[o]? = some 32 → (∀ k, k < o → l[k]? ≠ some 32) → l.take o = nameL l := by
    intro l
    induction l with
    | nil => intro o h; simp at h
    | cons b l ih =>
      intro o h hk
      cases o with
      | zero => simp at h; simp [nameL, h]
      | succ o =>
        have hb : b ≠ 32 := fun e => hk 0 (by omega) (by simp [e])
        have := ih o (by simpa using h) (fun k hk' => by simpa using hk (k + 1) (by omega))
        simp [nameL, hb] at this ⊢
        exact this
  have htn : ∀ l : List UInt8, (∀ k : Nat, l[k]? ≠ some 32) → l = nameL l := by
    intro l
    induction l with
    | nil => intro _; rfl
    | cons b l ih =>
      intro hk
      have hb : b ≠ 32 := fun e => hk 0 (by simp [e])
      have := ih (fun k => by simpa using hk (k + 1))
      simp [nameL, hb] at this ⊢
      exact this
  unfold Lib.cut
  rcases Lib.index_spec l [32] with ⟨hn, _⟩ | ⟨i, hi, _⟩
  · rw [Lib.index_one] at hn
    rw [Lib.index_one, hn]
    exact htn l (Lib.indexByte_none hn)
  · rw [Lib.index_one] at hi
    rw [Lib.index_one, hi, if_pos (by omega)]
    have h := Lib.indexByte_some hi
    simpa using htw l i h.1 h.2

/-- The lines gathered so far, in memory. -/
structure Lin (w W : World) (fv v : Value) (ls : List (ByteArray × ByteArray)) (Ds : List Nat) : Prop where
  c0 : W.cell? ⟨w.heap.size, 0, none⟩ = some fv
  c1 : W.cell? ⟨w.heap.size + 1, 0, none⟩ = some v
  f1 : W.frozen? ⟨w.heap.size + 1, 0, none⟩ = false
  sz : w.heap.size + 1 < W.heap.size
  own : W.ownsRow w.heap.size 50 2 v ls.length (cellsL ls)
  v0 : v.ownBlock ≠ some w.heap.size
  v1 : v.ownBlock ≠ some (w.heap.size + 1)
  bel : Below w.heap.size w W
  ds : ∀ D ∈ Ds, W.heap[D]? = some (.deferred (some []))
  nd : Ds.Nodup
  dl : ∀ D ∈ Ds, w.heap.size ≤ D

theorem Lin.grown {w W W' : World} {fv v : Value} {ls : List (ByteArray × ByteArray)} {Ds : List Nat} {row : Option Nat} (h : Lin w W fv v ls Ds) (hg : W.grownBy W' row)
    (hr : ∀ r, row = some r → w.heap.size + 1 < r ∧ r ∉ Ds ∧ v.ownBlock ≠ some r) : Lin w W' fv v ls Ds := by
  have hb0 : some w.heap.size ≠ row := fun e => by have := (hr _ e.symm).1; omega
  have hb1 : some (w.heap.size + 1) ≠ row := fun e => by have := (hr _ e.symm).1; omega
  have hsz := h.sz
  refine ⟨?_, ?_, ?_, ?_, ?_, h.v0, h.v1, ?_, fun D hD => ?_, h.nd, h.dl⟩
  · exact (World.cell?_of_block (a := ⟨w.heap.size, 0, none⟩) (hg.block w.heap.size (by omega) hb0)).trans h.c0
  · exact (World.cell?_of_block (a := ⟨w.heap.size + 1, 0, none⟩) (hg.block (w.heap.size + 1) (by omega) hb1)).trans h.c1
  · exact (World.frozen?_of_block (a := ⟨w.heap.size + 1, 0, none⟩) (hg.block (w.heap.size + 1) (by omega) hb1)).trans h.f1
  · have := hg.size; omega
  · refine h.own.kept hg ?_
    cases hv : v.ownBlock with
    | none => exact .inl rfl
    | some k =>
      right
      cases row with
      | none => simp
      | some r => rw [← hv]; exact (hr r rfl).2.2
  · exact h.bel.grown hg (by omega) (fun k e => by have := (hr k e).1; omega)
  · have hl := (Array.getElem?_eq_some_iff.1 (h.ds D hD)).1
    rw [hg.block D hl (fun e => (hr D e.symm).2.1 hD)]
    exact h.ds D hD

end Go.Proofs.Qxb6612439a
