/-
  JoinConfigurations' end: the builder that the lines are written into; the marks of the range loops.
-/
import Derived.Test.Qxb6612439aInn
namespace Go.Proofs.Qxb6612439a
open Go.RowKit Go.Shelf

theorem builder_new (W : World) : Lib.IsBuilder 56 5 W.heap.size W.heap.size [] (W.alloc (.cells #[.pointer none, .slice none 0 0] 56)) :=
  .inl ⟨Nat.le_refl _, _, World.alloc_heap_new W _, World.ownsRow_nil _ _ _ _, by simp [Value.ownBlock]⟩

theorem builder_alloc {T e : TypeId} {B b : Nat} {bs : List Value} {X : World} (o : Obj) (h : Lib.IsBuilder T e B b bs X) : Lib.IsBuilder T e B b bs (X.alloc o) := by
  rcases h with ⟨h1, v, h2, h3, h4⟩ | ⟨h1, v, h2, h3, h4⟩
  · exact .inl ⟨h1, v, (Below.heap_alloc _ _ _ (Array.getElem?_eq_some_iff.1 h2).1).trans h2, h3.alloc o, h4⟩
  · exact .inr ⟨h1, v, (Below.heap_alloc _ _ _ (Array.getElem?_eq_some_iff.1 h2).1).trans h2, h3.alloc o, h4⟩

theorem leave_marks {F : Fence} {n : Nat} {P : Program} {fn : Func} {tmps : Array Value} {R : Ending → World → Prop} (B : Nat) (w0 : World) (hB : B ≤ w0.heap.size) : ∀ (Ds : List Nat) (X : World), Ds.Nodup → (∀ D ∈ Ds, B ≤ D) → (∀ D ∈ Ds, X.heap[D]? = some (.deferred (some []))) → Below B w0 X →
    (∀ X', Below B w0 X' → LeavesIn F n P fn tmps R [] .returning X') → LeavesInM F n P fn tmps R (Ds.map fun D => { target := .collected D, args := #[] }) .returning X
  | [], X, _, _, _, hb, hR => hR X hb
  | D :: Ds, X, hn, hd, hh, hb, hR => by
    refine ⟨by simp, .inl ⟨D, _, rfl, run_takeDeferred (hh D (by simp)), ?_⟩⟩
    refine leave_marks B w0 hB Ds _ (List.nodup_cons.1 hn).2 (fun E hE => hd E (by simp [hE])) (fun E hE => ?_) ?_ hR
    · refine (World.putObj_heap_other ?_).trans (hh E (by simp [hE]))
      rintro rfl
      exact (List.nodup_cons.1 hn).1 hE
    · exact hb.grown (grownBy_putObj' X D _) (Nat.le_trans hB hb.size) (fun k e => by cases e; exact hd D (by simp))

/-- The bytes of the first j lines' texts. -/
def textsTo (ls : List (ByteArray × ByteArray)) (j : Nat) : List UInt8 := ((ls.take j).map fun p => bytesOf p.2).flatten
theorem textsTo_succ (ls : List (ByteArray × ByteArray)) (j : Nat) (h : j < ls.length) : textsTo ls (j + 1) = textsTo ls j ++ bytesOf ls[j].2 := by
  unfold textsTo
  rw [List.take_succ_eq_append_getElem h, List.map_append, List.flatten_append, List.map_cons, List.map_nil, List.flatten_cons, List.flatten_nil, List.append_nil]

theorem pickL_flat (Fn : List UInt8 → Int) (k : Int) : ∀ ts : List (List UInt8), (pickL Fn k ts).flatten.length ≤ ts.flatten.length
  | [] => by simp [pickL]
  | t :: ts => by
    have ih := pickL_flat Fn k ts
    unfold pickL at ih ⊢
    rw [List.filter_cons]
    split
    · simp only [List.flatten_cons, List.length_append]; omega
    · simp only [List.flatten_cons, List.length_append]; omega
theorem pickAll_flat (Fn : List UInt8 → Int) : ∀ (ss : List ByteArray) (k j : Nat), (pickAll Fn j (ss.take k)).flatten.length ≤ sumS 0 ss
  | [], k, j => by simp [pickAll]
  | c :: cs, 0, j => by simp [pickAll]
  | c :: cs, k + 1, j => by
    have h1 := pickAll_flat Fn cs k (j + 1)
    have h2 := pickL_flat Fn j (splitL (bytesOf c))
    rw [splitL_join, bytesOf_size] at h2
    rw [List.take_succ_cons, pickAll, List.flatten_append, List.length_append, sumS]
    omega
theorem flat_perm : ∀ {a b : List (ByteArray × ByteArray)}, a.Perm b → (a.map fun p => bytesOf p.2).flatten.length = (b.map fun p => bytesOf p.2).flatten.length := by
  intro a b h
  induction h with
  | nil => rfl
  | cons x _ ih => simp only [List.map_cons, List.flatten_cons, List.length_append, ih]
  | swap x y l => simp only [List.map_cons, List.flatten_cons, List.length_append]; omega
  | trans _ _ ih1 ih2 => exact ih1.trans ih2
theorem textsTo_le (ls : List (ByteArray × ByteArray)) (j : Nat) : (textsTo ls j).length ≤ (ls.map fun p => bytesOf p.2).flatten.length := by
  unfold textsTo
  conv => rhs; rw [← List.take_append_drop j ls, List.map_append, List.flatten_append, List.length_append]
  omega
theorem textsTo_all (ls : List (ByteArray × ByteArray)) : textsTo ls ls.length = (ls.map fun p => bytesOf p.2).flatten := by
  unfold textsTo
  rw [List.take_length]

theorem RowL.at {W5 : World} {va : Option Addr} {N vc : Nat} {ls : List (ByteArray × ByteArray)} (h : RowL W5 (.slice va N vc) ls) (hN : ls.length = N) {j : Nat} (hj : j < N) :
    ∃ b, va = some ⟨b, 0, none⟩ ∧ b < W5.heap.size ∧ W5.cell? ⟨b, j * 2, none⟩ = some (.string (ls[j]'(by omega)).1) ∧ W5.cell? ⟨b, j * 2 + 1, none⟩ = some (.string (ls[j]'(by omega)).2) := by
  rcases h with h | ⟨b, cap, h1, h2⟩
  · rw [h] at hN; simp at hN; omega
  · simp only [Value.slice.injEq] at h1
    have := h2 j (by omega)
    rw [Nat.mul_comm] at this
    exact ⟨b, h1.1, World.block_lt_of_cell? _ _ this.1, this⟩

/-- The deferred blocks are kept by whatever turns cells alone. -/
theorem Lin.kept {w W X : World} {fv v : Value} {ls : List (ByteArray × ByteArray)} {Ds : List Nat} (h : Lin w W fv v ls Ds) (hg : W.grownBy X v.ownBlock) : ∀ D ∈ Ds, X.heap[D]? = some (.deferred (some [])) := by
  intro D hD
  have hl := (Array.getElem?_eq_some_iff.1 (h.ds D hD)).1
  refine (hg.block D hl (fun e => ?_)).trans (h.ds D hD)
  rcases h.own.2 with ⟨rfl, _⟩ | ⟨g, cap, cur, rfl, _, hc, _⟩
  · cases e
  · have : D = g := Option.some.inj e
    subst this
    rw [h.ds D hD] at hc
    cases hc

end Go.Proofs.Qxb6612439a
