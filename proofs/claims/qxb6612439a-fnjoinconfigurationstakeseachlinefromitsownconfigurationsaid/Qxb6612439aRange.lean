/-
  A range over strings.Lines: the law for the caller. (The iterator keeps its state in a cell of its own: so the loop's invariant must abide stores into that cell, and the body must keep it.)
-/
import Derived.Test.Qxb6612439aIter
namespace Go.Proofs.Qxb6612439a
open Go.RowKit Go.Shelf

/-- How the body of a round may be left: off its end alone; what is no cells is kept, the iterator's cell is kept, the invariant goes on. -/
def postL (I : List ByteArray → World → Prop) (xs : List ByteArray) (Bs : Nat) (W : World) : Exit → Act → World → Prop
  | .normal, _, W' => KeepsOthers W W' ∧ (W'.cell? ⟨Bs, 0, none⟩ = W.cell? ⟨Bs, 0, none⟩ ∧ W'.frozen? ⟨Bs, 0, none⟩ = W.frozen? ⟨Bs, 0, none⟩) ∧ I xs W'
  | _, _, _ => False

theorem wpIn_range_lines {n : Nat} {g : Operand} {ps : Array Tmp} {assign body : Code} {Q : Exit → Act → World → Prop} {a : Act} {w : World}
    (Bs : Nat) (s : ByteArray) (hs : s.size ≤ 1048576) (hg : a.eval g = .func (.func 24) #[] #[.pointer (some ⟨Bs, 0, none⟩)])
    (hc : w.cell? ⟨Bs, 0, none⟩ = some (.string s)) (hf : w.frozen? ⟨Bs, 0, none⟩ = false) (hps : ps.size = 1)
    (I : List ByteArray → World → Prop)
    (hI : ∀ pre W W' row, I pre W → W.grownBy W' row → (∀ r, row = some r → r = Bs ∨ (w.heap.size ≤ r ∧ ∃ o : Obj, W.heap[r]? = some o ∧ o.isCells = false)) → I pre W')
    (h0 : I [] w) (a₁ : ByteArray → Act)
    (hassign : ∀ (l : Nat) (x : ByteArray) (W : World) (K : Act → World → Prop), K (a₁ x) W →
      assign.wpIn (Fence.wide.inRound l) (n - 1 - 1) Try.prog (Exit.then K (fun _ _ _ => False)) { tmps := (ps.zip #[Value.string x]).foldl (fun t (p, v) => t.setIfInBounds p v) a.tmps, defers := [] } W)
    (hbody : ∀ (l : Nat) (pre : List ByteArray) (x : ByteArray) (W : World), (∃ r, Left s (pre ++ [x]) r) → I pre W → w.heap.size < W.heap.size → body.wpIn (Fence.wide.inRound l) (n - 1 - 1) Try.prog (postL I (pre ++ [x]) Bs W) (a₁ x) W)
    (hdone : ∀ (D : Nat) (xs : List ByteArray) (W : World), xs.map bytesOf = splitL (bytesOf s) → I xs W → D = w.heap.size → W.heap[D]? = some (.deferred (some [])) → Q .normal { a with defers := { target := .collected D, args := #[] } :: a.defers } W) :
    (Code.rangeFunc g ps assign body).wpIn Fence.wide n Try.prog Q a w := by
  have hBs : Bs < w.heap.size := World.block_lt_of_cell? w _ hc
  refine wpIn_rangeFunc ?_
  intro fn hfn
  have hro : Fence.wide.round = none := rfl
  rw [hro]
  obtain ⟨rec, hrec⟩ : ∃ rec : LoopState → Option Code → Loop, rec = fun st pe => { state := st, pending := pe, fn, tmps := a.tmps, params := ps, assign, body, defers := w.heap.size } := ⟨_, rfl⟩
  obtain ⟨W1, hW1⟩ : ∃ W1, (w.alloc (.deferred (some []))).alloc (.loop (rec .ready none)) = W1 := ⟨_, rfl⟩
  have hL1 : W1.heap[w.heap.size + 1]? = some (.loop (rec .ready none)) := by
    rw [← hW1]; have := World.alloc_heap_new (w.alloc (.deferred (some []))) (.loop (rec .ready none)); rwa [World.size_alloc] at this
  have hK1 : W1.heap[w.heap.size]? = some (.deferred (some [])) := by
    rw [← hW1]; exact (Below.heap_alloc _ _ _ (by simp)).trans (World.alloc_heap_new w _)
  have hb1 : Below w.heap.size w W1 := by
    rw [← hW1]; exact ((Below.refl _ w).alloc (Nat.le_refl _) _).alloc (by simp) _
  have hI1 : I [] W1 := hI [] w W1 none h0 ⟨hb1.os, hb1.tape, hb1.output, hb1.size, fun k hk _ => hb1.block k hk⟩ (fun r e => by cases e)
  refine ⟨w.heap.size + 1, [{ target := .collected w.heap.size, args := #[] }], W1, { target := .fn (.func 24) #[.pointer (some ⟨Bs, 0, none⟩)], args := #[.func (.yield (w.heap.size + 1)) #[] #[]] }, W1, 24,
    #[.func (.yield (w.heap.size + 1)) #[] #[]] ++ #[.pointer (some ⟨Bs, 0, none⟩)], W1, ?_, ?_, ?_, ?_, (fun h => by cases h), ?_⟩
  · rw [← hW1, hrec]; exact run_enterLoop_outer _ _ _ _ _
  · simp only [resolve, hg]
    simp [go_sem]
  · intro f' _; trivial
  · have eg : ∀ args w, (callFunc 24 args).run Try.prog w = .ok (.enter 24 args) w := enters_of Try.func24 (by kernel_rfl) rfl
    simp [invoke, go_sem, eg]
  · refine (lines1_in (n - 1) (w.heap.size + 1) Bs s
      (fun pre W => I pre W ∧ W.heap[w.heap.size + 1]? = some (.loop (rec .ready none)) ∧ W.heap[w.heap.size]? = some (.deferred (some []))) hs ?_ ?_ W1
      ((hb1.cell (p := ⟨Bs, 0, none⟩) hBs).trans hc) ((hb1.frozen (p := ⟨Bs, 0, none⟩) hBs).trans hf) ⟨hI1, hL1, hK1⟩).mono ?_
    · rintro pre W W' ⟨hi, hl, hk⟩ hgr
      refine ⟨hI pre W W' _ hi hgr (fun r e => .inl (by cases e; rfl)), ?_, ?_⟩
      · rw [hgr.block _ (Array.getElem?_eq_some_iff.1 hl).1 (fun e => by cases e; omega)]; exact hl
      · rw [hgr.block _ (Array.getElem?_eq_some_iff.1 hk).1 (fun e => by cases e; omega)]; exact hk
    · rintro pre x W hLf ⟨hi, hl, hk⟩
      have hlt : w.heap.size + 1 < W.heap.size := (Array.getElem?_eq_some_iff.1 hl).1
      have hy := run_yield (P := Try.prog) (args := #[.string x]) hl (by rw [hrec]; exact hps.symm)
      rw [hrec] at hy
      refine ⟨fn, _, assign, body, hy, roundIn_of_wpIn hfn (hassign _ x W _ ⟨_, run_beginRound hl (by rw [hrec]), ?_⟩)⟩
      have hl2 : (W.putObj (w.heap.size + 1) (.loop { rec .ready none with state := .busy })).heap[w.heap.size + 1]? = some (.loop { rec .ready none with state := .busy }) := World.putObj_heap_same hlt
      have hk2 : (W.putObj (w.heap.size + 1) (.loop { rec .ready none with state := .busy })).heap[w.heap.size]? = some (.deferred (some [])) := (World.putObj_heap_other (by omega)).trans hk
      have hcp : ∀ (X : World) (o : Obj), (X.putObj (w.heap.size + 1) o).cell? ⟨Bs, 0, none⟩ = X.cell? ⟨Bs, 0, none⟩ ∧ (X.putObj (w.heap.size + 1) o).frozen? ⟨Bs, 0, none⟩ = X.frozen? ⟨Bs, 0, none⟩ := fun X o =>
        ⟨World.cell?_of_block (World.putObj_heap_other (by show Bs ≠ w.heap.size + 1; omega)), World.frozen?_of_block (World.putObj_heap_other (by show Bs ≠ w.heap.size + 1; omega))⟩
      have hi2 : I pre (W.putObj (w.heap.size + 1) (.loop { rec .ready none with state := .busy })) := hI pre W _ _ hi (grownBy_putObj' W _ _) (fun r e => by cases e; exact .inr ⟨by omega, _, hl, rfl⟩)
      refine wpIn_mono (hbody _ pre x _ hLf hi2 (by simp; omega)) ?_
      rintro e a3 W3 hp
      cases e with
      | normal =>
        obtain ⟨hk3, ⟨hcs, hfs⟩, hi3⟩ := hp
        have hl3 := hk3.same _ _ hl2 rfl
        have hr := run_endRound (P := Try.prog) none hl3
        refine ⟨_, _, hr, rfl, ⟨hI _ W3 _ _ hi3 (grownBy_putObj' W3 _ _) (fun r e => by cases e; exact .inr ⟨by omega, _, hl3, rfl⟩), ?_, ?_⟩, ?_, ?_⟩
        · rw [hrec]; exact World.putObj_heap_same (Array.getElem?_eq_some_iff.1 hl3).1
        · exact (World.putObj_heap_other (by omega)).trans (hk3.same _ _ hk2 rfl)
        · exact (hcp W3 _).1.trans (hcs.trans (hcp W _).1)
        · exact (hcp W3 _).2.trans (hfs.trans (hcp W _).2)
      | ret => exact hp.elim
      | exit id => exact hp.elim
      | goto t => exact hp.elim
      | panic ch => exact hp.elim
      | outgrown => exact hp.elim
    · rintro e W2 ⟨⟨v, rfl⟩, xs, hS, hi, hl, hk⟩
      exact ⟨none, _, by have := run_endLoop (P := Try.prog) hl (by rw [hrec]; simp); rw [hrec] at this; exact this, hdone _ xs _ hS (hI _ W2 _ _ hi (grownBy_putObj' W2 _ _) (fun r e => by cases e; exact .inr ⟨by omega, _, hl, rfl⟩)) rfl ((World.putObj_heap_other (by omega)).trans hk)⟩

end Go.Proofs.Qxb6612439a
