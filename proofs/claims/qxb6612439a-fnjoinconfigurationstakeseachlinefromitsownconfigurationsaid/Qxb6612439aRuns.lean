/-
  A row of runs ([][]jline) in the call's own memory.
-/
import Derived.Test.Qxb6612439aTakeP
import Derived.Deep.Onto
namespace Go.Proofs.Qxb6612439a
open Go.RowKit Go.Shelf

theorem Try.info30 : (Try.prog.info? 30).map (fun i => (i.zero, i.size, i.bytes)) = some (some (.slice none 0 0), 1, 24) := by kernel_rfl

/-- v is a row of runs: its cells vs hold the lines lss. -/
structure Runs (w : World) (B : Nat) (v : Value) (vs : List Value) (lss : List (List Line)) : Prop where
  own : w.ownsRow B 30 1 v lss.length vs
  each : ∀ i (h : i < lss.length), ∃ u, vs[i]? = some u ∧ w.ownsRow 0 34 2 u lss[i].length (cellsL lss[i])

theorem rows_apart {w : World} {B B' n m s s' e e' : Nat} {v u : Value} {xs ys : List Value} (he : e ≠ e') (h : w.ownsRow B e s v n xs) (h' : w.ownsRow B' e' s' u m ys) : u.ownBlock = none ∨ u.ownBlock ≠ v.ownBlock := by
  rcases h'.2 with ⟨rfl, _⟩ | ⟨g, cap, cur, rfl, _, hg, _⟩
  · exact .inl rfl
  · right
    rcases h.2 with ⟨rfl, _⟩ | ⟨g', cap', cur', rfl, _, hg', _⟩
    · intro e; cases e
    · intro e
      have : g = g' := Option.some.inj e
      subst this
      rw [hg] at hg'
      simp only [Option.some.injEq, Obj.cells.injEq] at hg'
      exact he hg'.2.1.symm

theorem Runs.below {w w' : World} {B : Nat} {v : Value} {vs : List Value} {lss : List (List Line)} (h : Runs w B v vs lss) (hb : Below w.heap.size w w') : Runs w' B v vs lss :=
  ⟨owns_below h.own hb, fun i hi => by obtain ⟨u, h1, h2⟩ := h.each i hi; exact ⟨u, h1, owns_below h2 hb⟩⟩

theorem Runs.start {w : World} {B : Nat} {v : Value} (h : w.ownsRow B 30 1 v 0 []) : Runs w B v [] [] := ⟨h, fun i hi => by simp at hi⟩

theorem Runs.push {w w3 : World} {B : Nat} {v v' u : Value} {vs : List Value} {lss : List (List Line)} {l : List Line} {o : Obj} (h : Runs w B v vs lss) (hu : w.ownsRow 0 34 2 u l.length (cellsL l))
    (ho : w3.ownsRow B 30 1 v' (lss.length + 1) (vs ++ [u])) (hg : (w.alloc o).grownBy w3 v.ownBlock) : Runs w3 B v' (vs ++ [u]) (lss ++ [l]) := by
  have hvl : vs.length = lss.length := by have := h.own.1; omega
  refine ⟨by rw [List.length_append]; exact ho, fun i hi => ?_⟩
  rcases Nat.lt_or_ge i lss.length with hlt | hge
  · obtain ⟨x, h1, h2⟩ := h.each i hlt
    refine ⟨x, by rw [List.getElem?_append_left (by omega)]; exact h1, ?_⟩
    rw [List.getElem_append_left hlt]
    exact (h2.alloc o).kept hg (rows_apart (by decide) h.own h2)
  · have : i = lss.length := by simp at hi; omega
    subst this
    refine ⟨u, by rw [List.getElem?_append_right (by omega), hvl]; simp, ?_⟩
    rw [List.getElem_append_right (Nat.le_refl _)]
    simpa using (hu.alloc o).kept hg (rows_apart (by decide) h.own hu)

theorem Runs.at {w : World} {B n cap : Nat} {a : Option Addr} {vs : List Value} {lss : List (List Line)} (h : Runs w B (.slice a n cap) vs lss) (hn : lss.length = n) {i : Nat} (hi : i < n) :
    ∃ g ua uc, a = some ⟨g, 0, none⟩ ∧ g < w.heap.size ∧ w.cell? ⟨g, i, none⟩ = some (.slice ua (lss[i]'(by omega)).length uc) ∧ w.ownsRow 0 34 2 (.slice ua (lss[i]'(by omega)).length uc) (lss[i]'(by omega)).length (cellsL (lss[i]'(by omega))) := by
  obtain ⟨u, h1, h2⟩ := h.each i (by omega)
  obtain ⟨ua, uc, rfl⟩ := ownsRow_slice h2
  rcases h.own.2 with ⟨h3, h4⟩ | ⟨g, c, cur, h3, _⟩
  · omega
  · simp only [Value.slice.injEq] at h3
    obtain ⟨rfl, _, rfl⟩ := h3
    have ho := h.own
    rw [hn] at ho
    have hc := ho.cellAt i (by omega)
    rw [h1] at hc
    exact ⟨g, ua, uc, rfl, World.block_lt_of_cell? _ _ hc, hc, h2⟩

theorem below_push {w0 w w3 : World} {B B0 n : Nat} {v : Value} {xs : List Value} {o : Obj} (hb : Below B0 w0 w) (hB : B0 ≤ B) (hsz : B0 ≤ w.heap.size) (h : w.ownsRow B 30 1 v n xs) (hg : (w.alloc o).grownBy w3 v.ownBlock) : Below B0 w0 w3 :=
  (hb.alloc hsz o).grown hg (by simp; omega) (fun k e => Nat.le_trans hB (h.lt k e).1)

end Go.Proofs.Qxb6612439a
