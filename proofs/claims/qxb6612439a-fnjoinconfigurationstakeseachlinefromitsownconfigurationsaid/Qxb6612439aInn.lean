/-
  What JoinConfigurations' inner loop keeps in memory.
-/
import Derived.Test.Qxb6612439aSort
namespace Go.Proofs.Qxb6612439a
open Go.RowKit Go.Shelf

theorem grown_alloc (w : World) (o : Obj) : w.grownBy (w.alloc o) none :=
  ⟨rfl, rfl, rfl, by simp, fun k hk _ => Below.heap_alloc _ _ _ hk⟩
theorem grown_drewN (w : World) (n : Nat) : w.grownBy (w.drewN n) none := ⟨rfl, rfl, rfl, Nat.le_refl _, fun _ _ _ => rfl⟩

/-- v, ls: the lines gathered so far; the round's own box (W.heap.size) holds k; the iterator's box is W.heap.size + 1. -/
structure InnV (w W : World) (fv v : Value) (ls : List (ByteArray × ByteArray)) (Ds : List Nat) (k : Nat) (tx : List (List UInt8)) (X : World) : Prop where
  lin : Lin w X fv v ls Ds
  kb : X.cell? ⟨W.heap.size, 0, none⟩ = some (.int .i64 k)
  nk : v.ownBlock ≠ some W.heap.size
  ns : v.ownBlock ≠ some (W.heap.size + 1)
  t : ls.map (fun p => bytesOf p.2) = tx
  nm : ∀ p ∈ ls, bytesOf p.1 = nameL (bytesOf p.2)
  sz : W.heap.size + 2 ≤ X.heap.size
  dsl : ∀ D ∈ Ds, D < W.heap.size
  wsz : w.heap.size + 1 < W.heap.size

theorem InnV.grown {w W X X' : World} {fv v : Value} {ls : List (ByteArray × ByteArray)} {Ds : List Nat} {k : Nat} {tx : List (List UInt8)} {row : Option Nat} (h : InnV w W fv v ls Ds k tx X) (hg : X.grownBy X' row)
    (hr : ∀ r, row = some r → W.heap.size < r ∧ v.ownBlock ≠ some r) : InnV w W fv v ls Ds k tx X' := by
  have hw := h.wsz
  refine ⟨h.lin.grown hg (fun r e => ⟨by have := (hr r e).1; omega, fun hD => by have := (hr r e).1; have := h.dsl r hD; omega, (hr r e).2⟩), ?_, h.nk, h.ns, h.t, h.nm, Nat.le_trans h.sz hg.size, h.dsl, h.wsz⟩
  exact (World.cell?_of_block (a := ⟨W.heap.size, 0, none⟩) (hg.block W.heap.size (by have := h.sz; omega) (fun e => by have := (hr _ e.symm).1; omega))).trans h.kb

/-- A block that the row lies in holds cells. -/
theorem InnV.row {w W X : World} {fv v : Value} {ls : List (ByteArray × ByteArray)} {Ds : List Nat} {k : Nat} {tx : List (List UInt8)} (h : InnV w W fv v ls Ds k tx X) {r : Nat} {o : Obj} (hr : X.heap[r]? = some o) (ho : o.isCells = false) : v.ownBlock ≠ some r := by
  intro e
  rcases h.lin.own.2 with ⟨rfl, _⟩ | ⟨g, cap, cur, rfl, _, hc, _⟩
  · cases e
  · have : g = r := Option.some.inj e
    subst this
    rw [hc] at hr
    cases Option.some.inj hr
    cases ho

theorem InnV.add {w W X X2 : World} {fv v v' : Value} {ls : List (ByteArray × ByteArray)} {Ds : List Nat} {k : Nat} {tx : List (List UInt8)} {nm x : ByteArray} {o : Obj} (h : InnV w W fv v ls Ds k tx X)
    (hown : X2.ownsRow w.heap.size 50 2 v' (ls.length + 1) (cellsL ls ++ [.string nm, .string x])) (hg : (X.alloc o).grownBy X2 v.ownBlock) (hv : v'.ownBlock = v.ownBlock ∨ v'.ownBlock = some (X.alloc o).heap.size)
    (hnm : bytesOf nm = nameL (bytesOf x)) :
    InnV w W fv v' (ls ++ [(nm, x)]) Ds k (tx ++ [bytesOf x]) (X2.setCell ⟨w.heap.size + 1, 0, none⟩ v') ∧ KeepsOthers X (X2.setCell ⟨w.heap.size + 1, 0, none⟩ v') ∧
      (X2.setCell ⟨w.heap.size + 1, 0, none⟩ v').cell? ⟨W.heap.size + 1, 0, none⟩ = X.cell? ⟨W.heap.size + 1, 0, none⟩ ∧ (X2.setCell ⟨w.heap.size + 1, 0, none⟩ v').frozen? ⟨W.heap.size + 1, 0, none⟩ = X.frozen? ⟨W.heap.size + 1, 0, none⟩ := by
  have hwsz := h.wsz
  have hsz := h.sz
  have hsa : (X.alloc o).heap.size = X.heap.size + 1 := World.size_alloc ..
  have h2 : ∀ b, b < X.heap.size → v.ownBlock ≠ some b → X2.heap[b]? = X.heap[b]? := fun b hb hn =>
    (hg.block b (by omega) (fun e => hn e.symm)).trans (Below.heap_alloc _ _ _ hb)
  have h3 : ∀ b, b ≠ w.heap.size + 1 → (X2.setCell ⟨w.heap.size + 1, 0, none⟩ v').heap[b]? = X2.heap[b]? := fun b hb => Below.heap_setCell X2 ⟨w.heap.size + 1, 0, none⟩ v' b hb
  have h4 : ∀ b, b < X.heap.size → v.ownBlock ≠ some b → b ≠ w.heap.size + 1 → (X2.setCell ⟨w.heap.size + 1, 0, none⟩ v').heap[b]? = X.heap[b]? := fun b h1 hn hb => (h3 b hb).trans (h2 b h1 hn)
  have hc1 : X2.cell? ⟨w.heap.size + 1, 0, none⟩ = some v := (World.cell?_of_block (a := ⟨w.heap.size + 1, 0, none⟩) (h2 (w.heap.size + 1) (by omega) h.lin.v1)).trans h.lin.c1
  have hf1 : X2.frozen? ⟨w.heap.size + 1, 0, none⟩ = false := (World.frozen?_of_block (a := ⟨w.heap.size + 1, 0, none⟩) (h2 (w.heap.size + 1) (by omega) h.lin.v1)).trans h.lin.f1
  have hko : KeepsOthers X (X2.setCell ⟨w.heap.size + 1, 0, none⟩ v') := ((KeepsOthers.alloc X o).trans (KeepsOthers.of_grownBy hg fun j ob ej hj => by
    have hx : (X.alloc o).ownsRow w.heap.size 50 2 v ls.length (cellsL ls) := h.lin.own.alloc o
    rcases hx.2 with ⟨rfl, _⟩ | ⟨g, cap, cur, rfl, _, hc, _⟩
    · cases ej
    · have : g = j := Option.some.inj ej
      subst this
      rw [hc] at hj
      cases Option.some.inj hj
      rfl)).trans (KeepsOthers.setCell _ _ _)
  have hnv : ∀ b, b < X.heap.size → v.ownBlock ≠ some b → v'.ownBlock ≠ some b := fun b hb hn e => by
    rcases hv with e' | e'
    · exact hn (e'.symm.trans e)
    · rw [e'] at e; have := Option.some.inj e; omega
  have hx2 : X.heap.size ≤ X2.heap.size := by have := hg.size; omega
  refine ⟨⟨⟨?_, ?_, ?_, ?_, ?_, ?_, ?_, ?_, ?_, h.lin.nd, h.lin.dl⟩, ?_, ?_, ?_, ?_, ?_, ?_, h.dsl, h.wsz⟩, hko, ?_, ?_⟩
  · exact (World.cell?_of_block (a := ⟨w.heap.size, 0, none⟩) (h4 w.heap.size (by omega) h.lin.v0 (by omega))).trans h.lin.c0
  · exact World.cell?_setCell_same _ _ _ hc1
  · exact (World.frozen?_setCell ..).trans hf1
  · simp; omega
  · rw [cellsL_snoc, List.length_append]
    refine hown.kept (grownBy_setCell X2 ⟨w.heap.size + 1, 0, none⟩ v') ?_
    exact .inr (hnv (w.heap.size + 1) (by omega) h.lin.v1)
  · exact hnv _ (by omega) h.lin.v0
  · exact hnv _ (by omega) h.lin.v1
  · have hb1 : Below w.heap.size w (X.alloc o) := h.lin.bel.alloc h.lin.bel.size o
    have hb2 : Below w.heap.size w X2 := hb1.grown hg (by omega) (fun r e => (h.lin.own.lt r e).1)
    exact hb2.grown (grownBy_setCell X2 ⟨w.heap.size + 1, 0, none⟩ v') (by omega) (fun r e => by cases e; show w.heap.size ≤ w.heap.size + 1; omega)
  · intro D hD
    exact hko.same D _ (h.lin.ds D hD) rfl
  · exact (World.cell?_of_block (a := ⟨W.heap.size, 0, none⟩) (h4 W.heap.size (by omega) h.nk (by omega))).trans h.kb
  · exact hnv _ (by omega) h.nk
  · exact hnv _ (by omega) h.ns
  · rw [List.map_append, h.t]; rfl
  · intro p hp
    rcases List.mem_append.1 hp with e | e
    · exact h.nm p e
    · simp at e; subst e; exact hnm
  · simp; omega
  · exact World.cell?_of_block (a := ⟨W.heap.size + 1, 0, none⟩) (h4 (W.heap.size + 1) (by omega) h.ns (by omega))
  · exact World.frozen?_of_block (a := ⟨W.heap.size + 1, 0, none⟩) (h4 (W.heap.size + 1) (by omega) h.ns (by omega))

theorem InnV.box {w W X X2 : World} {fv v : Value} {ls : List (ByteArray × ByteArray)} {Ds : List Nat} {k : Nat} {tx : List (List UInt8)} {o : Obj} (h : InnV w W fv v ls Ds k tx X) (hg : (X.alloc o).grownBy X2 v.ownBlock) :
    X2.cell? ⟨w.heap.size + 1, 0, none⟩ = some v ∧ X2.frozen? ⟨w.heap.size + 1, 0, none⟩ = false := by
  have hwsz := h.wsz
  have hsz := h.sz
  have h2 : X2.heap[w.heap.size + 1]? = X.heap[w.heap.size + 1]? := (hg.block (w.heap.size + 1) (by simp; omega) (fun e => h.lin.v1 e.symm)).trans (Below.heap_alloc _ _ _ (by omega))
  exact ⟨(World.cell?_of_block (a := ⟨w.heap.size + 1, 0, none⟩) h2).trans h.lin.c1, (World.frozen?_of_block (a := ⟨w.heap.size + 1, 0, none⟩) h2).trans h.lin.f1⟩

theorem two_new (W : World) (o : Obj) (u : Value) (t : TypeId) : ((W.alloc o).alloc (.cells #[u] t)).cell? ⟨W.heap.size + 1, 0, none⟩ = some u ∧ ((W.alloc o).alloc (.cells #[u] t)).frozen? ⟨W.heap.size + 1, 0, none⟩ = false := by
  have h := World.alloc_heap_new (W.alloc o) (.cells #[u] t)
  rw [World.size_alloc] at h
  constructor
  · unfold World.cell?
    simp only [h]
    rfl
  · unfold World.frozen?
    simp only [h]
    rfl

theorem one_new (W : World) (o : Obj) (u : Value) (t : TypeId) : ((W.alloc (.cells #[u] t)).alloc o).cell? ⟨W.heap.size, 0, none⟩ = some u ∧ ((W.alloc (.cells #[u] t)).alloc o).frozen? ⟨W.heap.size, 0, none⟩ = false := by
  have h := (Below.heap_alloc (W.alloc (.cells #[u] t)) o W.heap.size (by simp)).trans (World.alloc_heap_new W (.cells #[u] t))
  constructor
  · unfold World.cell?
    simp only [h]
    rfl
  · unfold World.frozen?
    simp only [h]
    rfl

theorem Lin.start (w : World) (fv : Value) : Lin w ((w.alloc (.cells #[fv] 38)).alloc (.cells #[.slice none 0 0] 43)) fv (.slice none 0 0) [] [] := by
  refine ⟨(one_new w _ fv 38).1, (two_new w _ (.slice none 0 0) 43).1, (two_new w _ (.slice none 0 0) 43).2, by simp, World.ownsRow_nil _ _ _ _, by simp [Value.ownBlock], by simp [Value.ownBlock], ?_, fun D hD => (by cases hD), List.nodup_nil, fun D hD => (by cases hD)⟩
  exact ((Below.refl _ w).alloc (Nat.le_refl _) _).alloc (by simp) _

theorem InnV.start {w W : World} {fv v : Value} {ls : List (ByteArray × ByteArray)} {Ds : List Nat} {k : Nat} {tx : List (List UInt8)} {o : Obj} (h : Lin w W fv v ls Ds) (ht : ls.map (fun p => bytesOf p.2) = tx) (hn : ∀ p ∈ ls, bytesOf p.1 = nameL (bytesOf p.2)) :
    InnV w W fv v ls Ds k tx ((W.alloc (.cells #[.int .i64 k] 3)).alloc o) := by
  have hg1 := grown_alloc W (.cells #[.int .i64 (k : Int)] 3)
  have hg2 := grown_alloc (W.alloc (.cells #[.int .i64 (k : Int)] 3)) o
  refine ⟨(h.grown hg1 (fun r e => by cases e)).grown hg2 (fun r e => by cases e), (one_new W o _ 3).1, fun e => ?_, fun e => ?_, ht, hn, by simp, fun D hD => (Array.getElem?_eq_some_iff.1 (h.ds D hD)).1, h.sz⟩
  · have := (h.own.lt _ e).2; omega
  · have := (h.own.lt _ e).2; omega

theorem InnV.done {w W X : World} {fv v : Value} {ls : List (ByteArray × ByteArray)} {Ds : List Nat} {k D : Nat} {tx : List (List UInt8)} (h : InnV w W fv v ls Ds k tx X) (hD : W.heap.size ≤ D) (hX : X.heap[D]? = some (.deferred (some []))) : Lin w X fv v ls (D :: Ds) := by
  refine ⟨h.lin.c0, h.lin.c1, h.lin.f1, h.lin.sz, h.lin.own, h.lin.v0, h.lin.v1, h.lin.bel, fun E hE => ?_, List.nodup_cons.2 ⟨fun hm => by have := h.dsl D hm; omega, h.lin.nd⟩, fun E hE => ?_⟩
  · rcases List.mem_cons.1 hE with rfl | e
    · exact hX
    · exact h.lin.ds E e
  rcases List.mem_cons.1 hE with rfl | e
  · have := h.wsz; omega
  · exact h.lin.dl E e

end Go.Proofs.Qxb6612439a
