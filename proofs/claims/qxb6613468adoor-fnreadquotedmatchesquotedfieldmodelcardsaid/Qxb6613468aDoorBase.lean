/-
  What a world holds of a bufio.Reader over a strings.Reader; what a call leaves alone.
-/
import Derived.Test.Qxb6613468aDoorRows
import Derived.WalkKit
import Derived.WalkSpells
import Derived.WalkLawsBesides
import Derived.PlainAid
import Derived.BigQuiet
import Derived.Deep.AppendLies
import Derived.Deep.RegionHeld3
import Derived.Laws.CopyOwn
import Derived.Laws.OwnMore
import Derived.Lib.UnsafeStr
import Derived.Lib.BytesEntry
import Derived.Lib.SliceRun
import Derived.Lib.IndexLaws
import Derived.LaidEql
import Derived.Deep.Draws
namespace Go.Proofs.Qxb6613468aDoor
open Go.RowKit

def bytesOf (s : ByteArray) : List UInt8 := s.data.toList
theorem bytesOf_size (s : ByteArray) : (bytesOf s).length = s.size := (Lib.size_eq s).symm

/-- Nothing but the blocks of S (and new ones) has turned. -/
structure Only (S : Nat → Prop) (w w' : World) : Prop where
  os : w'.os = w.os
  tape : w'.tape = w.tape
  output : w'.output = w.output
  size : w.heap.size ≤ w'.heap.size
  block : ∀ k, k < w.heap.size → ¬ S k → w'.heap[k]? = w.heap[k]?

theorem Only.refl (S : Nat → Prop) (w : World) : Only S w w := ⟨rfl, rfl, rfl, Nat.le_refl _, fun _ _ _ => rfl⟩
theorem Only.trans {S : Nat → Prop} {a b c : World} (h : Only S a b) (k : Only S b c) : Only S a c :=
  ⟨k.os.trans h.os, k.tape.trans h.tape, k.output.trans h.output, Nat.le_trans h.size k.size, fun j hj hS => (k.block j (Nat.lt_of_lt_of_le hj h.size) hS).trans (h.block j hj hS)⟩
theorem Only.mono {S T : Nat → Prop} {a b : World} (h : Only S a b) (hS : ∀ k, S k → T k) : Only T a b := ⟨h.os, h.tape, h.output, h.size, fun j hj hT => h.block j hj (fun e => hT (hS j e))⟩
theorem Only.drewN {S : Nat → Prop} {a b : World} (h : Only S a b) (n : Nat) : Only S a (b.drewN n) := ⟨h.os, h.tape, h.output, h.size, h.block⟩
theorem Only.drew {S : Nat → Prop} {a b : World} (h : Only S a b) : Only S a b.drew := ⟨h.os, h.tape, h.output, h.size, h.block⟩
theorem Only.setCell {S : Nat → Prop} {a b : World} (h : Only S a b) {p : Addr} (hp : S p.block) (v : Value) : Only S a (b.setCell p v) :=
  ⟨h.os, h.tape, h.output, by simpa [World.setCell] using h.size, fun k hk hS => (Below.heap_setCell b p v k (fun e => hS (e ▸ hp))).trans (h.block k hk hS)⟩
theorem Only.setRow {S : Nat → Prop} {a b : World} (h : Only S a b) {g : Nat} (hg : S g) (cs : Array Value) : Only S a (b.setRow g cs) :=
  ⟨h.os, h.tape, h.output, by simpa [World.setRow] using h.size, fun k hk hS => (setRow_other b g k cs (fun e => hS (e ▸ hg))).trans (h.block k hk hS)⟩
theorem Only.alloc {S : Nat → Prop} {a b : World} (h : Only S a b) (o : Obj) : Only S a (b.alloc o) :=
  ⟨h.os, h.tape, h.output, by simp; have := h.size; omega, fun k hk hS => (Below.heap_alloc b o k (Nat.lt_of_lt_of_le hk h.size)).trans (h.block k hk hS)⟩
theorem Only.grown {S : Nat → Prop} {a b c : World} {row : Option Nat} (h : Only S a b) (hg : b.grownBy c row) (hr : ∀ k, row = some k → S k) : Only S a c :=
  ⟨hg.os.trans h.os, hg.tape.trans h.tape, hg.output.trans h.output, Nat.le_trans h.size hg.size, fun k hk hS => (hg.block k (Nat.lt_of_lt_of_le hk h.size) (fun e => hS (hr k e.symm))).trans (h.block k hk hS)⟩
theorem Only.below {S : Nat → Prop} {a b : World} (h : Only S a b) {B : Nat} (hB : B ≤ a.heap.size) (hS : ∀ k, S k → B ≤ k) : Below B a b :=
  ⟨h.os, h.tape, h.output, h.size, fun k hk => h.block k (by omega) (fun e => by have := hS k e; omega)⟩
theorem Only.ofBelow {S : Nat → Prop} {a b : World} {B : Nat} (h : Below B a b) (hS : ∀ k, k < a.heap.size → ¬ S k → k < B) : Only S a b := ⟨h.os, h.tape, h.output, h.size, fun k hk hn => h.block k (hS k hk hn)⟩
theorem Only.heap {S : Nat → Prop} {a b : World} (h : Only S a b) {k : Nat} {o : Obj} (hk : a.heap[k]? = some o) (hS : ¬ S k) : b.heap[k]? = some o :=
  (h.block k (Array.getElem?_eq_some_iff.1 hk).1 hS).trans hk
theorem Only.cell {S : Nat → Prop} {a b : World} (h : Only S a b) {p : Addr} {v : Value} (hp : a.cell? p = some v) (hS : ¬ S p.block) : b.cell? p = some v :=
  (World.cell?_of_block (h.block p.block (World.block_lt_of_cell? a p hp) hS)).trans hp

theorem free_of_row {w : World} {g j : Nat} {cs : Array Value} {t : TypeId} (hg : w.heap[g]? = some (.cells cs t (0, 0))) : w.frozen? ⟨g, j, none⟩ = false := Lib.frozen_of_heap hg _

/-- From place off on the row b holds the bytes l. -/
def In (w : World) (b off : Nat) (l : List UInt8) : Prop := ∃ cur fr, w.heap[b]? = some (.cells cur 5 fr) ∧ ∀ i (h : i < l.length), cur[off + i]? = some (.int .u8 (l[i].toNat : Int))

theorem In.cell {w : World} {b off : Nat} {l : List UInt8} (h : In w b off l) {i : Nat} (hi : i < l.length) : w.cell? ⟨b, off + i, none⟩ = some (.int .u8 (l[i].toNat : Int)) := by
  obtain ⟨cur, fr, h1, h2⟩ := h
  rw [cell_of_row w b _ cur 5 _ h1]
  exact h2 i hi
theorem In.lt {w : World} {b off : Nat} {l : List UInt8} (h : In w b off l) : b < w.heap.size := by
  obtain ⟨cur, fr, h1, _⟩ := h
  exact (Array.getElem?_eq_some_iff.1 h1).1
theorem In.take {w : World} {b off : Nat} {l : List UInt8} (h : In w b off l) (k : Nat) : In w b off (l.take k) := by
  obtain ⟨cur, fr, h1, h2⟩ := h
  refine ⟨cur, fr, h1, fun i hi => ?_⟩
  rw [List.getElem_take]
  exact h2 i (by simp at hi; omega)
theorem In.drop {w : World} {b off : Nat} {l : List UInt8} (h : In w b off l) (k : Nat) : In w b (off + k) (l.drop k) := by
  obtain ⟨cur, fr, h1, h2⟩ := h
  refine ⟨cur, fr, h1, fun i hi => ?_⟩
  rw [List.getElem_drop, Nat.add_assoc]
  exact h2 (k + i) (by simp at hi; omega)
theorem In.only {S : Nat → Prop} {w w' : World} {b off : Nat} {l : List UInt8} (h : In w b off l) (ho : Only S w w') (hS : ¬ S b) : In w' b off l := by
  obtain ⟨cur, fr, h1, h2⟩ := h
  exact ⟨cur, fr, ho.heap h1 hS, h2⟩
theorem In.drewN {w : World} {b off : Nat} {l : List UInt8} (h : In w b off l) (n : Nat) : In (w.drewN n) b off l := h

/-- A slice of bytes and what it reads as. -/
def RowB (w : World) (v : Value) (l : List UInt8) : Prop :=
  (v = .slice none 0 0 ∧ l = []) ∨ ∃ b off cap, v = .slice (some ⟨b, off, none⟩) l.length cap ∧ l.length ≤ cap ∧ In w b off l

/-- The block that a slice lies in. -/
def blockOf : Value → Option Nat
  | .slice (some a) _ _ => some a.block
  | _ => none
theorem RowB.only {S : Nat → Prop} {w w' : World} {v : Value} {l : List UInt8} (h : RowB w v l) (ho : Only S w w') (hS : ∀ b, blockOf v = some b → ¬ S b) : RowB w' v l := by
  rcases h with h | ⟨b, off, cap, rfl, h2, h3⟩
  · exact .inl h
  · exact .inr ⟨b, off, cap, rfl, h2, h3.only ho (hS b rfl)⟩
theorem RowB.drewN {w : World} {v : Value} {l : List UInt8} (h : RowB w v l) (n : Nat) : RowB (w.drewN n) v l := h

/-- The sentinels: csv.ErrQuote, io.EOF, bufio.ErrBufferFull: three pointers. -/
structure Sen (w : World) (B : Nat) (a0 a1 a2 : Addr) : Prop where
  g0 : w.cell? ⟨0, 0, none⟩ = some (.iface 70 (.pointer (some a0)))
  g1 : w.cell? ⟨1, 0, none⟩ = some (.iface 70 (.pointer (some a1)))
  g2 : w.cell? ⟨2, 0, none⟩ = some (.iface 70 (.pointer (some a2)))
  h0 : ∃ c t, w.heap[a0.block]? = some (.cells c t (0, 0))
  h1 : ∃ c t, w.heap[a1.block]? = some (.cells c t (0, 0))
  h2 : ∃ c t, w.heap[a2.block]? = some (.cells c t (0, 0))
  n01 : a0 ≠ a1
  n12 : a1 ≠ a2
  lt : 2 < B ∧ a0.block < B ∧ a1.block < B ∧ a2.block < B

theorem Sen.only {S : Nat → Prop} {w w' : World} {B : Nat} {a0 a1 a2 : Addr} (h : Sen w B a0 a1 a2) (hb : Only S w w') (hS : ∀ k, S k → B ≤ k) : Sen w' B a0 a1 a2 := by
  obtain ⟨l3, l0, l1, l2⟩ := h.lt
  have no : ∀ k, k < B → ¬ S k := fun k hk e => by have := hS k e; omega
  refine ⟨hb.cell h.g0 (no 0 (by omega)), hb.cell h.g1 (no 1 (by omega)), hb.cell h.g2 (no 2 (by omega)), ?_, ?_, ?_, h.n01, h.n12, h.lt⟩
  · obtain ⟨c, t, e⟩ := h.h0; exact ⟨c, t, hb.heap e (no _ l0)⟩
  · obtain ⟨c, t, e⟩ := h.h1; exact ⟨c, t, hb.heap e (no _ l1)⟩
  · obtain ⟨c, t, e⟩ := h.h2; exact ⟨c, t, hb.heap e (no _ l2)⟩

end Go.Proofs.Qxb6613468aDoor
