/-
  What a world holds of a csvReader; appending a slice of bytes to a row of the call's own.
-/
import Derived.Test.Qxb6613468aDoorRs2
import Derived.Maps.AppendAt
import Derived.Laws.AppendOwnNone
namespace Go.Proofs.Qxb6613468aDoor
open Go.RowKit

theorem Tryd.info5 : (Tryd.prog.info? 5).map (fun i => (i.zero, i.size, i.bytes)) = some (some (.int .u8 0), 1, 1) := by kernel_rfl

theorem run_append_row {w : World} {ty : TypeId} {B n : Nat} {v u : Value} {xs : List Value} {y : List UInt8} (hown : w.ownsRow B 5 1 v n xs) (hu : RowB w u y) (hb : n + y.length ≤ 140737488355328) (hB : B ≤ w.heap.size) :
    ∃ v' w', (Builtin.append_ #[22, 22] ty #[v, u]).run Tryd.prog w = .ok v' w' ∧ w'.ownsRow B 5 1 v' (n + y.length) (xs ++ Lib.byteCells y) ∧ w.grownBy w' v.ownBlock ∧ (v'.ownBlock = v.ownBlock ∨ v'.ownBlock = some w.heap.size) := by
  obtain ⟨i0, hi0, hz0, hz1, hz2⟩ := info_parts Tryd.info5
  rcases hu with ⟨rfl, rfl⟩ | ⟨b, off, cap, rfl, hle, hin⟩
  · exact ⟨v, w, run_append_owned_none (P := Tryd.prog) w B 22 ty 5 i0 1 Tryd.underlying22 hi0 v n xs hown, by simpa [Lib.byteCells] using hown, World.grownBy.refl w _, .inl rfl⟩
  · obtain ⟨v', w', h1, h2, h3, _, h5⟩ := run_append_own_at (P := Tryd.prog) w B 22 ty 5 i0 _ 1 1 Tryd.underlying22 hi0 hz0 hz1 hz2 rfl (by decide) v n xs hown ⟨b, off, none⟩ y.length cap (Lib.byteCells y) (by rw [Lib.byteCells_length]; omega)
      (fun j u hv => by
        have hj : j < y.length := by have := (List.getElem?_eq_some_iff.1 hv).1; rw [Lib.byteCells_length] at this; exact this
        rw [Go.Addr.add_lit, hin.cell hj]
        simp [Lib.byteCells, hj] at hv
        rw [← hv]) (Lib.byteCells_one _) (by unfold maxLen; omega) (by omega) hB
    exact ⟨v', w', h1, h2, h3, h5⟩

theorem wpList_append_row {w : World} {ops : Array Oper} {rest : List Oper} {o : Oper} {a : Act} {Q : Exit → Act → World → Prop} (hgd : o.guard = none) (s x : Operand)
    (ho : o.op = .call { callee := .builtin .append, args := #[s, x], argTypes := #[22, 22] }) (B n : Nat) (v u : Value) (xs : List Value) (y : List UInt8) (hs : a.eval s = v) (hx : a.eval x = u) (hown : w.ownsRow B 5 1 v n xs) (hu : RowB w u y) (hb : n + y.length ≤ 140737488355328) (hB : B ≤ w.heap.size)
    (h : ∀ v' w', w'.ownsRow B 5 1 v' (n + y.length) (xs ++ Lib.byteCells y) → w.grownBy w' v.ownBlock → (v'.ownBlock = v.ownBlock ∨ v'.ownBlock = some w.heap.size) → wpList Tryd.prog ops Q rest (a.put o.dst v') w') :
    wpList Tryd.prog ops Q (o :: rest) a w := by
  refine wpList_plain hgd fun K hK => ?_
  obtain ⟨v', w', hr, h2, h3, h5⟩ := run_append_row (ty := o.type) hown hu hb hB
  unfold Oper.wp execOp
  simp only [ho, resolve, invoke, builtin, Sem.run_bind, Sem.run_pure, Result.andThen_ok, List.map_toArray, List.map_cons, List.map_nil, hs, hx, hr]
  exact hK _ _ (h v' w' h2 h3 h5)

theorem step_append_row {w : World} {ops : Array Oper} {o : Oper} {a : Act} {K : Act → World → Prop} {Q : Exit → Act → World → Prop} {E : Prop} (hgd : o.guard = none) (s x : Operand)
    (ho : o.op = .call { callee := .builtin .append, args := #[s, x], argTypes := #[22, 22] }) (B n : Nat) (v u : Value) (xs : List Value) (y : List UInt8) (hs : a.eval s = v) (hx : a.eval x = u) (hown : w.ownsRow B 5 1 v n xs) (hu : RowB w u y) (hb : n + y.length ≤ 140737488355328) (hB : B ≤ w.heap.size)
    (h : ∀ v' w', w'.ownsRow B 5 1 v' (n + y.length) (xs ++ Lib.byteCells y) → w.grownBy w' v.ownBlock → (v'.ownBlock = v.ownBlock ∨ v'.ownBlock = some w.heap.size) → K (a.put o.dst v') w') :
    if Region.wanted o (yielded ops a.tmps) = true then Oper.wp Tryd.prog o a w K Q else E := by
  have hw : Region.wanted o (yielded ops a.tmps) = true := by simp [Region.wanted, hgd]
  rw [if_pos hw]
  obtain ⟨v', w', hr, h2, h3, h5⟩ := run_append_row (ty := o.type) hown hu hb hB
  unfold Oper.wp execOp
  simp only [ho, resolve, invoke, builtin, Sem.run_bind, Sem.run_pure, Result.andThen_ok, List.map_toArray, List.map_cons, List.map_nil, hs, hx, hr]
  exact h v' w' h2 h3 h5

def cellsC (bb : Nat) (ln st : Int) (vt vl : Value) : Array Value := #[.pointer (some ⟨bb, 0, none⟩), .int .i64 ln, .int .i64 st, vt, .slice none 0 0, .slice none 0 0, vl]

/-- What a world holds of a csvReader. -/
structure CR (w : World) (B cb bb sb rb : Nat) (s : ByteArray) (ln st : Int) (text rem : List UInt8) (vt vl : Value) : Prop where
  hc : w.heap[cb]? = some (.cells (cellsC bb ln st vt vl) 47 (0, 0))
  br : ∃ r q i l, BR w bb sb rb s r q i .nilIface l ∧ remB l r q s i = rem
  tx : w.ownsRow B 5 1 vt text.length (Lib.byteCells text)
  lg : ∃ ll, w.ownsRow B 5 1 vl ll.length (Lib.byteCells ll)
  ntl : vt.ownBlock = none ∨ vt.ownBlock ≠ vl.ownBlock
  ntr : vt.ownBlock ≠ some rb
  nlr : vl.ownBlock ≠ some rb
  low : B ≤ cb ∧ B ≤ bb ∧ B ≤ sb ∧ B ≤ rb

theorem rows_apart {w : World} {B n s e e' : Nat} {v : Value} {xs : List Value} {k : Nat} {cs : Array Value} (he : e ≠ e') (h : w.ownsRow B e s v n xs) (h' : w.heap[k]? = some (.cells cs e' (0, 0))) : v.ownBlock ≠ some k := by
  rcases h.2 with ⟨rfl, _⟩ | ⟨g, cap, cur, rfl, _, hg, _⟩
  · intro e; cases e
  · intro e
    have : g = k := Option.some.inj e
    subst this
    rw [hg] at h'
    simp only [Option.some.injEq, Obj.cells.injEq] at h'
    exact he h'.2.1
theorem owns_only {S : Nat → Prop} {w w' : World} {B n e s : Nat} {v : Value} {xs : List Value} (h : w.ownsRow B e s v n xs) (ho : Only S w w') (hS : ∀ k, v.ownBlock = some k → ¬ S k) : w'.ownsRow B e s v n xs := by
  refine ⟨h.1, ?_⟩
  rcases h.2 with h | ⟨g, cap, cur, rfl, h2, h3, h4⟩
  · exact .inl h
  · exact .inr ⟨g, cap, cur, rfl, h2, ho.heap h3 (hS g rfl), h4⟩
theorem BR.only {S : Nat → Prop} {w w' : World} {bb sb rb : Nat} {s : ByteArray} {r q i : Nat} {e : Value} {l : List UInt8} (h : BR w bb sb rb s r q i e l) (ho : Only S w w') (h1 : ¬ S bb) (h2 : ¬ S sb) (h3 : ¬ S rb) : BR w' bb sb rb s r q i e l := by
  refine ⟨?_, ?_, ho.heap h.hr h3, h.hl, h.hrq, h.hq, h.hi, h.hsz⟩
  · obtain ⟨x, y, hb⟩ := h.hb; exact ⟨x, y, ho.heap hb h1⟩
  · obtain ⟨z, hz⟩ := h.hs; exact ⟨z, ho.heap hz h2⟩
theorem CR.ncb {w : World} {B cb bb sb rb : Nat} {s : ByteArray} {ln st : Int} {text rem : List UInt8} {vt vl : Value} (h : CR w B cb bb sb rb s ln st text rem vt vl) : ¬ Bs bb sb rb cb ∧ cb ≠ bb ∧ cb ≠ sb ∧ cb ≠ rb := by
  obtain ⟨r, q, i, l, hbr, _⟩ := h.br
  obtain ⟨x, y, hb⟩ := hbr.hb
  obtain ⟨z, hz⟩ := hbr.hs
  have hr := hbr.hr
  have hc := h.hc
  have n1 : cb ≠ bb := by rintro rfl; rw [hc] at hb; simp at hb
  have n2 : cb ≠ sb := by rintro rfl; rw [hc] at hz; simp at hz
  have n3 : cb ≠ rb := by rintro rfl; rw [hc] at hr; simp at hr
  exact ⟨fun e => by rcases e with e | e | e <;> contradiction, n1, n2, n3⟩
/-- The row of the text, or of the long line, is none of the reader's other blocks. -/
theorem CR.rowApart {w : World} {B cb bb sb rb : Nat} {s : ByteArray} {ln st : Int} {text rem : List UInt8} {vt vl : Value} (h : CR w B cb bb sb rb s ln st text rem vt vl) :
    (∀ k, vt.ownBlock = some k → k ≠ cb ∧ ¬ Bs bb sb rb k) ∧ (∀ k, vl.ownBlock = some k → k ≠ cb ∧ ¬ Bs bb sb rb k) := by
  obtain ⟨r, q, i, l, hbr, _⟩ := h.br
  obtain ⟨x, y, hb⟩ := hbr.hb
  obtain ⟨z, hz⟩ := hbr.hs
  obtain ⟨ll, hll⟩ := h.lg
  have key : ∀ (v : Value) (n : Nat) (xs : List Value), w.ownsRow B 5 1 v n xs → v.ownBlock ≠ some rb → ∀ k, v.ownBlock = some k → k ≠ cb ∧ ¬ Bs bb sb rb k := by
    intro v n xs ho hr k hk
    refine ⟨fun e => rows_apart (by decide) ho h.hc (e ▸ hk), fun e => ?_⟩
    rcases e with e | e | e
    · exact rows_apart (by decide) ho hb (e ▸ hk)
    · exact rows_apart (by decide) ho hz (e ▸ hk)
    · exact hr (e ▸ hk)
  exact ⟨key _ _ _ h.tx h.ntr, key _ _ _ hll h.nlr⟩

end Go.Proofs.Qxb6613468aDoor
