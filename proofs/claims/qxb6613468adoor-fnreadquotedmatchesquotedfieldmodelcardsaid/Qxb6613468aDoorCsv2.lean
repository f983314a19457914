/-
  Turning a csvReader; the sentinels' comparisons; a line of the bytes to come.
-/
import Derived.Test.Qxb6613468aDoorCsv
namespace Go.Proofs.Qxb6613468aDoor
open Go.RowKit

abbrev I (a : Addr) : Value := .iface 70 (.pointer (some a))

theorem info70 : ∃ i, Tryd.prog.info? 70 = some i ∧ i.comparable = true := by
  have h : (Tryd.prog.info? 70).map (fun i => i.comparable) = some true := by kernel_rfl
  cases hq : Tryd.prog.info? 70 with
  | none => rw [hq] at h; cases h
  | some i => rw [hq] at h; exact ⟨i, rfl, by simpa using h⟩
theorem infoE : ∃ te j, Tryd.prog.underlying 70 = some (.pointer te) ∧ Tryd.prog.info? te = some j ∧ j.size ≠ 0 := by
  have h : (match Tryd.prog.underlying 70 with | some (.pointer te) => (Tryd.prog.info? te).map (fun j => j.size) | _ => none) = some 1 := by kernel_rfl
  cases hq : Tryd.prog.underlying 70 with
  | none => rw [hq] at h; cases h
  | some d =>
    rw [hq] at h
    cases d
    case pointer te =>
      cases hj : Tryd.prog.info? te with
      | none => simp [hj] at h
      | some j => simp [hj] at h; exact ⟨te, j, rfl, hj, by omega⟩
    all_goals simp at h

theorem eq_same (a : Addr) (w : World) : (binOp .eql 29 (I a) (I a)).run Tryd.prog w = .ok (.bool true) w := by
  obtain ⟨i, hi, hc⟩ := info70
  obtain ⟨te, j, hp, hj, _⟩ := infoE
  exact run_eql_iface_ptr_same w a Tryd.underlying29 hp hi hc hj
theorem neq_same (a : Addr) (w : World) : (binOp .neq 29 (I a) (I a)).run Tryd.prog w = .ok (.bool false) w := by
  obtain ⟨i, hi, hc⟩ := info70
  obtain ⟨te, j, hp, hj, _⟩ := infoE
  simp only [binOp]
  simp [Op.equal, Op.maxDepth, run_equalIn_iface_ptr_same w 9998 a Tryd.underlying29 hp hi hc hj]
theorem eq_nil (a : Addr) (w : World) : (binOp .eql 29 .nilIface (I a)).run Tryd.prog w = .ok (.bool false) w := run_eql_iface_nil_left w 70 _ Tryd.underlying29
theorem eq_other {a b : Addr} {w : World} (hne : a ≠ b) (ha : ∃ c t, w.heap[a.block]? = some (.cells c t (0, 0))) (hb : ∃ c t, w.heap[b.block]? = some (.cells c t (0, 0))) : (binOp .eql 29 (I a) (I b)).run Tryd.prog w = .ok (.bool false) w := by
  obtain ⟨i, hi, hc⟩ := info70
  obtain ⟨te, j, hp, hj, hz⟩ := infoE
  obtain ⟨ca, ta, ha⟩ := ha
  obtain ⟨cb, tb, hb⟩ := hb
  exact run_eql_iface_ptr_other w Tryd.underlying29 hp hi hc hj hz hne ha hb

theorem Sen.below {w w' : World} {B : Nat} {a0 a1 a2 : Addr} (h : Sen w B a0 a1 a2) (hb : Below B w w') : Sen w' B a0 a1 a2 := by
  obtain ⟨l3, l0, l1, l2⟩ := h.lt
  refine ⟨(hb.cell (p := ⟨0, 0, none⟩) (show 0 < B by omega)).trans h.g0, (hb.cell (p := ⟨1, 0, none⟩) (show 1 < B by omega)).trans h.g1, (hb.cell (p := ⟨2, 0, none⟩) l3).trans h.g2, ?_, ?_, ?_, h.n01, h.n12, h.lt⟩
  · obtain ⟨c, t, e⟩ := h.h0; exact ⟨c, t, (hb.block _ l0).trans e⟩
  · obtain ⟨c, t, e⟩ := h.h1; exact ⟨c, t, (hb.block _ l1).trans e⟩
  · obtain ⟨c, t, e⟩ := h.h2; exact ⟨c, t, (hb.block _ l2).trans e⟩

/-- The next line, without its end; and what comes behind it. -/
def lineOf (rem : List UInt8) : List UInt8 := rem.takeWhile (· != 10)
def restOf (rem : List UInt8) : List UInt8 := (rem.dropWhile (· != 10)).drop 1
theorem line_nl {x r : List UInt8} (h : (10 : UInt8) ∉ x) : lineOf (x ++ 10 :: r) = x ∧ restOf (x ++ 10 :: r) = r := by
  unfold lineOf restOf
  induction x with
  | nil => simp
  | cons a x ih =>
    have ha : a ≠ 10 := fun e => h (by simp [e])
    have ih := ih (fun e => h (by simp [e]))
    simp only [List.cons_append, List.takeWhile_cons, List.dropWhile_cons]
    simp [ha]
    simpa using ih
theorem line_end {x : List UInt8} (h : (10 : UInt8) ∉ x) : lineOf x = x ∧ restOf x = [] := by
  unfold lineOf restOf
  induction x with
  | nil => simp
  | cons a x ih =>
    have ha : a ≠ 10 := fun e => h (by simp [e])
    have ih := ih (fun e => h (by simp [e]))
    simp only [List.takeWhile_cons, List.dropWhile_cons]
    simp [ha]
    simpa using ih
theorem line_app {x r : List UInt8} (h : (10 : UInt8) ∉ x) : lineOf (x ++ r) = x ++ lineOf r ∧ restOf (x ++ r) = restOf r := by
  unfold lineOf restOf
  induction x with
  | nil => simp
  | cons a x ih =>
    have ha : a ≠ 10 := fun e => h (by simp [e])
    have ih := ih (fun e => h (by simp [e]))
    simp only [List.cons_append, List.takeWhile_cons, List.dropWhile_cons]
    simp [ha]
    simpa using ih

/-- What the bytes read so far, ll, are, behind a cut that told E. -/
def Told (E1 E2 : Value) (rem0 ll : List UInt8) (E : Value) (rem1 : List UInt8) : Prop :=
  (E = .nilIface ∧ ∃ l0, ll = l0 ++ [10] ∧ (10 : UInt8) ∉ l0 ∧ lineOf rem0 = l0 ∧ restOf rem0 = rem1) ∨ (E = E2 ∧ (10 : UInt8) ∉ ll ∧ lineOf rem0 = ll ++ lineOf rem1 ∧ restOf rem0 = restOf rem1) ∨ (E = E1 ∧ (10 : UInt8) ∉ ll ∧ lineOf rem0 = ll ∧ restOf rem0 = [] ∧ rem1 = [] ∧ rem0 = ll)

theorem told_first {E1 E2 : Value} {rem x rem' : List UInt8} {E : Value} (h : CutS E1 E2 rem x E rem') : Told E1 E2 rem x E rem' := by
  obtain ⟨hr, h⟩ := h
  rcases h with ⟨h1, x0, h2, h3⟩ | ⟨h1, h2, _⟩ | ⟨h1, h2, h3⟩
  · left
    subst h2
    have := line_nl (r := rem') h3
    rw [hr, List.append_assoc]
    exact ⟨h1, x0, rfl, h3, this.1, this.2⟩
  · right; left
    have := line_app (r := rem') h2
    rw [hr]
    exact ⟨h1, h2, this.1, this.2⟩
  · right; right
    subst h3
    rw [List.append_nil] at hr
    have := line_end h2
    rw [hr]
    exact ⟨h1, h2, this.1, this.2, rfl, rfl⟩

theorem told_next {E1 E2 : Value} {rem0 ll rem1 x rem2 : List UInt8} {E : Value} (hn : (10 : UInt8) ∉ ll) (hl : lineOf rem0 = ll ++ lineOf rem1) (hr : restOf rem0 = restOf rem1) (h0 : rem0 = ll ++ rem1) (h : CutS E1 E2 rem1 x E rem2) : Told E1 E2 rem0 (ll ++ x) E rem2 ∧ (rem0 = (ll ++ x) ++ rem2) := by
  have hh : rem0 = (ll ++ x) ++ rem2 := by rw [h0, h.1, List.append_assoc]
  refine ⟨?_, hh⟩
  rcases told_first h with ⟨h1, l0, h2, h3, h4, h5⟩ | ⟨h1, h2, h3, h4⟩ | ⟨h1, h2, h3, h4, h5, h6⟩
  · refine .inl ⟨h1, ll ++ l0, by rw [h2, List.append_assoc], ?_, by rw [hl, h4], by rw [hr, h5]⟩
    intro e
    rcases List.mem_append.1 e with e | e
    · exact hn e
    · exact h3 e
  · refine .inr (.inl ⟨h1, ?_, by rw [hl, h3, List.append_assoc], by rw [hr, h4]⟩)
    intro e
    rcases List.mem_append.1 e with e | e
    · exact hn e
    · exact h2 e
  · refine .inr (.inr ⟨h1, ?_, by rw [hl, h3], by rw [hr, h4], h5, ?_⟩)
    · intro e
      rcases List.mem_append.1 e with e | e
      · exact hn e
      · exact h2 e
    · rw [hh, h5, List.append_nil]

section
variable {w w1 : World} {B cb bb sb rb : Nat} {s : ByteArray} {ln st : Int} {text rem : List UInt8} {vt vl v' : Value}

theorem CR.long (h : CR w B cb bb sb rb s ln st text rem vt vl) {ll : List UInt8} (ho : w1.ownsRow B 5 1 v' ll.length (Lib.byteCells ll)) (hg : w.grownBy w1 vl.ownBlock) (hv : v'.ownBlock = vl.ownBlock ∨ v'.ownBlock = some w.heap.size) (hB : B ≤ w.heap.size) :
    CR (w1.setCell ⟨cb, 6, none⟩ v') B cb bb sb rb s ln st text rem vt v' ∧ Below B w (w1.setCell ⟨cb, 6, none⟩ v') ∧ (w1.setCell ⟨cb, 6, none⟩ v').ownsRow B 5 1 v' ll.length (Lib.byteCells ll) := by
  obtain ⟨ra, rl⟩ := h.rowApart
  obtain ⟨nb, n1, n2, n3⟩ := h.ncb
  have on1 : Only (fun k => vl.ownBlock = some k) w w1 := (Only.refl _ w).grown hg (fun k e => e)
  have hc1 := on1.heap h.hc (fun e => (rl cb e).1 rfl)
  have on2 : Only (fun k => k = cb) w1 (w1.setCell ⟨cb, 6, none⟩ v') := (Only.refl (fun k => k = cb) w1).setCell (p := ⟨cb, 6, none⟩) rfl _
  have lt : ∀ k o, w.heap[k]? = some o → k ≠ w.heap.size := fun k o e => by have := (Array.getElem?_eq_some_iff.1 e).1; omega
  obtain ⟨r, q, i, l, hbr, hrem⟩ := h.br
  have hvb : ∀ k, v'.ownBlock = some k → vl.ownBlock = some k ∨ k = w.heap.size := fun k e => by
    rcases hv with hv | hv
    · exact .inl (hv ▸ e)
    · exact .inr (Option.some.inj (e.symm.trans hv))
  have vlt := fun k e => (h.tx.lt k e).2
  have hown : (w1.setCell ⟨cb, 6, none⟩ v').ownsRow B 5 1 v' ll.length (Lib.byteCells ll) := by
    refine owns_only ho on2 (fun k e1 e2 => ?_)
    rcases hvb k e1 with e | e
    · exact (rl k e).1 e2
    · exact lt cb _ h.hc (e2.symm.trans e)
  refine ⟨⟨?_, ⟨r, q, i, l, ?_, hrem⟩, ?_, ⟨ll, hown⟩, ?_, h.ntr, ?_, h.low⟩, ?_, hown⟩
  · have := heap_setCell_same w1 cb 6 _ _ v' hc1
    simpa [cellsC] using this
  · exact (hbr.only on1 (fun e => (rl bb e).2 (.inl rfl)) (fun e => (rl sb e).2 (.inr (.inl rfl))) (fun e => (rl rb e).2 (.inr (.inr rfl)))).only on2 (fun e => n1 e.symm) (fun e => n2 e.symm) (fun e => n3 e.symm)
  · refine owns_only (owns_only h.tx on1 (fun k e1 e2 => ?_)) on2 (fun k e1 e2 => (ra k e1).1 e2)
    rcases h.ntl with hn | hn
    · rw [hn] at e1; cases e1
    · exact hn (e1.trans e2.symm)
  · cases hvt : vt.ownBlock with
    | none => exact .inl rfl
    | some k =>
      right
      intro e
      rcases hvb k e.symm with e1 | e1
      · rcases h.ntl with hn | hn
        · rw [hvt] at hn; cases hn
        · exact hn (hvt.trans e1.symm)
      · have := vlt k hvt; omega
  · intro e
    rcases hvb rb e with e1 | e1
    · exact h.nlr e1
    · exact lt rb _ hbr.hr e1
  · exact ((on1.below hB (fun k e => by obtain ⟨ll0, hl0⟩ := h.lg; exact (hl0.lt k e).1))).trans (on2.below (Nat.le_trans hB hg.size) (fun k e => by rw [e]; exact h.low.1))

theorem CR.push (h : CR w B cb bb sb rb s ln st text rem vt vl) {t' : List UInt8} (ho : w1.ownsRow B 5 1 v' t'.length (Lib.byteCells t')) (hg : w.grownBy w1 vt.ownBlock) (hv : v'.ownBlock = vt.ownBlock ∨ v'.ownBlock = some w.heap.size) (hB : B ≤ w.heap.size) :
    CR (w1.setCell ⟨cb, 3, none⟩ v') B cb bb sb rb s ln st t' rem v' vl ∧ Below B w (w1.setCell ⟨cb, 3, none⟩ v') ∧ Only (fun k => vt.ownBlock = some k ∨ k = cb) w (w1.setCell ⟨cb, 3, none⟩ v') := by
  obtain ⟨ra, rl⟩ := h.rowApart
  obtain ⟨nb, n1, n2, n3⟩ := h.ncb
  have on1 : Only (fun k => vt.ownBlock = some k) w w1 := (Only.refl _ w).grown hg (fun k e => e)
  have hc1 := on1.heap h.hc (fun e => (ra cb e).1 rfl)
  have on2 : Only (fun k => k = cb) w1 (w1.setCell ⟨cb, 3, none⟩ v') := (Only.refl (fun k => k = cb) w1).setCell (p := ⟨cb, 3, none⟩) rfl _
  have lt : ∀ k o, w.heap[k]? = some o → k ≠ w.heap.size := fun k o e => by have := (Array.getElem?_eq_some_iff.1 e).1; omega
  obtain ⟨r, q, i, l, hbr, hrem⟩ := h.br
  obtain ⟨ll, hll⟩ := h.lg
  have hvb : ∀ k, v'.ownBlock = some k → vt.ownBlock = some k ∨ k = w.heap.size := fun k e => by
    rcases hv with hv | hv
    · exact .inl (hv ▸ e)
    · exact .inr (Option.some.inj (e.symm.trans hv))
  have vlt := fun k e => (hll.lt k e).2
  refine ⟨⟨?_, ⟨r, q, i, l, ?_, hrem⟩, ?_, ⟨ll, ?_⟩, ?_, ?_, h.nlr, h.low⟩, ?_, ?_⟩
  · have := heap_setCell_same w1 cb 3 _ _ v' hc1
    simpa [cellsC] using this
  · exact (hbr.only on1 (fun e => (ra bb e).2 (.inl rfl)) (fun e => (ra sb e).2 (.inr (.inl rfl))) (fun e => (ra rb e).2 (.inr (.inr rfl)))).only on2 (fun e => n1 e.symm) (fun e => n2 e.symm) (fun e => n3 e.symm)
  · refine owns_only ho on2 (fun k e1 e2 => ?_)
    rcases hvb k e1 with e | e
    · exact (ra k e).1 e2
    · exact lt cb _ h.hc (e2.symm.trans e)
  · refine owns_only (owns_only hll on1 (fun k e1 e2 => ?_)) on2 (fun k e1 e2 => (rl k e1).1 e2)
    rcases h.ntl with hn | hn
    · rw [hn] at e2; cases e2
    · exact hn (e2.trans e1.symm)
  · cases hvt : v'.ownBlock with
    | none => exact .inl rfl
    | some k =>
      right
      intro e
      rcases hvb k hvt with e1 | e1
      · rcases h.ntl with hn | hn
        · rw [e1] at hn; cases hn
        · exact hn (e1.trans e)
      · have := vlt k e.symm; omega
  · intro e
    rcases hvb rb e with e1 | e1
    · exact h.ntr e1
    · exact lt rb _ hbr.hr e1
  · exact ((on1.below hB (fun k e => (h.tx.lt k e).1))).trans (on2.below (Nat.le_trans hB hg.size) (fun k e => by rw [e]; exact h.low.1))
  · exact (on1.mono (fun k e => .inl e)).trans (on2.mono (fun k e => .inr e))

theorem CR.only {S : Nat → Prop} (h : CR w B cb bb sb rb s ln st text rem vt vl) (ho : Only S w w1) (hc : ¬ S cb) (h1 : ¬ S bb) (h2 : ¬ S sb) (h3 : ¬ S rb) (ht : ∀ k, vt.ownBlock = some k → ¬ S k) (hl : ∀ k, vl.ownBlock = some k → ¬ S k) : CR w1 B cb bb sb rb s ln st text rem vt vl := by
  obtain ⟨r, q, i, l, hbr, hrem⟩ := h.br
  obtain ⟨ll, hll⟩ := h.lg
  exact ⟨ho.heap h.hc hc, ⟨r, q, i, l, hbr.only ho h1 h2 h3, hrem⟩, owns_only h.tx ho ht, ⟨ll, owns_only hll ho hl⟩, h.ntl, h.ntr, h.nlr, h.low⟩
end

end Go.Proofs.Qxb6613468aDoor
