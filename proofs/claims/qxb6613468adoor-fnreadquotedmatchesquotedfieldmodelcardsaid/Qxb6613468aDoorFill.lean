/-
  (*bufio.Reader).fill (28).
-/
import Derived.Test.Qxb6613468aDoorRd
import Derived.Shelf.Abstract
namespace Go.Proofs.Qxb6613468aDoor
open Go.RowKit

/-- The blocks of a bufio.Reader over a strings.Reader. -/
def Bs (bb sb rb : Nat) : Nat → Prop := fun k => k = bb ∨ k = sb ∨ k = rb

def cellsB (sb rb r q : Nat) (e : Value) (x y : Int) : Array Value := #[.slice (some ⟨rb, 0, none⟩) 4096 4096, .iface 43 (.pointer (some ⟨sb, 0, none⟩)), .int .i64 r, .int .i64 q, e, .int .i64 x, .int .i64 y]

/-- What a world holds of a bufio.Reader over a strings.Reader. -/
structure BR (w : World) (bb sb rb : Nat) (s : ByteArray) (r q i : Nat) (e : Value) (l : List UInt8) : Prop where
  hb : ∃ x y : Int, w.heap[bb]? = some (.cells (cellsB sb rb r q e x y) 62 (0, 0))
  hs : ∃ z : Int, w.heap[sb]? = some (.cells #[.string s, .int .i64 i, .int .i64 z] 57 (0, 0))
  hr : w.heap[rb]? = some (.cells (Lib.byteCells l).toArray 5 (0, 0))
  hl : l.length = 4096
  hrq : r ≤ q
  hq : q ≤ 4096
  hi : i ≤ s.size
  hsz : s.size ≤ 1048576

theorem BR.nbs {w : World} {bb sb rb : Nat} {s : ByteArray} {r q i : Nat} {e : Value} {l : List UInt8} (h : BR w bb sb rb s r q i e l) : bb ≠ sb ∧ bb ≠ rb ∧ sb ≠ rb := by
  obtain ⟨x, y, h1⟩ := h.hb
  obtain ⟨z, h2⟩ := h.hs
  have h3 := h.hr
  refine ⟨?_, ?_, ?_⟩
  · rintro rfl; rw [h1] at h2; simp at h2
  · rintro rfl; rw [h1] at h3; simp at h3
  · rintro rfl; rw [h2] at h3; simp at h3

/-- 'copy(dst, src)' among bytes, src told by its cells. -/
theorem step_copy_bytes {P : Program} {ops : Array Oper} {o : Oper} {a : Act} {w : World} {K : Act → World → Prop} {Q : Exit → Act → World → Prop} {E : Prop}
    (hgd : o.guard = none) (d x : Operand) (dT sT : TypeId) (hop : o.op = Op.call { callee := Callee.builtin Builtin.copy, args := #[d, x], argTypes := #[dT, sT] })
    (elem : TypeId) (hu : P.underlying dT = some (.slice elem)) (hsz : (P.info? elem).map (·.size) = some 1) (g dLen dCap : Nat) (hd : a.eval d = .slice (some ⟨g, 0, none⟩) dLen dCap)
    (b off sLen sCap : Nat) (hx : a.eval x = .slice (some ⟨b, off, none⟩) sLen sCap) (l y : List UInt8) (hy : y.length = sLen) (hle : sLen ≤ dLen) (hll : sLen ≤ l.length) (hg : w.heap[g]? = some (.cells (Lib.byteCells l).toArray 5 (0, 0))) (hin : In w b off y)
    (hK : ∀ w', w'.heap[g]? = some (.cells (Lib.byteCells (spl l y 0)).toArray 5 (0, 0)) → Only (fun k => k = g) w w' → K (a.put o.dst (goInt sLen)) w') :
    if Region.wanted o (yielded ops a.tmps) = true then Oper.wp P o a w K Q else E := by
  have hw : Region.wanted o (yielded ops a.tmps) = true := by simp [Region.wanted, hgd]
  rw [if_pos hw]
  have hcl : (Lib.byteCells y).length = sLen := by rw [Lib.byteCells_length]; exact hy
  have hmin : Nat.min sLen dLen = sLen := Nat.min_eq_left hle
  by_cases h0 : sLen = 0
  · subst h0
    have hy0 : y = [] := List.eq_nil_of_length_eq_zero hy
    subst hy0
    have hrun := run_copy_none (P := P) w dT sT o.type elem (some ⟨g, 0, none⟩) (some ⟨b, off, none⟩) dLen dCap 0 sCap hu hsz hmin
    unfold Oper.wp
    simp only [execOp, hop, resolve, invoke, builtin, Sem.run_bind, Sem.run_pure, Result.andThen_ok, List.map_toArray, List.map_cons, List.map_nil, hd, hx, hrun]
    exact hK w (by simpa [spl] using hg) (Only.refl _ _)
  · have hrun := run_copy_row (P := P) w dT sT o.type elem g 0 dLen dCap ⟨b, off, none⟩ sLen sCap (Lib.byteCells l).toArray 5 (Lib.byteCells y) hu hsz hg (by rw [hcl]; exact hmin.symm)
      (fun j v hv => by
        have hj : j < y.length := by have := (List.getElem?_eq_some_iff.1 hv).1; rw [hcl] at this; omega
        rw [Go.Addr.add_lit, hin.cell hj]
        simp [Lib.byteCells, hj] at hv
        rw [← hv]) (by simp [Lib.byteCells]; omega) (Lib.byteCells_one _)
    unfold Oper.wp
    simp only [execOp, hop, resolve, invoke, builtin, Sem.run_bind, Sem.run_pure, Result.andThen_ok, List.map_toArray, List.map_cons, List.map_nil, hd, hx, hrun]
    rw [hcl]
    refine hK _ ?_ ((Only.refl (fun k => k = g) w).setRow (g := g) rfl _)
    rw [setRow_heap w g _ _ _ _ hg]
    simp [spl, Lib.byteCells, hy]

theorem spl_len {l x : List UInt8} {q m n : Nat} (h : q + m ≤ l.length) (hx : x.length = m) (hn : l.length = n) : (spl l x q).length = n := by
  unfold spl
  simp only [List.length_append, List.length_take, List.length_drop]
  omega
theorem spl_rem {l s : List UInt8} {q i m : Nat} (h : q + m ≤ l.length) (hm : m ≤ s.length - i) : (spl l ((s.drop i).take m) q).take (q + m) ++ s.drop (i + m) = l.take q ++ s.drop i := by
  have hx : ((s.drop i).take m).length = m := by rw [List.length_take, List.length_drop]; omega
  unfold spl
  rw [List.take_left' (by rw [List.length_append, List.length_take, hx]; omega), List.append_assoc, ← List.drop_drop, List.take_append_drop]

theorem read_enters : ∀ args w, (callFunc 49 args).run Tryd.prog w = .ok (.enter 49 args) w := enters_of Tryd.func49 (by kernel_rfl) rfl

/-- The loops' bodies, in the order of the text. -/
def loopsOf : Code → List Code
  | .loop c => c :: loopsOf c
  | .seq a b => loopsOf a ++ loopsOf b
  | .block _ c => loopsOf c
  | .scope c => loopsOf c
  | .cond _ a b => loopsOf a ++ loopsOf b
  | _ => []
noncomputable def fillB : Code := ((Tryd.f28.body.map loopsOf).getD [])[0]?.getD .skip

/-- What fill leaves: no byte is lost; one more is there, or the end is told. -/
def Filled (w : World) (bb sb rb : Nat) (s : ByteArray) (q i : Nat) (E1 : Value) (l : List UInt8) (w' : World) : Prop :=
  (i < s.size ∧ ∃ q' i' l', q < q' ∧ BR w' bb sb rb s 0 q' i' .nilIface l' ∧ l'.take q' ++ (bytesOf s).drop i' = l.take q ++ (bytesOf s).drop i ∧ Only (Bs bb sb rb) w w') ∨
  (s.size ≤ i ∧ ∃ l', BR w' bb sb rb s 0 q i E1 l' ∧ l'.take q = l.take q ∧ Only (Bs bb sb rb) w w')

set_option maxRecDepth 1000000 in
set_option maxHeartbeats 4000000 in
theorem fill_loop (c1 c5 c6 c7 c8 c9 c10 c11 c12 c13 c14 c15 c16 c17 c18 c19 c20 c21 c22 c23 c24 c25 c26 c27 c28 c29 c30 c31 c32 c33 c34 c35 c36 c37 c38 c39 c40 c41 c42 c43 c44 c45 c46 c47 c48 c49 c50 c51 c52 c95 c96 c97 c98 u3 u4 u53 u54 u55 u56 u57 u58 u59 u60 u61 u62 u63 u64 u65 u66 u67 u68 u69 u70 u71 u72 u73 u74 u75 u76 u77 u78 u79 u80 u81 u82 u83 u84 u85 u86 u87 u88 u89 u90 u91 u92 u93 u94 : Value) (bb sb rb q i : Nat) (s : ByteArray) (l : List UInt8) (a1 : Addr) (w : World) (Q : Exit → Act → World → Prop)
    (hB : BR w bb sb rb s 0 q i .nilIface l) (hq : q < 4096) (hg : w.cell? ⟨1, 0, none⟩ = some (.iface 70 (.pointer (some a1)))) (hn1 : ¬ Bs bb sb rb 1)
    (hret : ∀ a' w'', (a'.defers = [] ∧ Filled w bb sb rb s q i (.iface 70 (.pointer (some a1))) l w'') → Q .ret a' w'') :
    Code.wp Tryd.prog (Code.loop fillB) Q ⟨((.pointer (some ⟨bb, 0, none⟩)) :: c1 :: (.int .i64 100) :: u3 :: u4 :: c5 :: c6 :: c7 :: c8 :: c9 :: c10 :: c11 :: c12 :: c13 :: c14 :: c15 :: c16 :: c17 :: c18 :: c19 :: c20 :: c21 :: c22 :: c23 :: c24 :: c25 :: c26 :: c27 :: c28 :: c29 :: c30 :: c31 :: c32 :: c33 :: c34 :: c35 :: c36 :: c37 :: c38 :: c39 :: c40 :: c41 :: c42 :: c43 :: c44 :: c45 :: c46 :: c47 :: c48 :: c49 :: c50 :: c51 :: c52 :: u53 :: u54 :: u55 :: u56 :: u57 :: u58 :: u59 :: u60 :: u61 :: u62 :: u63 :: u64 :: u65 :: u66 :: u67 :: u68 :: u69 :: u70 :: u71 :: u72 :: u73 :: u74 :: u75 :: u76 :: u77 :: u78 :: u79 :: u80 :: u81 :: u82 :: u83 :: u84 :: u85 :: u86 :: u87 :: u88 :: u89 :: u90 :: u91 :: u92 :: u93 :: u94 :: c95 :: c96 :: c97 :: c98 :: []).toArray, []⟩ w := by
  conv => arg 2; arg 1; whnf
  have HB : Hid (BR w bb sb rb s 0 q i .nilIface l) := hB
  have HT : Hid _ := hret
  have HG : Hid (w.cell? ⟨1, 0, none⟩ = some (.iface 70 (.pointer (some a1)))) := hg
  have HN1 : Hid (¬ Bs bb sb rb 1) := hn1
  clear hB hret hg hn1
  go_loopw [2, 3, 4] (fun x2 x3 x4 wr => x2 = .int .i64 100 ∧ Hid (w = wr)) (fun _ _ _ _ => 0)
  case atStart => exact ⟨rfl, rfl⟩
  case round =>
    obtain ⟨rfl, HW⟩ := hrel
    have hw := HW.out
    subst hw
    obtain ⟨x, y, hb⟩ := HB.out.hb
    obtain ⟨z, hs⟩ := HB.out.hs
    have b0 : w.cell? ⟨bb, 0, none⟩ = some (.slice (some ⟨rb, 0, none⟩) 4096 4096) := by rw [cell_of_row w bb 0 _ _ _ hb]; rfl
    have b1 : w.cell? ⟨bb, 1, none⟩ = some (.iface 43 (.pointer (some ⟨sb, 0, none⟩))) := by rw [cell_of_row w bb 1 _ _ _ hb]; rfl
    have b3 : w.cell? ⟨bb, 3, none⟩ = some (.int .i64 q) := by rw [cell_of_row w bb 3 _ _ _ hb]; rfl
    have HBB : Hid (w.heap[bb]? = some (.cells (cellsB sb rb 0 q .nilIface x y) 62 (0, 0))) := hb
    have HSB : Hid (w.heap[sb]? = some (.cells #[.string s, .int .i64 i, .int .i64 z] 57 (0, 0))) := hs
    clear hb hs HW
    have hq0 : (0 : Int) ≤ (q : Int) := Int.natCast_nonneg _
    have hq1 : (q : Int) ≤ 4096 := by omega
    have hmt : ∀ w : World, (method 198 43 (.pointer (some ⟨sb, 0, none⟩)) "Read").run Tryd.prog w = .ok (49, .pointer (some ⟨sb, 0, none⟩)) w := fun _ => by kernel_rfl
    have hen := read_enters
    have hne4 : ¬ 4096 = q := by omega
    by_cases hlt : i < s.size
    · have hrd := read_some sb rb i q (4096 - q) (4096 - q) s z l w.drew HSB.out HB.out.hr hlt HB.out.hsz (by rw [HB.out.hl]; omega) (by omega)
      have HRD : Hid _ := hrd
      clear hrd
      have HNE : Hid (bb ≠ sb ∧ bb ≠ rb ∧ sb ≠ rb) := HB.out.nbs
      go_wp2_with fail
      go_region_held3 (fun w' => w'.cell? ⟨bb, 0, none⟩ = some (.slice (some ⟨rb, 0, none⟩) 4096 4096) ∧ w'.cell? ⟨bb, 1, none⟩ = some (.iface 43 (.pointer (some ⟨sb, 0, none⟩))) ∧ w'.cell? ⟨bb, 3, none⟩ = some (.int .i64 q)) (first | exact ⟨by assumption, by assumption, by assumption⟩ | go_keep)
        (first
        | (go_at_call 49; refine Calls.mono HRD.out ?_; rintro e w' ⟨m, hm, rfl, hs', hr', ho'⟩; have hm1 : 0 < m := (by { rw [hm]; exact Nat.lt_min.2 ⟨by omega, by omega⟩ }); have hm2 : m ≤ 4096 - q := (by { rw [hm]; exact Nat.min_le_right _ _ }); have hm3 : m ≤ s.size - i := (by { rw [hm]; exact Nat.min_le_left _ _ }); have HO : Hid (Only (fun k => k = sb ∨ k = rb) w w') := ((Only.refl _ w).drew).trans ho'; have HSB2 : Hid _ := hs'; have HRB2 : Hid _ := hr'; have HBB2 : Hid (w'.heap[bb]? = some (.cells (cellsB sb rb 0 q .nilIface x y) 62 (0, 0))) := HO.out.heap HBB.out (fun e => e.elim HNE.out.1 HNE.out.2.1); have k0 : w'.cell? ⟨bb, 0, none⟩ = some (.slice (some ⟨rb, 0, none⟩) 4096 4096) := by { rw [cell_of_row w' bb 0 _ _ _ HBB2.out]; rfl }; have k1 : w'.cell? ⟨bb, 1, none⟩ = some (.iface 43 (.pointer (some ⟨sb, 0, none⟩))) := by { rw [cell_of_row w' bb 1 _ _ _ HBB2.out]; rfl }; have k3 : w'.cell? ⟨bb, 3, none⟩ = some (.int .i64 q) := by { rw [cell_of_row w' bb 3 _ _ _ HBB2.out]; rfl }; clear hs' hr' ho' hm)
        | fail)
      have hms := HB.out.hsz
      have f3 : w'.frozen? ⟨bb, 3, none⟩ = false := free_of_row HBB2.out
      clear b0 b1 b3
      go_wp2_with fail
      refine HT.out _ _ ⟨rfl, .inl ⟨hlt, q + m, i + m, spl l (((bytesOf s).drop i).take m) q, by omega, ⟨⟨x, y, ?_⟩, ⟨-1, ?_⟩, ?_, ?_, Nat.zero_le _, by omega, by omega, hms⟩, ?_, ?_⟩⟩
      · have := heap_setCell_same w' bb 3 _ _ (.int .i64 (q + m : Nat)) HBB2.out
        simpa [cellsB] using this
      · rw [Below.heap_setCell w' _ _ _ (fun e => HNE.out.1 e.symm)]
        exact HSB2.out
      · rw [Below.heap_setCell w' _ _ _ (fun e => HNE.out.2.1 e.symm)]
        exact HRB2.out
      · exact spl_len (m := m) (by rw [HB.out.hl]; omega) (by rw [List.length_take, List.length_drop, bytesOf_size]; omega) HB.out.hl
      · exact spl_rem (m := m) (by rw [HB.out.hl]; omega) (by rw [bytesOf_size]; omega)
      · exact (HO.out.mono (fun k e => .inr e)).setCell (.inl rfl) _
    · have hrd := read_eof sb i s (.slice (some ⟨rb, q, none⟩) (4096 - q) (4096 - q)) (.iface 70 (.pointer (some a1))) w.drew (by rw [cell_of_row w.drew sb 0 _ _ _ HSB.out]; rfl) (by rw [cell_of_row w.drew sb 1 _ _ _ HSB.out]; rfl) (by omega) HG.out
      have HRD : Hid _ := hrd
      have HNE : Hid (bb ≠ sb ∧ bb ≠ rb ∧ sb ≠ rb) := HB.out.nbs
      clear hrd
      go_wp2_with fail
      go_region_held3 (fun w' => w'.cell? ⟨bb, 0, none⟩ = some (.slice (some ⟨rb, 0, none⟩) 4096 4096) ∧ w'.cell? ⟨bb, 1, none⟩ = some (.iface 43 (.pointer (some ⟨sb, 0, none⟩))) ∧ w'.cell? ⟨bb, 3, none⟩ = some (.int .i64 q)) (first | exact ⟨by assumption, by assumption, by assumption⟩ | go_keep)
        (first
        | (go_at_call 49; refine Calls.mono HRD.out ?_; rintro e w' ⟨rfl, nn, hw'⟩; have HO : Hid (Only (fun k => k = sb ∨ k = rb) w w') := (by { rw [← hw']; exact ((Only.refl _ w).drew).drewN nn }); have HHH : Hid (w'.heap = w.heap) := (by { rw [← hw']; rfl }); have HBB2 : Hid (w'.heap[bb]? = some (.cells (cellsB sb rb 0 q .nilIface x y) 62 (0, 0))) := HO.out.heap HBB.out (fun e => e.elim HNE.out.1 HNE.out.2.1); have k0 : w'.cell? ⟨bb, 0, none⟩ = some (.slice (some ⟨rb, 0, none⟩) 4096 4096) := by { rw [cell_of_row w' bb 0 _ _ _ HBB2.out]; rfl }; have k1 : w'.cell? ⟨bb, 1, none⟩ = some (.iface 43 (.pointer (some ⟨sb, 0, none⟩))) := by { rw [cell_of_row w' bb 1 _ _ _ HBB2.out]; rfl }; have k3 : w'.cell? ⟨bb, 3, none⟩ = some (.int .i64 q) := by { rw [cell_of_row w' bb 3 _ _ _ HBB2.out]; rfl }; clear hw')
        | fail)
      have f3 : w'.frozen? ⟨bb, 3, none⟩ = false := free_of_row HBB2.out
      have f4 : w'.frozen? ⟨bb, 4, none⟩ = false := free_of_row HBB2.out
      have k4 : w'.cell? ⟨bb, 4, none⟩ = some .nilIface := by rw [cell_of_row w' bb 4 _ _ _ HBB2.out]; rfl
      clear b0 b1 b3
      go_wp2_with fail
      refine HT.out _ _ ⟨rfl, .inr ⟨by omega, l, ⟨⟨x, y, ?_⟩, ⟨z, ?_⟩, ?_, HB.out.hl, Nat.zero_le _, by omega, HB.out.hi, HB.out.hsz⟩, rfl, ?_⟩⟩
      · have h1 := heap_setCell_same w' bb 3 _ _ (.int .i64 q) HBB2.out
        have h2 := heap_setCell_same _ bb 4 _ _ (.iface 70 (.pointer (some a1))) h1
        simpa [cellsB] using h2
      · rw [Below.heap_setCell _ _ _ _ (fun e => HNE.out.1 e.symm), Below.heap_setCell w' _ _ _ (fun e => HNE.out.1 e.symm), HHH.out]
        exact HSB.out
      · rw [Below.heap_setCell _ _ _ _ (fun e => HNE.out.2.1 e.symm), Below.heap_setCell w' _ _ _ (fun e => HNE.out.2.1 e.symm), HHH.out]
        exact HB.out.hr
      · exact ((HO.out.mono (fun k e => .inr e)).setCell (.inl rfl) _).setCell (.inl rfl) _

end Go.Proofs.Qxb6613468aDoor
