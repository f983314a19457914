/-
  (*strings.Reader).Read (49).
-/
import Derived.Test.Qxb6613468aDoorSmall
import Derived.Lib.BufferWrite
namespace Go.Proofs.Qxb6613468aDoor
open Go.RowKit

/-- 'copy(dst, s)', s a string: as many bytes as fit. -/
theorem run_copy_str {P : Program} (w : World) (dT sT ty elem : TypeId) (g o dLen dCap : Nat) (s : ByteArray) (cur : Array Value) (t : TypeId)
    (hu : P.underlying dT = some (.slice elem)) (hs : (P.info? elem).map (·.size) = some 1) (hg : w.heap[g]? = some (.cells cur t (0, 0))) (hfit : o + Nat.min s.size dLen ≤ cur.size) :
    (Builtin.copy_ #[dT, sT] ty #[.slice (some ⟨g, o, none⟩) dLen dCap, .string s]).run P w =
      .ok (goInt (Nat.min s.size dLen)) (w.setRow g (cur.toList.take o ++ Lib.byteCells ((bytesOf s).take (Nat.min s.size dLen)) ++ cur.toList.drop (o + Nat.min s.size dLen)).toArray) := by
  obtain ⟨m, hm⟩ : ∃ m, Nat.min s.size dLen = m := ⟨_, rfl⟩
  rw [hm] at hfit ⊢
  have hle : m ≤ s.size := by rw [← hm]; exact Nat.min_le_left _ _
  have hlen : (Lib.byteCells ((bytesOf s).take m)).length = m := by rw [Lib.byteCells_length, List.length_take, bytesOf_size]; omega
  have hst := run_storeCells_at P g o t (Lib.byteCells ((bytesOf s).take m)) 0 cur w hg (by rw [hlen]; simpa using hfit) (Lib.byteCells_one _)
  have htk : List.take m (List.map (fun b : UInt8 => Value.int IntKind.u8 (b.toNat : Int)) s.data.toList) = Lib.byteCells ((bytesOf s).take m) := by
    rw [← List.map_take]; rfl
  rw [hlen] at hst
  simp only [Nat.add_zero] at hst
  cases hq : P.info? elem with
  | none => simp [hq] at hs
  | some i =>
    simp [Builtin.copy_, run_underlying hu, Builtin.lenOf, Builtin.firstCells, sizeOf, typeInfo, hq, hm]
    rw [htk, hst]
    simp [Result.andThen]

theorem step_copy_str {P : Program} {ops : Array Oper} {o : Oper} {a : Act} {w : World} {K : Act → World → Prop} {Q : Exit → Act → World → Prop} {E : Prop}
    (hgd : o.guard = none) (d x : Operand) (dT sT : TypeId) (hop : o.op = Op.call { callee := Callee.builtin Builtin.copy, args := #[d, x], argTypes := #[dT, sT] })
    (elem : TypeId) (hu : P.underlying dT = some (.slice elem)) (hs : (P.info? elem).map (·.size) = some 1) (g off dLen dCap : Nat) (hd : a.eval d = .slice (some ⟨g, off, none⟩) dLen dCap)
    (s : ByteArray) (hx : a.eval x = .string s) (cur : Array Value) (t : TypeId) (hg : w.heap[g]? = some (.cells cur t (0, 0))) (hfit : off + Nat.min s.size dLen ≤ cur.size)
    (hK : ∀ w', w' = w.setRow g (cur.toList.take off ++ Lib.byteCells ((bytesOf s).take (Nat.min s.size dLen)) ++ cur.toList.drop (off + Nat.min s.size dLen)).toArray → K (a.put o.dst (goInt (Nat.min s.size dLen))) w') :
    if Region.wanted o (yielded ops a.tmps) = true then Oper.wp P o a w K Q else E := by
  have hw : Region.wanted o (yielded ops a.tmps) = true := by simp [Region.wanted, hgd]
  rw [if_pos hw]
  have hrun := run_copy_str (P := P) w dT sT o.type elem g off dLen dCap s cur t hu hs hg hfit
  unfold Oper.wp
  simp only [execOp, hop, resolve, invoke, builtin, Sem.run_bind, Sem.run_pure, Result.andThen_ok, List.map_toArray, List.map_cons, List.map_nil, hd, hx, hrun]
  exact hK _ rfl

set_option maxHeartbeats 1000000 in
theorem read_eof (sb i : Nat) (s : ByteArray) (v E1 : Value) (w : World) (h0 : w.cell? ⟨sb, 0, none⟩ = some (.string s)) (h1 : w.cell? ⟨sb, 1, none⟩ = some (.int .i64 i)) (hi : s.size ≤ i) (hg : w.cell? ⟨1, 0, none⟩ = some E1) :
    Calls Tryd.prog 49 #[.pointer (some ⟨sb, 0, none⟩), v] w fun e w' => e = .returned (.tuple #[.int .i64 0, E1]) ∧ ∃ q, w.drewN q = w' := by
  have hge : (s.size : Int) ≤ (i : Int) := by omega
  go_enter Tryd.func49, Tryd.ntmps49
  go_wp2_with fail
  go_quiet (fail)
  obtain ⟨w1, hw1⟩ : ∃ w1, w.drewN nq = w1 := ⟨_, rfl⟩
  have g1 : w1.cell? ⟨1, 0, none⟩ = some E1 := by rw [← hw1]; exact hg
  rw [hw1]
  have HW : Hid (w.drewN nq = w1) := hw1
  clear hw1
  go_wp2_with fail
  go_quiet (fail)
  go_wp2_with fail
  exact bodyPost_ret (v := .tuple #[.int .i64 0, E1]) (by simp [results, Tryd.results49, go_sem]) rfl ⟨rfl, _, by rw [← HW.out]; exact (World.drewN_drewN w _ _).symm⟩

/-- The buffer behind a read of m bytes at place q. -/
def spl (l x : List UInt8) (q : Nat) : List UInt8 := l.take q ++ x ++ l.drop (q + x.length)

theorem after_copy {S : Nat → Prop} {w w2 w3 : World} {sb rb q m : Nat} {l x : List UInt8} {o : Obj} (hx : x.length = m) (hs : w2.heap[sb]? = some o) (hr : w2.heap[rb]? = some (.cells (Lib.byteCells l).toArray 5 (0, 0))) (hne : sb ≠ rb) (hS : S rb) (ho : Only S w w2)
    (hw : w3 = w2.drew.setRow rb ((Lib.byteCells l).toArray.toList.take q ++ Lib.byteCells x ++ (Lib.byteCells l).toArray.toList.drop (q + m)).toArray) :
    w3.heap[sb]? = some o ∧ w3.heap[rb]? = some (.cells (Lib.byteCells (spl l x q)).toArray 5 (0, 0)) ∧ Only S w w3 := by
  subst hw
  refine ⟨(setRow_other w2.drew rb sb _ hne).trans hs, ?_, ho.drew.setRow hS _⟩
  rw [setRow_heap w2.drew rb _ _ _ _ (show w2.drew.heap[rb]? = _ from hr)]
  simp [spl, Lib.byteCells, hx]

set_option maxHeartbeats 2000000 in
theorem read_some (sb rb i q n cap : Nat) (s : ByteArray) (z : Int) (l : List UInt8) (w : World) (hs : w.heap[sb]? = some (.cells #[.string s, .int .i64 i, .int .i64 z] 57 (0, 0))) (hr : w.heap[rb]? = some (.cells (Lib.byteCells l).toArray 5 (0, 0)))
    (hi : i < s.size) (hi' : s.size ≤ 1048576) (hq : q + n ≤ l.length) (hn' : n ≤ 4096) :
    Calls Tryd.prog 49 #[.pointer (some ⟨sb, 0, none⟩), .slice (some ⟨rb, q, none⟩) n cap] w fun e w' => ∃ m, m = Nat.min (s.size - i) n ∧ e = .returned (.tuple #[.int .i64 m, .nilIface]) ∧
      w'.heap[sb]? = some (.cells #[.string s, .int .i64 (i + m : Nat), .int .i64 (-1)] 57 (0, 0)) ∧ w'.heap[rb]? = some (.cells (Lib.byteCells (spl l (((bytesOf s).drop i).take m) q)).toArray 5 (0, 0)) ∧ Only (fun k => k = sb ∨ k = rb) w w' := by
  have hne : sb ≠ rb := by rintro rfl; rw [hs] at hr; simp at hr
  have h0 : w.cell? ⟨sb, 0, none⟩ = some (.string s) := by rw [cell_of_row w sb 0 _ _ _ hs]; rfl
  have h1 : w.cell? ⟨sb, 1, none⟩ = some (.int .i64 i) := by rw [cell_of_row w sb 1 _ _ _ hs]; rfl
  have h2 : w.cell? ⟨sb, 2, none⟩ = some (.int .i64 z) := by rw [cell_of_row w sb 2 _ _ _ hs]; rfl
  have hlt : ¬ ((s.size : Int) ≤ (i : Int)) := by omega
  have hltd : decide ((s.size : Int) ≤ (i : Int)) = false := by simpa using hlt
  have HS : Hid (w.heap[sb]? = some (.cells #[.string s, .int .i64 i, .int .i64 z] 57 (0, 0))) := hs
  have HR : Hid (w.heap[rb]? = some (.cells (Lib.byteCells l).toArray 5 (0, 0))) := hr
  clear hs hr
  go_enter Tryd.func49, Tryd.ntmps49
  go_wp2_with fail
  go_quiet (fail)
  obtain ⟨w1, hw1⟩ : ∃ w1, w.drewN nq = w1 := ⟨_, rfl⟩
  rw [hw1]
  have HO1 : Hid (Only (fun k => k = sb ∨ k = rb) w w1) := by rw [← hw1]; exact (Only.refl _ w).drewN nq
  have HS1 : Hid (w1.heap[sb]? = some (.cells #[.string s, .int .i64 i, .int .i64 z] 57 (0, 0))) := by rw [← hw1]; exact HS.out
  have HR1 : Hid (w1.heap[rb]? = some (.cells (Lib.byteCells l).toArray 5 (0, 0))) := by rw [← hw1]; exact HR.out
  clear h0 h1 h2 hw1 HS HR
  have f2 : w1.frozen? ⟨sb, 2, none⟩ = false := free_of_row HS1.out
  have h2 : w1.cell? ⟨sb, 2, none⟩ = some (.int .i64 z) := by rw [cell_of_row w1 sb 2 _ _ _ HS1.out]; rfl
  go_wp2_with fail
  obtain ⟨w2, hw2⟩ : ∃ w2, w1.setCell ⟨sb, 2, none⟩ (.int .i64 (-1)) = w2 := ⟨_, rfl⟩
  rw [hw2]
  have HO2 : Hid (Only (fun k => k = sb ∨ k = rb) w w2) := by rw [← hw2]; exact HO1.out.setCell (.inl rfl) _
  have HS2 : Hid (w2.heap[sb]? = some (.cells #[.string s, .int .i64 i, .int .i64 (-1)] 57 (0, 0))) := by rw [← hw2]; exact heap_setCell_same w1 sb 2 _ _ _ HS1.out
  have HR2 : Hid (w2.heap[rb]? = some (.cells (Lib.byteCells l).toArray 5 (0, 0))) := by rw [← hw2, Below.heap_setCell w1 _ _ _ (fun e => hne e.symm)]; exact HR1.out
  clear hw2 HS1 HR1 HO1 f2 h2
  have c0 : w2.cell? ⟨sb, 0, none⟩ = some (.string s) := by rw [cell_of_row w2 sb 0 _ _ _ HS2.out]; rfl
  have c1 : w2.cell? ⟨sb, 1, none⟩ = some (.int .i64 i) := by rw [cell_of_row w2 sb 1 _ _ _ HS2.out]; rfl
  have hi0' : (0 : Int) ≤ (i : Int) := Int.natCast_nonneg _
  have hi1' : (i : Int) ≤ (s.size : Int) := by omega
  obtain ⟨t, ht⟩ : ∃ t, s.extract i s.size = t := ⟨_, rfl⟩
  have HT : Hid (bytesOf t = (bytesOf s).drop i) := by
    rw [← ht]
    show bytesOf (s.extract i s.size) = (bytesOf s).drop i
    unfold bytesOf; rw [Lib.extract_data, List.take_of_length_le]
    rw [List.length_drop, ← Lib.size_eq]
    exact Nat.le_refl _
  have hts : t.size = s.size - i := by rw [← ht, ByteArray.size_extract]; omega
  obtain ⟨m, hm⟩ : ∃ m, Nat.min t.size n = m := ⟨_, rfl⟩
  have hmn : m ≤ n := by rw [← hm]; exact Nat.min_le_right _ _
  have HM : Hid (m = Nat.min (s.size - i) n) := by rw [← hts]; exact hm.symm
  have hbl : (Lib.byteCells l).toArray.size = l.length := by simp [Lib.byteCells]
  have HX : Hid (((bytesOf t).take m).length = m) := by
    rw [List.length_take, bytesOf_size]
    have : m ≤ t.size := by rw [← hm]; exact Nat.min_le_left _ _
    show min m t.size = m
    omega
  have HNE : Hid (sb ≠ rb) := hne
  go_region_held3 (fun w' => w'.cell? ⟨sb, 0, none⟩ = some (.string s) ∧ w'.cell? ⟨sb, 1, none⟩ = some (.int .i64 i)) (first | exact ⟨by assumption, by assumption⟩ | go_keep)
    (first
    | (refine step_copy_str (by rfl) _ _ 22 9 (by rfl) 5 Tryd.underlying22 (by kernel_rfl) rb q n cap (by rfl) t (by rw [← ht]; rfl) _ 5 HR2.out (by rw [hbl, hm]; omega) ?_; intro w3 hw3; rw [hm] at hw3 ⊢; have HW3 : Hid _ := after_copy HX.out HS2.out HR2.out HNE.out (.inr rfl) HO2.out hw3; have k0 : w3.cell? ⟨sb, 0, none⟩ = some (.string s) := by { rw [cell_of_row w3 sb 0 _ _ _ HW3.out.1]; rfl }; have k1 : w3.cell? ⟨sb, 1, none⟩ = some (.int .i64 i) := by { rw [cell_of_row w3 sb 1 _ _ _ HW3.out.1]; rfl }; clear hw3)
    | fail)
  have f1 : w3.frozen? ⟨sb, 1, none⟩ = false := free_of_row HW3.out.1
  have hms : m ≤ s.size - i := by rw [← hts, ← hm]; exact Nat.min_le_left _ _
  clear hm ht hts hbl
  go_wp2_with fail
  refine bodyPost_ret (v := .tuple #[.int .i64 m, .nilIface]) (by simp [results, Tryd.results49, go_sem]) rfl ⟨m, HM.out, rfl, ?_, ?_, HW3.out.2.2.setCell (.inl rfl) _⟩
  · have := heap_setCell_same w3 sb 1 _ _ (.int .i64 (i + m : Nat)) HW3.out.1
    simpa using this
  · rw [Below.heap_setCell w3 _ _ _ (fun e => HNE.out e.symm), ← HT.out]
    exact HW3.out.2.1

end Go.Proofs.Qxb6613468aDoor
