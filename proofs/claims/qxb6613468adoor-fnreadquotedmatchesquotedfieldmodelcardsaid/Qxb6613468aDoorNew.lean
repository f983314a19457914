/-
  A new csvReader: strings.NewReader (17), bufio.NewReaderSize (19), reset (22), NewReader (16), ZZnewCSVReader (7).
-/
import Derived.Test.Qxb6613468aDoorCsv
import Derived.OwnWalk
namespace Go.Proofs.Qxb6613468aDoor
open Go.RowKit

set_option maxHeartbeats 1000000 in
theorem snew_any (s : ByteArray) (w : World) :
    Calls Tryd.prog 17 #[.string s] w fun e w' => e = .returned (.pointer (some ⟨w.heap.size, 0, none⟩)) ∧ w.alloc (.cells #[.string s, .int .i64 0, .int .i64 (-1)] 57) = w' := by
  go_enter Tryd.func17, Tryd.ntmps17
  go_wp2
  go_ret
  exact ⟨rfl, rfl⟩

set_option maxHeartbeats 1000000 in
theorem reset_any (bb rb sb : Nat) (w : World) (h : w.heap[bb]? = some (.cells #[.slice none 0 0, .nilIface, .int .i64 0, .int .i64 0, .nilIface, .int .i64 0, .int .i64 0] 62 (0, 0))) :
    Calls Tryd.prog 22 #[.pointer (some ⟨bb, 0, none⟩), .slice (some ⟨rb, 0, none⟩) 4096 4096, .iface 43 (.pointer (some ⟨sb, 0, none⟩))] w fun e w' => e = .returned (.tuple #[]) ∧ w'.heap[bb]? = some (.cells (cellsB sb rb 0 0 .nilIface (-1) (-1)) 62 (0, 0)) ∧ Only (fun k => k = bb) w w' := by
  have c0 := cell_of_row w bb 0 _ _ _ h
  have c1 := cell_of_row w bb 1 _ _ _ h
  have c2 := cell_of_row w bb 2 _ _ _ h
  have c3 := cell_of_row w bb 3 _ _ _ h
  have c4 := cell_of_row w bb 4 _ _ _ h
  have c5 := cell_of_row w bb 5 _ _ _ h
  have c6 := cell_of_row w bb 6 _ _ _ h
  simp at c0 c1 c2 c3 c4 c5 c6
  have f0 : w.frozen? ⟨bb, 0, none⟩ = false := free_of_row h
  have f1 : w.frozen? ⟨bb, 1, none⟩ = false := free_of_row h
  have f2 : w.frozen? ⟨bb, 2, none⟩ = false := free_of_row h
  have f3 : w.frozen? ⟨bb, 3, none⟩ = false := free_of_row h
  have f4 : w.frozen? ⟨bb, 4, none⟩ = false := free_of_row h
  have f5 : w.frozen? ⟨bb, 5, none⟩ = false := free_of_row h
  have f6 : w.frozen? ⟨bb, 6, none⟩ = false := free_of_row h
  have HH : Hid _ := h
  clear h
  go_enter Tryd.func22, Tryd.ntmps22
  go_wp2
  go_end0
  have g0 := heap_setCell_same w bb 0 _ _ (.slice (some ⟨rb, 0, none⟩) 4096 4096) HH.out
  have g1 := heap_setCell_same _ bb 1 _ _ (.iface 43 (.pointer (some ⟨sb, 0, none⟩))) g0
  have g2 := heap_setCell_same _ bb 2 _ _ (.int .i64 0) g1
  have g3 := heap_setCell_same _ bb 3 _ _ (.int .i64 0) g2
  have g4 := heap_setCell_same _ bb 4 _ _ .nilIface g3
  have g5 := heap_setCell_same _ bb 5 _ _ (.int .i64 (-1)) g4
  have g6 := heap_setCell_same _ bb 6 _ _ (.int .i64 (-1)) g5
  refine ⟨rfl, by simpa [cellsB] using g6, ?_⟩
  exact (((((((Only.refl (fun k => k = bb) w).setCell (p := ⟨bb, 0, none⟩) rfl _).setCell (p := ⟨bb, 1, none⟩) rfl _).setCell (p := ⟨bb, 2, none⟩) rfl _).setCell (p := ⟨bb, 3, none⟩) rfl _).setCell (p := ⟨bb, 4, none⟩) rfl _).setCell (p := ⟨bb, 5, none⟩) rfl _).setCell (p := ⟨bb, 6, none⟩) rfl _

/-- The buffer, new. -/
def zeros : List UInt8 := List.replicate 4096 0
theorem full_row {w2 : World} {B g : Nat} (h : w2.ownsRow B 5 1 (.slice (some ⟨g, 0, none⟩) 4096 4096) 4096 (madeCells (Value.int .u8 0).cells (4096 * 1)).toList) : w2.heap[g]? = some (.cells (Lib.byteCells zeros).toArray 5 (0, 0)) := by
  rcases h.2 with ⟨h1, _⟩ | ⟨g', cap, cur, h1, _, h3, _, _, h6, h7⟩
  · cases h1
  · simp only [Value.slice.injEq, Option.some.injEq, Addr.mk.injEq] at h1
    obtain ⟨⟨rfl, _, _⟩, _, rfl⟩ := h1
    rw [h3]
    have e : cur.toList = Lib.byteCells zeros := by
      have h8 : cur.toList.take (4096 * 1) = cur.toList := List.take_of_length_le (by rw [Array.length_toList, h6]; exact Nat.le_refl _)
      rw [h8] at h7
      rw [h7]
      show (madeCells #[Value.int .u8 0] (4096 * 1)).toList = _
      rw [toList_madeCells_one]
      unfold zeros Lib.byteCells
      rw [List.map_replicate]
      rfl
    rw [← e]

set_option maxRecDepth 100000 in
set_option maxHeartbeats 2000000 in
theorem size_any (sb : Nat) (w : World) :
    Calls Tryd.prog 19 #[.iface 43 (.pointer (some ⟨sb, 0, none⟩)), .int .i64 4096] w fun e w' => e = .returned (.pointer (some ⟨w.heap.size, 0, none⟩)) ∧ w'.heap[w.heap.size]? = some (.cells (cellsB sb (w.heap.size + 1) 0 0 .nilIface (-1) (-1)) 62 (0, 0)) ∧ w'.heap[w.heap.size + 1]? = some (.cells (Lib.byteCells zeros).toArray 5 (0, 0)) ∧ Below w.heap.size w w' := by
  obtain ⟨i0, hi0, hz0, hz1, hz2⟩ := info_parts Tryd.info5
  have hta : (Instr.typeAssert (.iface 43 (.pointer (some ⟨sb, 0, none⟩))) 54 41 true).run Tryd.prog w = .ok (.tuple #[.pointer none, .bool false]) w := by kernel_rfl
  go_enter Tryd.func19, Tryd.ntmps19
  go_wp2_with (refine wpList_make_full _ rfl _ _ 22 rfl w.heap.size 5 i0 _ 1 Tryd.underlying22 hi0 hz0 hz1 .i64 .i64 _ _ 4096 rfl rfl rfl rfl (by rw [hz2]; omega) (by unfold maxLen; omega) (by simp) ?_; intro w2 hom hgm; have HOM : Hid _ := full_row hom; have HGM : Hid _ := hgm; clear hom hgm)
  have hbb : w2.heap[w.heap.size]? = some (.cells #[.slice none 0 0, .nilIface, .int .i64 0, .int .i64 0, .nilIface, .int .i64 0, .int .i64 0] 62 (0, 0)) := (HGM.out.block w.heap.size (by simp) (by simp)).trans (heap_alloc_new w _)
  have HB2 : Hid (Below w.heap.size w w2) := ((Below.refl _ w).alloc (Nat.le_refl _) _).grown HGM.out (by simp) (fun k e => by cases e)
  refine Calls.mono (reset_any w.heap.size (w.heap.size + 1) sb w2 hbb) ?_
  rintro e w3 ⟨rfl, h3, h4⟩
  have H3 : Hid (w3.heap[w.heap.size]? = some (.cells (cellsB sb (w.heap.size + 1) 0 0 .nilIface (-1) (-1)) 62 (0, 0))) := h3
  have H4 : Hid (Only (fun k => k = w.heap.size) w2 w3) := h4
  clear h3 h4 hbb hta
  go_wp2_with fail
  go_ret
  refine ⟨rfl, H3.out, H4.out.heap (by simpa using HOM.out) (by omega), HB2.out.trans (H4.out.below HB2.out.size (fun k e => by omega))⟩

set_option maxHeartbeats 1000000 in
theorem bnew_any (sb : Nat) (w : World) :
    Calls Tryd.prog 16 #[.iface 43 (.pointer (some ⟨sb, 0, none⟩))] w fun e w' => e = .returned (.pointer (some ⟨w.heap.size, 0, none⟩)) ∧ w'.heap[w.heap.size]? = some (.cells (cellsB sb (w.heap.size + 1) 0 0 .nilIface (-1) (-1)) 62 (0, 0)) ∧ w'.heap[w.heap.size + 1]? = some (.cells (Lib.byteCells zeros).toArray 5 (0, 0)) ∧ Below w.heap.size w w' := by
  go_enter Tryd.func16, Tryd.ntmps16
  go_wp2_with fail
  refine Calls.mono (size_any sb w) ?_
  rintro e w' ⟨rfl, h1, h2, h3⟩
  have H : Hid (w'.heap[w.heap.size]? = some (.cells (cellsB sb (w.heap.size + 1) 0 0 .nilIface (-1) (-1)) 62 (0, 0)) ∧ w'.heap[w.heap.size + 1]? = some (.cells (Lib.byteCells zeros).toArray 5 (0, 0)) ∧ Below w.heap.size w w') := ⟨h1, h2, h3⟩
  clear h1 h2 h3
  go_wp2_with fail
  go_ret
  exact ⟨rfl, H.out⟩

set_option maxHeartbeats 2000000 in
theorem new_any (s : ByteArray) (st : Int) (w : World) (hs : s.size ≤ 1048576) :
    Calls Tryd.prog 7 #[.string s, .int .i64 st] w fun e w' => ∃ cb bb sb rb, e = .returned (.pointer (some ⟨cb, 0, none⟩)) ∧ CR w' w.heap.size cb bb sb rb s 0 st [] (bytesOf s) (.slice none 0 0) (.slice none 0 0) ∧ Below w.heap.size w w' := by
  go_enter Tryd.func7, Tryd.ntmps7
  go_wp2_with fail
  refine Calls.mono (snew_any s w) ?_
  rintro e w1 ⟨rfl, hw1⟩
  have HS1 : Hid (w1.heap[w.heap.size]? = some (.cells #[.string s, .int .i64 0, .int .i64 (-1)] 57 (0, 0))) := by rw [← hw1]; exact heap_alloc_new w _
  have HB1 : Hid (Below w.heap.size w w1) := by rw [← hw1]; exact (Below.refl _ w).alloc (Nat.le_refl _) _
  have hsz : w1.heap.size = w.heap.size + 1 := by rw [← hw1]; simp
  clear hw1
  go_wp2_with fail
  refine Calls.mono (bnew_any w.heap.size w1) ?_
  rintro e w2 ⟨rfl, h1, h2, h3⟩
  rw [hsz] at h1 h2
  have H1 : Hid (w2.heap[w.heap.size + 1]? = some (.cells (cellsB w.heap.size (w.heap.size + 1 + 1) 0 0 .nilIface (-1) (-1)) 62 (0, 0))) := h1
  have H2 : Hid (w2.heap[w.heap.size + 1 + 1]? = some (.cells (Lib.byteCells zeros).toArray 5 (0, 0))) := h2
  have H3 : Hid (Below w1.heap.size w1 w2) := h3
  clear h1 h2 h3
  go_wp2_with fail
  go_ret
  have hl2 := (Array.getElem?_eq_some_iff.1 H2.out).1
  have keep : ∀ k o, w2.heap[k]? = some o → (w2.alloc (.cells #[.pointer (some ⟨w.heap.size + 1, 0, none⟩), .int .i64 0, .int .i64 st, .slice none 0 0, .slice none 0 0, .slice none 0 0, .slice none 0 0] 47)).heap[k]? = some o := fun k o e => (Below.heap_alloc w2 _ k (Array.getElem?_eq_some_iff.1 e).1).trans e
  refine ⟨w2.heap.size, w.heap.size + 1, w.heap.size, w.heap.size + 1 + 1, rfl, ⟨?_, ⟨0, 0, 0, zeros, ⟨⟨-1, -1, keep _ _ H1.out⟩, ⟨-1, keep _ _ ((H3.out.block _ (by omega)).trans HS1.out)⟩, keep _ _ H2.out, by unfold zeros; exact List.length_replicate, Nat.le_refl _, by omega, Nat.zero_le _, hs⟩, ?_⟩, World.ownsRow_nil _ _ _ _, ⟨[], World.ownsRow_nil _ _ _ _⟩, .inl rfl, by simp [Value.ownBlock], by simp [Value.ownBlock], by omega⟩, (HB1.out.trans (H3.out.mono (by omega))).alloc (by have := H3.out.size; omega) _⟩
  · exact heap_alloc_new w2 _
  · unfold remB
    simp

/-! What the law reads off the reader and off the error. -/
set_option maxHeartbeats 1000000 in
theorem text_any (w : World) (cb bb : Nat) (ln st : Int) (vt vl : Value) (h : w.heap[cb]? = some (.cells (cellsC bb ln st vt vl) 47 (0, 0))) :
    Calls Tryd.prog 9 #[.pointer (some ⟨cb, 0, none⟩)] w fun e w' => e = .returned vt ∧ w = w' := by
  have c3 : w.cell? ⟨cb, 3, none⟩ = some vt := by rw [cell_of_row w cb 3 _ _ _ h]; rfl
  clear h
  go_enter Tryd.func9, Tryd.ntmps9
  go_wp2
  go_ret
  exact ⟨rfl, rfl⟩
set_option maxHeartbeats 1000000 in
theorem lineno_any (w : World) (cb bb : Nat) (ln st : Int) (vt vl : Value) (h : w.heap[cb]? = some (.cells (cellsC bb ln st vt vl) 47 (0, 0))) :
    Calls Tryd.prog 10 #[.pointer (some ⟨cb, 0, none⟩)] w fun e w' => e = .returned (.int .i64 ln) ∧ w = w' := by
  have c1 : w.cell? ⟨cb, 1, none⟩ = some (.int .i64 ln) := by rw [cell_of_row w cb 1 _ _ _ h]; rfl
  clear h
  go_enter Tryd.func10, Tryd.ntmps10
  go_wp2
  go_ret
  exact ⟨rfl, rfl⟩
set_option maxHeartbeats 1000000 in
theorem errof_nil (w : World) : Calls Tryd.prog 11 #[.nilIface] w fun e w' => e = .returned (.tuple #[.int .i64 0, .bool false, .bool false]) ∧ w = w' := by
  have hta : (Instr.typeAssert .nilIface 29 49 true).run Tryd.prog w = .ok (.tuple #[.pointer none, .bool false]) w := by kernel_rfl
  go_enter Tryd.func11, Tryd.ntmps11
  go_wp2
  refine bodyPost_ret (v := .tuple #[.int .i64 0, .bool false, .bool false]) (by simp [results, Tryd.results11, go_sem]) rfl ⟨rfl, rfl⟩

end Go.Proofs.Qxb6613468aDoor
