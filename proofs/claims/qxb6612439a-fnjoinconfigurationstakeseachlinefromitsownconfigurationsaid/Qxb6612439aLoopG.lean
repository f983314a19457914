/-
  TakesEachLine (3): the bytes that are wanted (loop 7).
-/
import Derived.Test.Qxb6612439aLoopE
import Derived.Lib.AppendStr
import Derived.Lib.UnsafeStr
import Derived.Lib.BufferRead
namespace Go.Proofs.Qxb6612439a
open Go.RowKit Go.Shelf

theorem Try.info5 : (Try.prog.info? 5).map (fun i => (i.zero, i.size, i.bytes)) = some (some (.int .u8 0), 1, 1) := by kernel_rfl

/-- A row of bytes, as a string. -/
theorem conv_own {w : World} {B N : Nat} {v : Value} {l : List UInt8} (h : w.ownsRow B 5 1 v N (Lib.byteCells l)) : (convert 36 9 v).run Try.prog w = .ok (.string ⟨l.toArray⟩) w := by
  have hl : l.length = N := by have := h.1; simpa [Lib.byteCells] using this
  rcases h.2 with ⟨rfl, h0⟩ | ⟨g, cap, cur, rfl, _, hg, _, _, _, htk⟩
  · have : l = [] := List.eq_nil_of_length_eq_zero (by omega)
    subst this
    exact Lib.run_convert_nil_bytes w 36 9 5 0 Try.underlying36 Try.underlying5 Try.underlying9
  · subst hl
    exact run_convert_bytes_back w 36 9 5 ⟨g, 0, none⟩ cap l Try.underlying36 Try.underlying5 Try.underlying9 (Lib.bytes_of_row hg (by simpa using htk))

set_option maxRecDepth 1000000 in
set_option maxHeartbeats 4000000 in
theorem loop7 (c0 c1 c2 c3 c4 c5 c6 c7 c8 c9 c11 c12 c13 c14 c15 c16 c19 c20 c21 c22 c23 c24 c25 c26 c27 c28 c29 c30 c31 c32 c33 c34 c35 c36 c37 c38 c39 c40 c41 c42 c43 c44 c45 c46 c47 c48 c49 c50 c51 c52 c53 c54 c55 c56 c57 c58 c59 c60 c61 c62 c63 c64 c65 c66 c67 c68 c69 c70 c71 c72 c73 c74 c75 c76 c77 c78 c79 c80 c81 c82 c83 c84 c85 c86 c87 c88 c89 c90 c91 c92 c93 c94 c95 c96 c97 c98 c99 c100 c101 c102 c103 c104 c105 c106 c107 c108 c109 c110 c111 c112 c113 c114 c115 c116 c117 c118 c119 c120 c121 c122 c123 c124 c125 c126 c127 c128 c129 c130 c131 c132 c133 c134 c135 c136 c137 c138 c139 c140 c141 c142 c143 c144 c145 c146 c147 c148 c149 c150 c151 c152 c153 c154 c155 c156 c157 c158 c159 c160 c161 c162 c163 c164 c165 c183 c184 c185 c186 c187 c188 c189 c190 u166 u167 u168 u169 u170 u171 u172 u173 u174 u175 u176 u177 u178 u179 u180 u181 u182 : Value) (a1 : Option Addr) (cap1 B1 : Nat) (vs : List Value) (l : List Line) (w : World) (Q : Exit → Act → World → Prop)
    (hR : Runs w B1 (.slice a1 1 cap1) vs [l]) (hl : l.length ≤ 1048576) (ht : (textsTo l l.length).length ≤ 1048576)
    (hexit : ∀ a' w'', (∃ (u166 u167 u168 u169 u170 u171 u172 u173 u174 u175 u176 u177 u178 u179 u180 u181 u182 x17 x18 : Value), a' = ⟨(c0 :: c1 :: c2 :: c3 :: c4 :: c5 :: c6 :: c7 :: c8 :: c9 :: (.slice a1 1 cap1) :: c11 :: c12 :: c13 :: c14 :: c15 :: c16 :: x17 :: x18 :: c19 :: c20 :: c21 :: c22 :: c23 :: c24 :: c25 :: c26 :: c27 :: c28 :: c29 :: c30 :: c31 :: c32 :: c33 :: c34 :: c35 :: c36 :: c37 :: c38 :: c39 :: c40 :: c41 :: c42 :: c43 :: c44 :: c45 :: c46 :: c47 :: c48 :: c49 :: c50 :: c51 :: c52 :: c53 :: c54 :: c55 :: c56 :: c57 :: c58 :: c59 :: c60 :: c61 :: c62 :: c63 :: c64 :: c65 :: c66 :: c67 :: c68 :: c69 :: c70 :: c71 :: c72 :: c73 :: c74 :: c75 :: c76 :: c77 :: c78 :: c79 :: c80 :: c81 :: c82 :: c83 :: c84 :: c85 :: c86 :: c87 :: c88 :: c89 :: c90 :: c91 :: c92 :: c93 :: c94 :: c95 :: c96 :: c97 :: c98 :: c99 :: c100 :: c101 :: c102 :: c103 :: c104 :: c105 :: c106 :: c107 :: c108 :: c109 :: c110 :: c111 :: c112 :: c113 :: c114 :: c115 :: c116 :: c117 :: c118 :: c119 :: c120 :: c121 :: c122 :: c123 :: c124 :: c125 :: c126 :: c127 :: c128 :: c129 :: c130 :: c131 :: c132 :: c133 :: c134 :: c135 :: c136 :: c137 :: c138 :: c139 :: c140 :: c141 :: c142 :: c143 :: c144 :: c145 :: c146 :: c147 :: c148 :: c149 :: c150 :: c151 :: c152 :: c153 :: c154 :: c155 :: c156 :: c157 :: c158 :: c159 :: c160 :: c161 :: c162 :: c163 :: c164 :: c165 :: u166 :: u167 :: u168 :: u169 :: u170 :: u171 :: u172 :: u173 :: u174 :: u175 :: u176 :: u177 :: u178 :: u179 :: u180 :: u181 :: u182 :: c183 :: c184 :: c185 :: c186 :: c187 :: c188 :: c189 :: c190 :: []).toArray, []⟩ ∧ Hid (∃ a2 N cap2, x17 = .slice a2 N cap2 ∧ w''.ownsRow w.heap.size 5 1 (.slice a2 N cap2) N (Lib.byteCells (textsTo l l.length))) ∧ Hid (Below w.heap.size w w'')) → Q (.exit 12) a' w'') :
    Code.wp Try.prog (Code.loop (loopB 6)) Q ⟨(c0 :: c1 :: c2 :: c3 :: c4 :: c5 :: c6 :: c7 :: c8 :: c9 :: (.slice a1 1 cap1) :: c11 :: c12 :: c13 :: c14 :: c15 :: c16 :: (.slice none 0 0) :: (.int .i64 0) :: c19 :: c20 :: c21 :: c22 :: c23 :: c24 :: c25 :: c26 :: c27 :: c28 :: c29 :: c30 :: c31 :: c32 :: c33 :: c34 :: c35 :: c36 :: c37 :: c38 :: c39 :: c40 :: c41 :: c42 :: c43 :: c44 :: c45 :: c46 :: c47 :: c48 :: c49 :: c50 :: c51 :: c52 :: c53 :: c54 :: c55 :: c56 :: c57 :: c58 :: c59 :: c60 :: c61 :: c62 :: c63 :: c64 :: c65 :: c66 :: c67 :: c68 :: c69 :: c70 :: c71 :: c72 :: c73 :: c74 :: c75 :: c76 :: c77 :: c78 :: c79 :: c80 :: c81 :: c82 :: c83 :: c84 :: c85 :: c86 :: c87 :: c88 :: c89 :: c90 :: c91 :: c92 :: c93 :: c94 :: c95 :: c96 :: c97 :: c98 :: c99 :: c100 :: c101 :: c102 :: c103 :: c104 :: c105 :: c106 :: c107 :: c108 :: c109 :: c110 :: c111 :: c112 :: c113 :: c114 :: c115 :: c116 :: c117 :: c118 :: c119 :: c120 :: c121 :: c122 :: c123 :: c124 :: c125 :: c126 :: c127 :: c128 :: c129 :: c130 :: c131 :: c132 :: c133 :: c134 :: c135 :: c136 :: c137 :: c138 :: c139 :: c140 :: c141 :: c142 :: c143 :: c144 :: c145 :: c146 :: c147 :: c148 :: c149 :: c150 :: c151 :: c152 :: c153 :: c154 :: c155 :: c156 :: c157 :: c158 :: c159 :: c160 :: c161 :: c162 :: c163 :: c164 :: c165 :: u166 :: u167 :: u168 :: u169 :: u170 :: u171 :: u172 :: u173 :: u174 :: u175 :: u176 :: u177 :: u178 :: u179 :: u180 :: u181 :: u182 :: c183 :: c184 :: c185 :: c186 :: c187 :: c188 :: c189 :: c190 :: []).toArray, []⟩ w := by
  obtain ⟨i0, hi0, hz0, hz1, hz2⟩ := info_parts Try.info5
  conv => arg 2; arg 1; whnf
  obtain ⟨g, ua, uc, rfl, hg, hcell, hrow⟩ := hR.at rfl (i := 0) (by omega)
  simp only [List.getElem_cons_zero] at hcell hrow
  obtain ⟨nl, hnl⟩ : ∃ nl, l.length = nl := ⟨_, rfl⟩
  have HNL : Hid (l.length = nl) := hnl
  rw [hnl] at hcell hrow hl
  have HROW : Hid (w.ownsRow 0 34 2 (.slice ua nl uc) nl (cellsL l)) := hrow
  have HC : Hid (w.cell? ⟨g, 0, none⟩ = some (.slice ua nl uc)) := hcell
  have HTL : Hid ((textsTo l l.length).length ≤ 1048576) := ht
  have HE : Hid _ := hexit
  clear hR hrow hexit hnl ht hcell
  go_loopw [17, 18] (fun x17 x18 wr => ∃ (j N cap2 : Nat) (a2 : Option Addr), x18 = .int .i64 j ∧ j ≤ nl ∧ x17 = .slice a2 N cap2 ∧ Hid (N = (textsTo l j).length) ∧ N ≤ 1048576 ∧ Hid (wr.ownsRow w.heap.size 5 1 (.slice a2 N cap2) N (Lib.byteCells (textsTo l j))) ∧ Hid (Below w.heap.size w wr)) (fun _ x18 _ => nl - (intOf x18).toNat)
  case atStart => exact ⟨0, 0, 0, none, rfl, Nat.zero_le _, rfl, rfl, Nat.zero_le _, World.ownsRow_nil _ _ _ _, Below.refl _ _⟩
  case round =>
    obtain ⟨j, N, cap2, a2, rfl, hj, rfl, HNN, hN, HO, HB⟩ := hrel
    have hc0 : wr.cell? ⟨g, 0, none⟩ = some (.slice ua nl uc) := (HB.out.cell (p := ⟨g, 0, none⟩) hg).trans HC.out
    have hsz : w.heap.size ≤ wr.heap.size := HB.out.size
    by_cases hlt : j < nl
    · obtain ⟨gb, rfl, hgb, r0, r1⟩ := row_line HROW.out HNL.out hlt
      have hjl : j < l.length := by rw [HNL.out]; exact hlt
      have c1 : wr.cell? ⟨gb, j * 2 + 1, none⟩ = some (.string l[j].2) := (HB.out.cell (p := ⟨gb, j * 2 + 1, none⟩) hgb).trans r1
      have hst := textsTo_succ l j hjl
      obtain ⟨x2, hx2⟩ : ∃ x2, l[j].2 = x2 := ⟨_, rfl⟩
      rw [hx2] at c1 hst
      have hlen : N + x2.size ≤ 1048576 := by
        have h1 := textsTo_le l (j + 1)
        rw [← textsTo_all] at h1
        have h2 := HTL.out
        rw [hst, List.length_append, bytesOf_size] at h1
        rw [HNN.out]; omega
      have HST : Hid (textsTo l (j + 1) = textsTo l j ++ bytesOf x2) := hst
      clear r0 r1 hx2 hst
      go_wp2_with (at_builtin; refine Lib.wpList_append_own_string _ rfl _ _ 36 9 rfl w.heap.size 5 i0 Try.underlying36 Try.underlying9 hi0 hz0 hz1 hz2 _ _ _ rfl HO.out x2 rfl (by unfold maxLen; omega) (by omega) hsz ?_; intro v' w3 ho3 hg3 hn3; obtain ⟨a3, cap3, rfl⟩ := ownsRow_slice ho3)
      have HO3 : Hid (w3.ownsRow w.heap.size 5 1 (.slice a3 (N + x2.size) cap3) (N + x2.size) (Lib.byteCells (textsTo l (j + 1)))) := by rw [HST.out, Lib.byteCells_append]; exact ho3
      have HB3 : Hid (Below w.heap.size w w3) := HB.out.grown hg3 hsz (fun k e => (HO.out.lt k e).1)
      go_roundw
      case rel => exact ⟨j + 1, N + x2.size, cap3, a3, by go_num, by omega, rfl, by show N + x2.size = (textsTo l (j + 1)).length; rw [HST.out, List.length_append, bytesOf_size, ← HNN.out], hlen, HO3, HB3⟩
      case measure => simp [intOf]; omega
    · obtain rfl : j = nl := by omega
      go_wp2_with fail
      refine HE.out _ _ ⟨_, _, _, _, _, _, _, _, _, _, _, _, _, _, _, _, _, _, _, rfl, ⟨a2, N, cap2, rfl, by rw [HNL.out]; exact HO.out⟩, HB⟩
end Go.Proofs.Qxb6612439a
