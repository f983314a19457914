/-
  TakesEachLine (3): the picks' bytes (loop 1), the map of the picks (loop 2).
-/
import Derived.Test.Qxb6612439aLoopE
import Derived.Test.Qxb6612439aMap
namespace Go.Proofs.Qxb6612439a
open Go.RowKit Go.Shelf

set_option maxRecDepth 1000000 in
set_option maxHeartbeats 4000000 in
theorem loop1 (c0 c2 c3 c4 c5 c8 c9 c10 c11 c12 c13 c14 c15 c16 c17 c18 c19 c20 c21 c22 c23 c24 c25 c26 c27 c28 c29 c30 c31 c32 c33 c34 c35 c36 c37 c38 c39 c40 c41 c42 c58 c59 c60 c61 c62 c63 c64 c65 c66 c67 c68 c69 c70 c71 c72 c73 c74 c75 c76 c77 c78 c79 c80 c81 c82 c83 c84 c85 c86 c87 c88 c89 c90 c91 c92 c93 c94 c95 c96 c97 c98 c99 c100 c101 c102 c103 c104 c105 c106 c107 c108 c109 c110 c111 c112 c113 c114 c115 c116 c117 c118 c119 c120 c121 c122 c123 c124 c125 c126 c127 c128 c129 c130 c131 c132 c133 c134 c135 c136 c137 c138 c139 c140 c141 c142 c143 c144 c145 c146 c147 c148 c149 c150 c151 c152 c153 c154 c155 c156 c157 c158 c159 c160 c161 c162 c163 c164 c165 c166 c167 c168 c169 c170 c171 c172 c173 c174 c175 c176 c177 c178 c179 c180 c181 c182 c183 c184 c185 c186 c187 c188 c189 c190 u43 u44 u45 u46 u47 u48 u49 u50 u51 u52 u53 u54 u55 u56 u57 : Value) (a1 : Option Addr) (n1 cap1 S B : Nat) (ps : List (ByteArray × Int)) (w : World) (Q : Exit → Act → World → Prop)
    (hrow : RowP w B (.slice a1 n1 cap1) ps) (hn : ps.length = n1) (hn4 : n1 ≤ 4096) (hS : S ≤ 2000000) (hsum : sumP 0 ps n1 ≤ 1048576)
    (hexit : ∀ a' w'', (∃ (u43 u44 u45 u46 u47 u48 u49 u50 u51 u52 u53 u54 u55 u56 u57 x7 : Value), a' = ⟨(c0 :: (.slice a1 n1 cap1) :: c2 :: c3 :: c4 :: c5 :: (.int .i64 ((S + sumP 16 ps n1 : Nat) : Int)) :: x7 :: c8 :: c9 :: c10 :: c11 :: c12 :: c13 :: c14 :: c15 :: c16 :: c17 :: c18 :: c19 :: c20 :: c21 :: c22 :: c23 :: c24 :: c25 :: c26 :: c27 :: c28 :: c29 :: c30 :: c31 :: c32 :: c33 :: c34 :: c35 :: c36 :: c37 :: c38 :: c39 :: c40 :: c41 :: c42 :: u43 :: u44 :: u45 :: u46 :: u47 :: u48 :: u49 :: u50 :: u51 :: u52 :: u53 :: u54 :: u55 :: u56 :: u57 :: c58 :: c59 :: c60 :: c61 :: c62 :: c63 :: c64 :: c65 :: c66 :: c67 :: c68 :: c69 :: c70 :: c71 :: c72 :: c73 :: c74 :: c75 :: c76 :: c77 :: c78 :: c79 :: c80 :: c81 :: c82 :: c83 :: c84 :: c85 :: c86 :: c87 :: c88 :: c89 :: c90 :: c91 :: c92 :: c93 :: c94 :: c95 :: c96 :: c97 :: c98 :: c99 :: c100 :: c101 :: c102 :: c103 :: c104 :: c105 :: c106 :: c107 :: c108 :: c109 :: c110 :: c111 :: c112 :: c113 :: c114 :: c115 :: c116 :: c117 :: c118 :: c119 :: c120 :: c121 :: c122 :: c123 :: c124 :: c125 :: c126 :: c127 :: c128 :: c129 :: c130 :: c131 :: c132 :: c133 :: c134 :: c135 :: c136 :: c137 :: c138 :: c139 :: c140 :: c141 :: c142 :: c143 :: c144 :: c145 :: c146 :: c147 :: c148 :: c149 :: c150 :: c151 :: c152 :: c153 :: c154 :: c155 :: c156 :: c157 :: c158 :: c159 :: c160 :: c161 :: c162 :: c163 :: c164 :: c165 :: c166 :: c167 :: c168 :: c169 :: c170 :: c171 :: c172 :: c173 :: c174 :: c175 :: c176 :: c177 :: c178 :: c179 :: c180 :: c181 :: c182 :: c183 :: c184 :: c185 :: c186 :: c187 :: c188 :: c189 :: c190 :: []).toArray, []⟩ ∧ w = w'') → Q (.exit 0) a' w'') :
    Code.wp Try.prog (Code.loop (loopB 0)) Q ⟨(c0 :: (.slice a1 n1 cap1) :: c2 :: c3 :: c4 :: c5 :: (.int .i64 (S : Nat)) :: (.int .i64 0) :: c8 :: c9 :: c10 :: c11 :: c12 :: c13 :: c14 :: c15 :: c16 :: c17 :: c18 :: c19 :: c20 :: c21 :: c22 :: c23 :: c24 :: c25 :: c26 :: c27 :: c28 :: c29 :: c30 :: c31 :: c32 :: c33 :: c34 :: c35 :: c36 :: c37 :: c38 :: c39 :: c40 :: c41 :: c42 :: u43 :: u44 :: u45 :: u46 :: u47 :: u48 :: u49 :: u50 :: u51 :: u52 :: u53 :: u54 :: u55 :: u56 :: u57 :: c58 :: c59 :: c60 :: c61 :: c62 :: c63 :: c64 :: c65 :: c66 :: c67 :: c68 :: c69 :: c70 :: c71 :: c72 :: c73 :: c74 :: c75 :: c76 :: c77 :: c78 :: c79 :: c80 :: c81 :: c82 :: c83 :: c84 :: c85 :: c86 :: c87 :: c88 :: c89 :: c90 :: c91 :: c92 :: c93 :: c94 :: c95 :: c96 :: c97 :: c98 :: c99 :: c100 :: c101 :: c102 :: c103 :: c104 :: c105 :: c106 :: c107 :: c108 :: c109 :: c110 :: c111 :: c112 :: c113 :: c114 :: c115 :: c116 :: c117 :: c118 :: c119 :: c120 :: c121 :: c122 :: c123 :: c124 :: c125 :: c126 :: c127 :: c128 :: c129 :: c130 :: c131 :: c132 :: c133 :: c134 :: c135 :: c136 :: c137 :: c138 :: c139 :: c140 :: c141 :: c142 :: c143 :: c144 :: c145 :: c146 :: c147 :: c148 :: c149 :: c150 :: c151 :: c152 :: c153 :: c154 :: c155 :: c156 :: c157 :: c158 :: c159 :: c160 :: c161 :: c162 :: c163 :: c164 :: c165 :: c166 :: c167 :: c168 :: c169 :: c170 :: c171 :: c172 :: c173 :: c174 :: c175 :: c176 :: c177 :: c178 :: c179 :: c180 :: c181 :: c182 :: c183 :: c184 :: c185 :: c186 :: c187 :: c188 :: c189 :: c190 :: []).toArray, []⟩ w := by
  conv => arg 2; arg 1; whnf
  have HROW : Hid (RowP w B (.slice a1 n1 cap1) ps) := hrow
  have HN : Hid (ps.length = n1) := hn
  have hle : ∀ k, k ≤ n1 → sumP 16 ps k ≤ 1048576 + 65536 := by
    intro k hk
    rw [sumP_c 16 ps k (by rw [hn]; exact hk)]
    have := sumP_le 0 ps k
    rw [hn] at this
    omega
  have HLE : Hid (∀ k, k ≤ n1 → sumP 16 ps k ≤ 1048576 + 65536) := hle
  have HE : Hid _ := hexit
  clear hrow hn hexit hle hsum
  go_loop [6, 7] (fun z i => ∃ k : Nat, i = .int .i64 k ∧ k ≤ n1 ∧ z = .int .i64 ((S + sumP 16 ps k : Nat) : Int)) (fun _ i => n1 - (intOf i).toNat)
  case atStart => exact ⟨0, rfl, Nat.zero_le _, rfl⟩
  case round =>
    obtain ⟨k, rfl, hk, rfl⟩ := hrel
    by_cases hlt : k < n1
    · obtain ⟨b, off, rfl, _, hc, _⟩ := HROW.out.at HN.out hlt
      have hkl : k < ps.length := by rw [HN.out]; exact hlt
      have hst := sumP_succ 16 ps k hkl
      have hbd := HLE.out (k + 1) hlt
      obtain ⟨s, hsv⟩ : ∃ s, ps[k].1 = s := ⟨_, rfl⟩
      rw [hsv] at hc hst
      rw [hst] at hbd
      have HS : Hid (sumP 16 ps (k + 1) = sumP 16 ps k + (s.size + 16)) := hst
      clear hst hsv
      go_wp2
      go_round
      case rel => exact ⟨k + 1, by go_num, by omega, by rw [HS.out]; go_num⟩
      case measure => simp [intOf]; omega
    · obtain rfl : k = n1 := by omega
      go_wp2_with fail
      refine HE.out _ _ ⟨_, _, _, _, _, _, _, _, _, _, _, _, _, _, _, _, rfl, rfl⟩

set_option maxRecDepth 1000000 in
set_option maxHeartbeats 4000000 in
theorem loop2 (c0 c2 c3 c4 c5 c6 c7 c10 c11 c12 c13 c14 c15 c16 c17 c18 c19 c20 c21 c22 c23 c24 c25 c26 c27 c28 c29 c30 c31 c32 c33 c34 c35 c36 c37 c38 c39 c40 c41 c42 c43 c44 c45 c46 c47 c48 c49 c50 c51 c52 c53 c54 c55 c56 c57 c58 c59 c60 c61 c62 c80 c81 c82 c83 c84 c85 c86 c87 c88 c89 c90 c91 c92 c93 c94 c95 c96 c97 c98 c99 c100 c101 c102 c103 c104 c105 c106 c107 c108 c109 c110 c111 c112 c113 c114 c115 c116 c117 c118 c119 c120 c121 c122 c123 c124 c125 c126 c127 c128 c129 c130 c131 c132 c133 c134 c135 c136 c137 c138 c139 c140 c141 c142 c143 c144 c145 c146 c147 c148 c149 c150 c151 c152 c153 c154 c155 c156 c157 c158 c159 c160 c161 c162 c163 c164 c165 c166 c167 c168 c169 c170 c171 c172 c173 c174 c175 c176 c177 c178 c179 c180 c181 c182 c183 c184 c185 c186 c187 c188 c189 c190 u63 u64 u65 u66 u67 u68 u69 u70 u71 u72 u73 u74 u75 u76 u77 u78 u79 : Value) (a1 : Option Addr) (n1 cap1 mb B : Nat) (ps : List (ByteArray × Int)) (w : World) (Q : Exit → Act → World → Prop)
    (hrow : RowP w B (.slice a1 n1 cap1) ps) (hBm : B ≤ mb) (hmw : mb ≤ w.heap.size) (hn : ps.length = n1) (hn4 : n1 ≤ 4096) (hsz : ∀ p ∈ ps, p.1.size ≤ maxLen) (hwf : ∀ p ∈ ps, (Lit.int .i64 p.2).wf = true) (hm : OwnM w mb 0 (.map []))
    (hexit : ∀ a' w'', (∃ (u63 u64 u65 u66 u67 u68 u69 u70 u71 u72 u73 u74 u75 u76 u77 u78 u79 x9 : Value) (D : DataW Unit), a' = ⟨(c0 :: (.slice a1 n1 cap1) :: c2 :: c3 :: c4 :: c5 :: c6 :: c7 :: (.map (some mb)) :: x9 :: c10 :: c11 :: c12 :: c13 :: c14 :: c15 :: c16 :: c17 :: c18 :: c19 :: c20 :: c21 :: c22 :: c23 :: c24 :: c25 :: c26 :: c27 :: c28 :: c29 :: c30 :: c31 :: c32 :: c33 :: c34 :: c35 :: c36 :: c37 :: c38 :: c39 :: c40 :: c41 :: c42 :: c43 :: c44 :: c45 :: c46 :: c47 :: c48 :: c49 :: c50 :: c51 :: c52 :: c53 :: c54 :: c55 :: c56 :: c57 :: c58 :: c59 :: c60 :: c61 :: c62 :: u63 :: u64 :: u65 :: u66 :: u67 :: u68 :: u69 :: u70 :: u71 :: u72 :: u73 :: u74 :: u75 :: u76 :: u77 :: u78 :: u79 :: c80 :: c81 :: c82 :: c83 :: c84 :: c85 :: c86 :: c87 :: c88 :: c89 :: c90 :: c91 :: c92 :: c93 :: c94 :: c95 :: c96 :: c97 :: c98 :: c99 :: c100 :: c101 :: c102 :: c103 :: c104 :: c105 :: c106 :: c107 :: c108 :: c109 :: c110 :: c111 :: c112 :: c113 :: c114 :: c115 :: c116 :: c117 :: c118 :: c119 :: c120 :: c121 :: c122 :: c123 :: c124 :: c125 :: c126 :: c127 :: c128 :: c129 :: c130 :: c131 :: c132 :: c133 :: c134 :: c135 :: c136 :: c137 :: c138 :: c139 :: c140 :: c141 :: c142 :: c143 :: c144 :: c145 :: c146 :: c147 :: c148 :: c149 :: c150 :: c151 :: c152 :: c153 :: c154 :: c155 :: c156 :: c157 :: c158 :: c159 :: c160 :: c161 :: c162 :: c163 :: c164 :: c165 :: c166 :: c167 :: c168 :: c169 :: c170 :: c171 :: c172 :: c173 :: c174 :: c175 :: c176 :: c177 :: c178 :: c179 :: c180 :: c181 :: c182 :: c183 :: c184 :: c185 :: c186 :: c187 :: c188 :: c189 :: c190 :: []).toArray, []⟩ ∧ Hid (OwnM w'' mb n1 D) ∧ Hid (Below mb w w'')) → Q (.exit 2) a' w'') :
    Code.wp Try.prog (Code.loop (loopB 1)) Q ⟨(c0 :: (.slice a1 n1 cap1) :: c2 :: c3 :: c4 :: c5 :: c6 :: c7 :: (.map (some mb)) :: (.int .i64 0) :: c10 :: c11 :: c12 :: c13 :: c14 :: c15 :: c16 :: c17 :: c18 :: c19 :: c20 :: c21 :: c22 :: c23 :: c24 :: c25 :: c26 :: c27 :: c28 :: c29 :: c30 :: c31 :: c32 :: c33 :: c34 :: c35 :: c36 :: c37 :: c38 :: c39 :: c40 :: c41 :: c42 :: c43 :: c44 :: c45 :: c46 :: c47 :: c48 :: c49 :: c50 :: c51 :: c52 :: c53 :: c54 :: c55 :: c56 :: c57 :: c58 :: c59 :: c60 :: c61 :: c62 :: u63 :: u64 :: u65 :: u66 :: u67 :: u68 :: u69 :: u70 :: u71 :: u72 :: u73 :: u74 :: u75 :: u76 :: u77 :: u78 :: u79 :: c80 :: c81 :: c82 :: c83 :: c84 :: c85 :: c86 :: c87 :: c88 :: c89 :: c90 :: c91 :: c92 :: c93 :: c94 :: c95 :: c96 :: c97 :: c98 :: c99 :: c100 :: c101 :: c102 :: c103 :: c104 :: c105 :: c106 :: c107 :: c108 :: c109 :: c110 :: c111 :: c112 :: c113 :: c114 :: c115 :: c116 :: c117 :: c118 :: c119 :: c120 :: c121 :: c122 :: c123 :: c124 :: c125 :: c126 :: c127 :: c128 :: c129 :: c130 :: c131 :: c132 :: c133 :: c134 :: c135 :: c136 :: c137 :: c138 :: c139 :: c140 :: c141 :: c142 :: c143 :: c144 :: c145 :: c146 :: c147 :: c148 :: c149 :: c150 :: c151 :: c152 :: c153 :: c154 :: c155 :: c156 :: c157 :: c158 :: c159 :: c160 :: c161 :: c162 :: c163 :: c164 :: c165 :: c166 :: c167 :: c168 :: c169 :: c170 :: c171 :: c172 :: c173 :: c174 :: c175 :: c176 :: c177 :: c178 :: c179 :: c180 :: c181 :: c182 :: c183 :: c184 :: c185 :: c186 :: c187 :: c188 :: c189 :: c190 :: []).toArray, []⟩ w := by
  conv => arg 2; arg 1; whnf
  have HROW : Hid (RowP w B (.slice a1 n1 cap1) ps) := hrow
  have HN : Hid (ps.length = n1) := hn
  have HZ : Hid (∀ p ∈ ps, p.1.size ≤ maxLen) := hsz
  have HF : Hid (∀ p ∈ ps, (Lit.int .i64 p.2).wf = true) := hwf
  have HM : Hid (OwnM w mb 0 (.map [])) := hm
  have HE : Hid _ := hexit
  clear hrow hn hexit hsz hwf hm
  go_loopw [9] (fun i wr => ∃ (k : Nat) (D : DataW Unit), i = .int .i64 k ∧ k ≤ n1 ∧ Hid (OwnM wr mb k D) ∧ Hid (Below mb w wr)) (fun i _ => n1 - (intOf i).toNat)
  case atStart => exact ⟨0, _, rfl, Nat.zero_le _, HM, Below.refl _ _⟩
  case round =>
    obtain ⟨k, D, rfl, hk, HMX, HB⟩ := hrel
    by_cases hlt : k < n1
    · obtain ⟨b, off, rfl, hbB, hc0, hc1⟩ := HROW.out.at HN.out hlt
      have hkl : k < ps.length := by rw [HN.out]; exact hlt
      have d0 := (HB.out.cell (p := ⟨b, off + k * 2, none⟩) (Nat.lt_of_lt_of_le hbB hBm)).trans hc0
      have d1 := (HB.out.cell (p := ⟨b, off + k * 2 + 1, none⟩) (Nat.lt_of_lt_of_le hbB hBm)).trans hc1
      have hz := HZ.out ps[k] (List.getElem_mem _)
      have hf := HF.out ps[k] (List.getElem_mem _)
      obtain ⟨s, hsv⟩ : ∃ s, ps[k].1 = s := ⟨_, rfl⟩
      obtain ⟨x, hxv⟩ : ∃ x, ps[k].2 = x := ⟨_, rfl⟩
      rw [hsv] at d0 hz
      rw [hxv] at d1 hf
      obtain ⟨w', hrun, hm', hg'⟩ := World.ownsMap.update (w := wr.drew) (b := mb) (n := k) (D := D) HMX.out (Maps.string_keyed Try.underlying9) Try.underlying28 (by unfold maxLen; omega) (WideMaps.keyOf_string_mk Try.underlying9 hz) (plainElem_int Try.underlying3 hf)
      have HM2 : Hid (OwnM w' mb (k + 1) _) := hm'
      have HB2 : Hid (Below mb w w') := HB.out.drew.grown hg' (Nat.le_trans hmw HB.out.size) (fun k e => by cases e; exact Nat.le_refl _)
      have e0 := (HB2.out.cell (p := ⟨b, off + k * 2, none⟩) (Nat.lt_of_lt_of_le hbB hBm)).trans hc0
      have e1 := (HB2.out.cell (p := ⟨b, off + k * 2 + 1, none⟩) (Nat.lt_of_lt_of_le hbB hBm)).trans hc1
      rw [hsv] at e0
      rw [hxv] at e1
      have hi0' : (0 : Int) ≤ (k : Int) := Int.natCast_nonneg _
      have hi1' : (k : Int) < (n1 : Int) := by omega
      clear hc0 hc1 hsv hxv hz hf hm' hg'
      go_wp2_with fail
      go_region_held3 (fun w' => w'.cell? ⟨b, off + k * 2, none⟩ = some (.string s) ∧ w'.cell? ⟨b, off + k * 2 + 1, none⟩ = some (.int .i64 x)) (go_keep) (fail)
      go_wp2_with fail
      go_roundw
      case rel => exact ⟨k + 1, _, by go_num, by omega, HM2, HB2⟩
      case measure => simp [intOf]; omega
    · obtain rfl : k = n1 := by omega
      go_wp2_with fail
      refine HE.out _ _ ⟨_, _, _, _, _, _, _, _, _, _, _, _, _, _, _, _, _, _, D, rfl, HMX, HB⟩
end Go.Proofs.Qxb6612439a
