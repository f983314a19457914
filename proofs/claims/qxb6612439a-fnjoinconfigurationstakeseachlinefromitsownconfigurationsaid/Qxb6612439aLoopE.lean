/-
  TakesEachLine (3): the rounds of merging (loop 5).
-/
import Derived.Test.Qxb6612439aRuns
import Derived.Test.Qxb6612439aJmerge
import Derived.Deep.RegionHeld3
import Derived.OwnWalk
namespace Go.Proofs.Qxb6612439a
open Go.RowKit Go.Shelf

/-- The loops' bodies, in the order of the text. -/
def loopsOf : Code → List Code
  | .loop c => c :: loopsOf c
  | .seq a b => loopsOf a ++ loopsOf b
  | .block _ c => loopsOf c
  | .scope c => loopsOf c
  | .cond _ a b => loopsOf a ++ loopsOf b
  | _ => []
noncomputable def loopB (k : Nat) : Code := ((Try.f3.body.map loopsOf).getD [])[k]?.getD .skip

def sliceLen : Value → Nat
  | .slice _ n _ => n
  | _ => 0

set_option maxRecDepth 1000000 in
set_option maxHeartbeats 4000000 in
theorem loop5 (c0 c1 c2 c3 c4 c5 c6 c7 c8 c9 c11 c12 c13 c14 c17 c18 c19 c20 c21 c22 c23 c24 c25 c26 c27 c28 c29 c30 c31 c32 c33 c34 c35 c36 c37 c38 c39 c40 c41 c42 c43 c44 c45 c46 c47 c48 c49 c50 c51 c52 c53 c54 c55 c56 c57 c58 c59 c60 c61 c62 c63 c64 c65 c66 c67 c68 c69 c70 c71 c72 c73 c74 c75 c76 c77 c78 c79 c80 c81 c82 c83 c84 c85 c86 c87 c88 c89 c90 c91 c92 c93 c94 c95 c96 c97 c98 c99 c100 c101 c102 c103 c104 c105 c106 c107 c108 c109 c110 c111 c112 c113 c114 c115 c116 c117 c118 c119 c120 c121 c122 c163 c164 c165 c166 c167 c168 c169 c170 c171 c172 c173 c174 c175 c176 c177 c178 c179 c180 c181 c182 c183 c184 c185 c186 c187 c188 c189 c190 u15 u16 u123 u124 u125 u126 u127 u128 u129 u130 u131 u132 u133 u134 u135 u136 u137 u138 u139 u140 u141 u142 u143 u144 u145 u146 u147 u148 u149 u150 u151 u152 u153 u154 u155 u156 u157 u158 u159 u160 u161 u162 : Value) (a : Option Addr) (n cap B : Nat) (vs : List Value) (lss : List (List Line)) (w : World) (Q : Exit → Act → World → Prop)
    (hR : Runs w B (.slice a n cap) vs lss) (hn : lss.length = n) (hn4 : n ≤ 4096) (hg : Good lss) (hl : lss.flatten.length ≤ 1048576)
    (hexit : ∀ a' w'', (∃ (u15 u16 u123 u124 u125 u126 u127 u128 u129 u130 u131 u132 u133 u134 u135 u136 u137 u138 u139 u140 u141 u142 u143 u144 u145 u146 u147 u148 u149 u150 u151 u152 u153 u154 u155 u156 u157 u158 u159 u160 u161 u162 x10 : Value) (vs' : List Value) (fin : List (List Line)), a' = ⟨(c0 :: c1 :: c2 :: c3 :: c4 :: c5 :: c6 :: c7 :: c8 :: c9 :: x10 :: c11 :: c12 :: c13 :: c14 :: u15 :: u16 :: c17 :: c18 :: c19 :: c20 :: c21 :: c22 :: c23 :: c24 :: c25 :: c26 :: c27 :: c28 :: c29 :: c30 :: c31 :: c32 :: c33 :: c34 :: c35 :: c36 :: c37 :: c38 :: c39 :: c40 :: c41 :: c42 :: c43 :: c44 :: c45 :: c46 :: c47 :: c48 :: c49 :: c50 :: c51 :: c52 :: c53 :: c54 :: c55 :: c56 :: c57 :: c58 :: c59 :: c60 :: c61 :: c62 :: c63 :: c64 :: c65 :: c66 :: c67 :: c68 :: c69 :: c70 :: c71 :: c72 :: c73 :: c74 :: c75 :: c76 :: c77 :: c78 :: c79 :: c80 :: c81 :: c82 :: c83 :: c84 :: c85 :: c86 :: c87 :: c88 :: c89 :: c90 :: c91 :: c92 :: c93 :: c94 :: c95 :: c96 :: c97 :: c98 :: c99 :: c100 :: c101 :: c102 :: c103 :: c104 :: c105 :: c106 :: c107 :: c108 :: c109 :: c110 :: c111 :: c112 :: c113 :: c114 :: c115 :: c116 :: c117 :: c118 :: c119 :: c120 :: c121 :: c122 :: u123 :: u124 :: u125 :: u126 :: u127 :: u128 :: u129 :: u130 :: u131 :: u132 :: u133 :: u134 :: u135 :: u136 :: u137 :: u138 :: u139 :: u140 :: u141 :: u142 :: u143 :: u144 :: u145 :: u146 :: u147 :: u148 :: u149 :: u150 :: u151 :: u152 :: u153 :: u154 :: u155 :: u156 :: u157 :: u158 :: u159 :: u160 :: u161 :: u162 :: c163 :: c164 :: c165 :: c166 :: c167 :: c168 :: c169 :: c170 :: c171 :: c172 :: c173 :: c174 :: c175 :: c176 :: c177 :: c178 :: c179 :: c180 :: c181 :: c182 :: c183 :: c184 :: c185 :: c186 :: c187 :: c188 :: c189 :: c190 :: []).toArray, []⟩ ∧ Hid (∃ a' n' cap' B', x10 = .slice a' n' cap' ∧ fin.length = n' ∧ n' ≤ 1 ∧ Runs w'' B' (.slice a' n' cap') vs' fin) ∧ Hid (fin.flatten.Perm lss.flatten) ∧ Hid (Good fin) ∧ Hid (Below w.heap.size w w'')) → Q (.exit 8) a' w'') :
    Code.wp Try.prog (Code.loop (loopB 4)) Q ⟨(c0 :: c1 :: c2 :: c3 :: c4 :: c5 :: c6 :: c7 :: c8 :: c9 :: (.slice a n cap) :: c11 :: c12 :: c13 :: c14 :: u15 :: u16 :: c17 :: c18 :: c19 :: c20 :: c21 :: c22 :: c23 :: c24 :: c25 :: c26 :: c27 :: c28 :: c29 :: c30 :: c31 :: c32 :: c33 :: c34 :: c35 :: c36 :: c37 :: c38 :: c39 :: c40 :: c41 :: c42 :: c43 :: c44 :: c45 :: c46 :: c47 :: c48 :: c49 :: c50 :: c51 :: c52 :: c53 :: c54 :: c55 :: c56 :: c57 :: c58 :: c59 :: c60 :: c61 :: c62 :: c63 :: c64 :: c65 :: c66 :: c67 :: c68 :: c69 :: c70 :: c71 :: c72 :: c73 :: c74 :: c75 :: c76 :: c77 :: c78 :: c79 :: c80 :: c81 :: c82 :: c83 :: c84 :: c85 :: c86 :: c87 :: c88 :: c89 :: c90 :: c91 :: c92 :: c93 :: c94 :: c95 :: c96 :: c97 :: c98 :: c99 :: c100 :: c101 :: c102 :: c103 :: c104 :: c105 :: c106 :: c107 :: c108 :: c109 :: c110 :: c111 :: c112 :: c113 :: c114 :: c115 :: c116 :: c117 :: c118 :: c119 :: c120 :: c121 :: c122 :: u123 :: u124 :: u125 :: u126 :: u127 :: u128 :: u129 :: u130 :: u131 :: u132 :: u133 :: u134 :: u135 :: u136 :: u137 :: u138 :: u139 :: u140 :: u141 :: u142 :: u143 :: u144 :: u145 :: u146 :: u147 :: u148 :: u149 :: u150 :: u151 :: u152 :: u153 :: u154 :: u155 :: u156 :: u157 :: u158 :: u159 :: u160 :: u161 :: u162 :: c163 :: c164 :: c165 :: c166 :: c167 :: c168 :: c169 :: c170 :: c171 :: c172 :: c173 :: c174 :: c175 :: c176 :: c177 :: c178 :: c179 :: c180 :: c181 :: c182 :: c183 :: c184 :: c185 :: c186 :: c187 :: c188 :: c189 :: c190 :: []).toArray, []⟩ w := by
  obtain ⟨i0, hi0, hz0, hz1, hz2⟩ := info_parts Try.info30
  conv => arg 2; arg 1; whnf
  have HR : Hid (Runs w B (.slice a n cap) vs lss) := hR
  have HN : Hid (lss.length = n) := hn
  have HG : Hid (Good lss) := hg
  have HL : Hid (lss.flatten.length ≤ 1048576) := hl
  have HE : Hid _ := hexit
  clear hR hn hg hl hexit
  go_loopw [10, 15, 16] (fun x10 x15 x16 wr => ∃ (n1 cap1 B1 : Nat) (a1 : Option Addr) (vs1 : List Value) (ls1 : List (List Line)), x10 = .slice a1 n1 cap1 ∧ n1 ≤ 4096 ∧ Hid (ls1.length = n1) ∧ Hid (Runs wr B1 (.slice a1 n1 cap1) vs1 ls1) ∧ Hid (Good ls1) ∧ Hid (ls1.flatten.Perm lss.flatten) ∧ Hid (Below w.heap.size w wr)) (fun x10 _ _ _ => sliceLen x10)
  case atStart => exact ⟨n, cap, B, a, vs, lss, rfl, hn4, HN, HR, HG, .refl _, Below.refl _ _⟩
  case round =>
    obtain ⟨n1, cap1, B1, a1, vs1, ls1, rfl, hn1, HN1, HR1, HG1, HP1, HB1⟩ := hrel
    clear HR HN HG
    by_cases h1 : 1 < n1
    · obtain ⟨W0, rfl⟩ : ∃ W0, W0 = wr := ⟨_, rfl⟩
      go_wp2_with (refine wpList_make_own _ rfl _ _ 29 rfl W0.heap.size 30 i0 _ 1 Try.underlying29 hi0 hz0 hz1 .i64 .i64 _ ((n1 + 1) / 2) rfl rfl (by omega) (by rw [hz2]; omega) (by unfold maxLen; omega) (Nat.le_refl _) ?_; intro wm hom hgm; have HBm : Hid (Below W0.heap.size W0 wm) := ⟨hgm.os, hgm.tape, hgm.output, hgm.size, fun k hk => hgm.block k hk (by simp)⟩; have HRm : Hid (Runs wm W0.heap.size (.slice (some ⟨W0.heap.size, 0, none⟩) 0 ((n1 + 1) / 2)) [] []) := Runs.start hom; clear hom hgm)
      go_loopw [15, 16] (fun x15 x16 wq => ∃ (m2 i cap2 : Nat) (a2 : Option Addr) (vs2 : List Value) (nx : List (List Line)), x15 = .slice a2 m2 cap2 ∧ x16 = .int .i64 i ∧ Hid (i = 2 * m2) ∧ i ≤ n1 + 1 ∧ m2 ≤ 4096 ∧ Hid (nx.length = m2) ∧ Hid (Runs wq W0.heap.size (.slice a2 m2 cap2) vs2 nx) ∧ Hid (nx ++ mergeR (ls1.drop i) = mergeR ls1) ∧ Hid (Below W0.heap.size W0 wq)) (fun _ x16 _ => n1 + 1 - (intOf x16).toNat)
      case atStart => exact ⟨0, 0, _, _, [], [], rfl, rfl, rfl, Nat.zero_le _, Nat.zero_le _, rfl, HRm, rfl, HBm⟩
      case round =>
        obtain ⟨m2, i, cap2, a2, vs2, nx, rfl, rfl, HIM, hi, hm4, HNX, HRX, HMX, HBX⟩ := hrel
        clear HRm HBm
        have hsz : W0.heap.size ≤ wr.heap.size := HBX.out.size
        have HO : Hid (Runs wr B1 (.slice a1 n1 cap1) vs1 ls1) := HR1.out.below HBX.out
        have hown : wr.ownsRow W0.heap.size 30 1 (.slice a2 m2 cap2) m2 vs2 := by have := HRX.out.own; rw [HNX.out] at this; exact this
        have HOWN : Hid (wr.ownsRow W0.heap.size 30 1 (.slice a2 m2 cap2) m2 vs2) := hown
        clear hown
        by_cases hlt : i < n1
        · obtain ⟨g, ua, uc, rfl, hgl, hcell0, hrow0⟩ := HR1.out.at HN1.out hlt
          have hcell := (HBX.out.cell (p := ⟨g, i, none⟩) hgl).trans hcell0
          have hrow := owns_below hrow0 HBX.out
          clear hrow0
          have hil : i < ls1.length := by rw [HN1.out]; exact hlt
          obtain ⟨L, hL⟩ : ∃ L, ls1[i] = L := ⟨_, rfl⟩
          rw [hL] at hcell hrow hcell0
          have HLE : Hid (ls1[i] = L) := hL
          obtain ⟨nL, hnL⟩ : ∃ nL, L.length = nL := ⟨_, rfl⟩
          rw [hnL] at hcell hrow hcell0
          have HNL : Hid (L.length = nL) := hnL
          have HROW : Hid (wr.ownsRow 0 34 2 (.slice ua nL uc) nL (cellsL L)) := hrow
          have hi0' : (0 : Int) ≤ (i : Int) := Int.natCast_nonneg _
          have hi1' : (i : Int) < (n1 : Int) := by omega
          have HC0 : Hid (W0.cell? ⟨g, i, none⟩ = some (.slice ua nL uc)) := hcell0
          clear hrow hL hnL hcell0
          by_cases hlt2 : i + 1 < n1
          · obtain ⟨g2, ub, uc2, hg2, _, hcell3, hrow3⟩ := HR1.out.at HN1.out hlt2
            cases hg2
            have hcell2 := (HBX.out.cell (p := ⟨g, i + 1, none⟩) hgl).trans hcell3
            have hrow2 := owns_below hrow3 HBX.out
            clear hrow3
            have hil2 : i + 1 < ls1.length := by rw [HN1.out]; exact hlt2
            obtain ⟨M, hM⟩ : ∃ M, ls1[i + 1] = M := ⟨_, rfl⟩
            rw [hM] at hcell2 hrow2 hcell3
            have HME : Hid (ls1[i + 1] = M) := hM
            obtain ⟨nM, hnM⟩ : ∃ nM, M.length = nM := ⟨_, rfl⟩
            rw [hnM] at hcell2 hrow2 hcell3
            have HNM : Hid (M.length = nM) := hnM
            have HROW2 : Hid (wr.ownsRow 0 34 2 (.slice ub nM uc2) nM (cellsL M)) := hrow2
            have hi2' : (i : Int) + 1 < (n1 : Int) := by omega
            have hi3' : (0 : Int) ≤ (i : Int) + 1 := by omega
            have hwr : IntKind.i64.wrap ((i : Int) + 1) = (i : Int) + 1 := by rw [IntKind.wrap_i64]; omega
            have hsum : nL + nM ≤ 2097152 := by
              have h1 := flat_two (lss := ls1) (i := i) hil2
              rw [HLE.out, HME.out, HNL.out, HNM.out, HP1.out.length_eq] at h1
              have := HL.out
              omega
            have HC3 : Hid (W0.cell? ⟨g, i + 1, none⟩ = some (.slice ub nM uc2)) := hcell3
            clear hrow2 hM hnM hcell3
            go_wp2_with fail
            go_region_held3 (fun w' => w'.cell? ⟨g, i, none⟩ = some (.slice ua nL uc) ∧ w'.cell? ⟨g, i + 1, none⟩ = some (.slice ub nM uc2)) (first | exact ⟨by assumption, by assumption⟩ | exact ⟨hk3 _, hk4 _⟩ | go_keep)
              (first
              | (go_at_call 9; refine (jmerge_any 0 0 nL nM uc uc2 ua ub L M _ HNL.out HNM.out ?_ ?_ hsum).mono ?_; exact HROW.out; exact HROW2.out; rintro e w' ⟨v, rfl, hov, hbv0⟩; have hbv : Below wr.heap.size wr w' := ((Below.refl wr.heap.size wr).drew).trans hbv0; obtain ⟨va, vc, rfl⟩ := ownsRow_slice hov; have HOV : Hid (w'.ownsRow wr.heap.size 34 2 (.slice va (mergeL L M).length vc) (mergeL L M).length (cellsL (mergeL L M))) := hov; have HBV : Hid (Below wr.heap.size wr w') := hbv; have HOW2 : Hid (w'.ownsRow W0.heap.size 30 1 (.slice a2 m2 cap2) m2 vs2) := owns_below HOWN.out hbv; have hsz2 : W0.heap.size ≤ w'.heap.size := Nat.le_trans hsz hbv.size; have HBW : Hid (Below W0.heap.size W0 w') := HBX.out.trans (hbv.mono hsz); have hk1 := (HBW.out.cell (p := ⟨g, i, none⟩) hgl).trans HC0.out; have hk2 := (HBW.out.cell (p := ⟨g, i + 1, none⟩) hgl).trans HC3.out; have hk3 : ∀ o, (w'.alloc o).cell? ⟨g, i, none⟩ = some (.slice ua nL uc) := fun o => ((HBW.out.alloc hsz2 o).cell (p := ⟨g, i, none⟩) hgl).trans HC0.out; have hk4 : ∀ o, (w'.alloc o).cell? ⟨g, i + 1, none⟩ = some (.slice ub nM uc2) := fun o => ((HBW.out.alloc hsz2 o).cell (p := ⟨g, i + 1, none⟩) hgl).trans HC3.out; clear hov hbv hbv0)
              | (refine step_append_lies _ (by rfl) _ _ 29 (by rfl) W0.heap.size 30 i0 _ 1 24 Try.underlying29 hi0 hz0 hz1 hz2 rfl (by decide) (.slice a2 m2 cap2) m2 vs2 (by rfl) (HOW2.out.alloc _) ⟨w'.heap.size, 0, none⟩ 1 1 [.slice va (mergeL L M).length vc] (by rfl) (by rfl) (World.news_of_block (cs := #[.slice va (mergeL L M).length vc]) (t := 30) (fr := (0, 0)) (heap_alloc_new w' _)) (by simp [Value.oneCell']) (by omega) (by unfold maxLen; omega) (by omega) (by simp; omega) (w'.heap.size + 1) (by simp) ?_; intro g' cap' w3 ho3 hg3 hat3 hlt3; have hbel : Below W0.heap.size W0 w3 := below_push HBW.out (Nat.le_refl _) hsz2 HOW2.out hg3; have hk5 := (hbel.cell (p := ⟨g, i, none⟩) hgl).trans HC0.out; have hk6 := (hbel.cell (p := ⟨g, i + 1, none⟩) hgl).trans HC3.out)
              | fail)
            have hpush : Runs w3 W0.heap.size (.slice (some ⟨g', 0, none⟩) (m2 + 1) cap') (vs2 ++ [.slice va (mergeL L M).length vc]) (nx ++ [mergeL L M]) := (HRX.out.below HBV.out).push (HOV.out.mono (Nat.zero_le _)) (by rw [HNX.out]; exact ho3) hg3
            have HPU : Hid _ := hpush
            have hst : (nx ++ [mergeL L M]) ++ mergeR (ls1.drop (i + 2)) = mergeR ls1 := by
              rw [← HMX.out, mergeR_two (lss := ls1) (i := i) hil2, HLE.out, HME.out, List.append_assoc]; rfl
            have HST : Hid _ := hst
            have HBL : Hid (Below W0.heap.size W0 w3) := hbel
            clear hpush hst hbel hk1 hk2 hk3 hk4 hk5 hk6 ho3 hg3 hat3 hlt3 HOV hcell hcell2
            go_wp2_with fail
            go_roundw
            case rel => exact ⟨m2 + 1, i + 2, cap', _, _, _, rfl, by go_num, by have := HIM.out; show i + 2 = 2 * (m2 + 1); omega, by omega, by have := HIM.out; omega, by rw [List.length_append, HNX.out]; rfl, HPU, HST, HBL⟩
            case measure => simp [intOf]; omega
          · go_wp2_with (at_builtin; refine wpList_append_lies _ rfl _ _ 29 rfl W0.heap.size 30 i0 _ 1 24 Try.underlying29 hi0 hz0 hz1 hz2 rfl (by decide) _ _ _ rfl (HOWN.out.alloc _) ⟨wr.heap.size, 0, none⟩ 1 1 [.slice ua nL uc] rfl rfl (World.news_of_block (cs := #[.slice ua nL uc]) (t := 30) (fr := (0, 0)) (heap_alloc_new wr _)) (by simp [Value.oneCell']) (by omega) (by unfold maxLen; omega) (by omega) (by simp; omega) (wr.heap.size + 1) (by simp) ?_; intro g' cap' w3 ho3 hg3 hat3 hlt3)
            have hpush : Runs w3 W0.heap.size (.slice (some ⟨g', 0, none⟩) (m2 + 1) cap') (vs2 ++ [.slice ua nL uc]) (nx ++ [L]) := HRX.out.push (by rw [HNL.out]; exact HROW.out) (by rw [HNX.out]; exact ho3) hg3
            have hbel : Below W0.heap.size W0 w3 := below_push HBX.out (Nat.le_refl _) hsz HOWN.out hg3
            have hst : (nx ++ [L]) ++ mergeR (ls1.drop (i + 2)) = mergeR ls1 := by
              rw [← HMX.out, mergeR_one (lss := ls1) (i := i) (by rw [HN1.out]; omega), HLE.out, mergeR_nil (by rw [HN1.out]; omega), List.append_nil]
            go_roundw
            case rel => exact ⟨m2 + 1, i + 2, cap', _, _, _, rfl, by go_num, by have := HIM.out; show i + 2 = 2 * (m2 + 1); omega, by omega, by have := HIM.out; omega, by rw [List.length_append, HNX.out]; rfl, hpush, hst, hbel⟩
            case measure => simp [intOf]; omega
        · have hfin : nx = mergeR ls1 := by
            have h := HMX.out
            rw [mergeR_nil (by rw [HN1.out]; omega), List.append_nil] at h
            exact h
          have HFIN : Hid (nx = mergeR ls1) := hfin
          have HM2 : Hid (m2 = (n1 + 1) / 2) := by have h := HNX.out; rw [hfin, mergeR_length, HN1.out] at h; exact h.symm
          have hm2 := HM2.out
          clear hfin
          go_wp2_with fail
          go_roundw
          case rel => exact ⟨m2, cap2, W0.heap.size, a2, vs2, nx, rfl, by omega, HNX, HRX, by rw [HFIN.out]; exact HG1.out.round, by rw [HFIN.out]; exact (mergeR_flat ls1).trans HP1.out, HB1.out.trans (HBX.out.mono HB1.out.size)⟩
          case measure => simp [sliceLen]; omega
    · go_wp2_with fail
      refine HE.out _ _ ⟨_, _, _, _, _, _, _, _, _, _, _, _, _, _, _, _, _, _, _, _, _, _, _, _, _, _, _, _, _, _, _, _, _, _, _, _, _, _, _, _, _, _, _, vs1, ls1, rfl, ⟨a1, n1, cap1, B1, rfl, HN1.out, by omega, HR1.out⟩, HP1, HG1, HB1⟩
end Go.Proofs.Qxb6612439a
