/-
  TakesEachLine (3): the kept lines of each configuration (loop 3).
-/
import Derived.Test.Qxb6612439aLoopE
import Derived.Test.Qxb6612439aMap
namespace Go.Proofs.Qxb6612439a
open Go.RowKit Go.Shelf

/-- The lines of the first t that are kept. -/
def keptTo (Fn : List UInt8 → Int) (k : Nat) (ls : List Line) (t : Nat) : List Line := (ls.take t).filter fun p => Fn (bytesOf p.1) == (k : Int)
theorem keptTo_succ (Fn : List UInt8 → Int) (k : Nat) (ls : List Line) (t : Nat) (h : t < ls.length) : keptTo Fn k ls (t + 1) = keptTo Fn k ls t ++ if Fn (bytesOf ls[t].1) == (k : Int) then [ls[t]] else [] := by
  unfold keptTo
  rw [List.take_succ_eq_append_getElem h, List.filter_append]
  by_cases e : (Fn (bytesOf ls[t].1) == (k : Int)) = true <;> simp [e]
theorem keptTo_len (Fn : List UInt8 → Int) (k : Nat) (ls : List Line) (t : Nat) (h : t ≤ ls.length) : (keptTo Fn k ls t).length ≤ t := by
  unfold keptTo
  refine Nat.le_trans (List.length_filter_le _ _) ?_
  rw [List.length_take]; omega

theorem split_size {c : ByteArray} {s : Nat} {ls : List Line} (h : Split (bytesOf c) s ls) (hc : c.size ≤ 1048576) {p : Line} (hp : p ∈ ls) : p.1.size ≤ maxLen := by
  have h1 : (bytesOf p.2) ∈ splitL (bytesOf c) := by rw [← h.1]; exact List.mem_append_left _ (List.mem_map_of_mem hp)
  have h2 : (bytesOf p.2).length ≤ (splitL (bytesOf c)).flatten.length := (List.sublist_flatten_of_mem h1).length_le
  rw [splitL_join, bytesOf_size, bytesOf_size] at h2
  have h3 := congrArg List.length (h.2.2 p hp)
  have h4 : (nameL (bytesOf p.2)).length ≤ (bytesOf p.2).length := (List.takeWhile_sublist _).length_le
  rw [bytesOf_size] at h3 h4
  unfold maxLen
  omega

set_option maxRecDepth 1000000 in
set_option maxHeartbeats 4000000 in
theorem loop3 (c1 c2 c3 c5 c6 c7 c9 c15 c16 c17 c18 c19 c20 c21 c22 c23 c24 c25 c26 c27 c28 c29 c30 c31 c32 c33 c34 c35 c36 c37 c38 c39 c40 c41 c42 c43 c44 c45 c46 c47 c48 c49 c50 c51 c52 c53 c54 c55 c56 c57 c58 c59 c60 c61 c62 c63 c64 c65 c66 c67 c68 c69 c70 c71 c72 c73 c74 c75 c76 c77 c78 c79 c80 c81 c82 c123 c124 c125 c126 c127 c128 c129 c130 c131 c132 c133 c134 c135 c136 c137 c138 c139 c140 c141 c142 c143 c144 c145 c146 c147 c148 c149 c150 c151 c152 c153 c154 c155 c156 c157 c158 c159 c160 c161 c162 c163 c164 c165 c166 c167 c168 c169 c170 c171 c172 c173 c174 c175 c176 c177 c178 c179 c180 c181 c182 c183 c184 c185 c186 c187 c188 c189 c190 u4 u12 u13 u14 u83 u84 u85 u86 u87 u88 u89 u90 u91 u92 u93 u94 u95 u96 u97 u98 u99 u100 u101 u102 u103 u104 u105 u106 u107 u108 u109 u110 u111 u112 u113 u114 u115 u116 u117 u118 u119 u120 u121 u122 : Value) (a a1 : Option Addr) (n cap cap1 mb nP B1 : Nat) (D : DataW Unit) (ss : List ByteArray) (w : World) (Q : Exit → Act → World → Prop)
    (hB : B1 ≤ w.heap.size) (hrow : RowS w B1 (.slice a n cap) ss) (hn : ss.length = n) (hn4 : n ≤ 4096) (hsum : sumS 0 ss ≤ 1048576) (hm : OwnM w mb nP D) (hmb : mb < B1) (hR : Runs w B1 (.slice a1 0 cap1) [] [])
    (hexit : ∀ a' w'', (∃ (u4 u12 u13 u14 u83 u84 u85 u86 u87 u88 u89 u90 u91 u92 u93 u94 u95 u96 u97 u98 u99 u100 u101 u102 u103 u104 u105 u106 u107 u108 u109 u110 u111 u112 u113 u114 u115 u116 u117 u118 u119 u120 u121 u122 x10 x11 : Value) (lss : List (List Line)), a' = ⟨((.slice a n cap) :: c1 :: c2 :: c3 :: u4 :: c5 :: c6 :: c7 :: (.map (some mb)) :: c9 :: x10 :: x11 :: u12 :: u13 :: u14 :: c15 :: c16 :: c17 :: c18 :: c19 :: c20 :: c21 :: c22 :: c23 :: c24 :: c25 :: c26 :: c27 :: c28 :: c29 :: c30 :: c31 :: c32 :: c33 :: c34 :: c35 :: c36 :: c37 :: c38 :: c39 :: c40 :: c41 :: c42 :: c43 :: c44 :: c45 :: c46 :: c47 :: c48 :: c49 :: c50 :: c51 :: c52 :: c53 :: c54 :: c55 :: c56 :: c57 :: c58 :: c59 :: c60 :: c61 :: c62 :: c63 :: c64 :: c65 :: c66 :: c67 :: c68 :: c69 :: c70 :: c71 :: c72 :: c73 :: c74 :: c75 :: c76 :: c77 :: c78 :: c79 :: c80 :: c81 :: c82 :: u83 :: u84 :: u85 :: u86 :: u87 :: u88 :: u89 :: u90 :: u91 :: u92 :: u93 :: u94 :: u95 :: u96 :: u97 :: u98 :: u99 :: u100 :: u101 :: u102 :: u103 :: u104 :: u105 :: u106 :: u107 :: u108 :: u109 :: u110 :: u111 :: u112 :: u113 :: u114 :: u115 :: u116 :: u117 :: u118 :: u119 :: u120 :: u121 :: u122 :: c123 :: c124 :: c125 :: c126 :: c127 :: c128 :: c129 :: c130 :: c131 :: c132 :: c133 :: c134 :: c135 :: c136 :: c137 :: c138 :: c139 :: c140 :: c141 :: c142 :: c143 :: c144 :: c145 :: c146 :: c147 :: c148 :: c149 :: c150 :: c151 :: c152 :: c153 :: c154 :: c155 :: c156 :: c157 :: c158 :: c159 :: c160 :: c161 :: c162 :: c163 :: c164 :: c165 :: c166 :: c167 :: c168 :: c169 :: c170 :: c171 :: c172 :: c173 :: c174 :: c175 :: c176 :: c177 :: c178 :: c179 :: c180 :: c181 :: c182 :: c183 :: c184 :: c185 :: c186 :: c187 :: c188 :: c189 :: c190 :: []).toArray, []⟩ ∧ Hid (∃ a2 cap2 vs, x10 = .slice a2 n cap2 ∧ lss.length = n ∧ Runs w'' B1 (.slice a2 n cap2) vs lss) ∧ Hid (KeptAll (fnOf D) 0 ss lss) ∧ Hid (Below B1 w w'')) → Q (.exit 4) a' w'')
    (hret : ∀ a' w'', (∃ (u12 u13 u14 u83 u84 u85 u86 u87 u88 u89 u90 u91 u92 u93 u94 u95 u96 u97 u98 u99 u100 u101 u102 u103 u104 u105 u106 u107 u108 u109 u110 u111 u112 u113 u114 u115 u116 u117 u118 u119 u120 u121 u122 x10 x11 : Value), a' = ⟨((.slice a n cap) :: c1 :: c2 :: c3 :: (.bool true) :: c5 :: c6 :: c7 :: (.map (some mb)) :: c9 :: x10 :: x11 :: u12 :: u13 :: u14 :: c15 :: c16 :: c17 :: c18 :: c19 :: c20 :: c21 :: c22 :: c23 :: c24 :: c25 :: c26 :: c27 :: c28 :: c29 :: c30 :: c31 :: c32 :: c33 :: c34 :: c35 :: c36 :: c37 :: c38 :: c39 :: c40 :: c41 :: c42 :: c43 :: c44 :: c45 :: c46 :: c47 :: c48 :: c49 :: c50 :: c51 :: c52 :: c53 :: c54 :: c55 :: c56 :: c57 :: c58 :: c59 :: c60 :: c61 :: c62 :: c63 :: c64 :: c65 :: c66 :: c67 :: c68 :: c69 :: c70 :: c71 :: c72 :: c73 :: c74 :: c75 :: c76 :: c77 :: c78 :: c79 :: c80 :: c81 :: c82 :: u83 :: u84 :: u85 :: u86 :: u87 :: u88 :: u89 :: u90 :: u91 :: u92 :: u93 :: u94 :: u95 :: u96 :: u97 :: u98 :: u99 :: u100 :: u101 :: u102 :: u103 :: u104 :: u105 :: u106 :: u107 :: u108 :: u109 :: u110 :: u111 :: u112 :: u113 :: u114 :: u115 :: u116 :: u117 :: u118 :: u119 :: u120 :: u121 :: u122 :: c123 :: c124 :: c125 :: c126 :: c127 :: c128 :: c129 :: c130 :: c131 :: c132 :: c133 :: c134 :: c135 :: c136 :: c137 :: c138 :: c139 :: c140 :: c141 :: c142 :: c143 :: c144 :: c145 :: c146 :: c147 :: c148 :: c149 :: c150 :: c151 :: c152 :: c153 :: c154 :: c155 :: c156 :: c157 :: c158 :: c159 :: c160 :: c161 :: c162 :: c163 :: c164 :: c165 :: c166 :: c167 :: c168 :: c169 :: c170 :: c171 :: c172 :: c173 :: c174 :: c175 :: c176 :: c177 :: c178 :: c179 :: c180 :: c181 :: c182 :: c183 :: c184 :: c185 :: c186 :: c187 :: c188 :: c189 :: c190 :: []).toArray, []⟩ ∧ Hid (Below B1 w w'')) → Q .ret a' w'') :
    Code.wp Try.prog (Code.loop (loopB 2)) Q ⟨((.slice a n cap) :: c1 :: c2 :: c3 :: u4 :: c5 :: c6 :: c7 :: (.map (some mb)) :: c9 :: (.slice a1 0 cap1) :: (.int .i64 0) :: u12 :: u13 :: u14 :: c15 :: c16 :: c17 :: c18 :: c19 :: c20 :: c21 :: c22 :: c23 :: c24 :: c25 :: c26 :: c27 :: c28 :: c29 :: c30 :: c31 :: c32 :: c33 :: c34 :: c35 :: c36 :: c37 :: c38 :: c39 :: c40 :: c41 :: c42 :: c43 :: c44 :: c45 :: c46 :: c47 :: c48 :: c49 :: c50 :: c51 :: c52 :: c53 :: c54 :: c55 :: c56 :: c57 :: c58 :: c59 :: c60 :: c61 :: c62 :: c63 :: c64 :: c65 :: c66 :: c67 :: c68 :: c69 :: c70 :: c71 :: c72 :: c73 :: c74 :: c75 :: c76 :: c77 :: c78 :: c79 :: c80 :: c81 :: c82 :: u83 :: u84 :: u85 :: u86 :: u87 :: u88 :: u89 :: u90 :: u91 :: u92 :: u93 :: u94 :: u95 :: u96 :: u97 :: u98 :: u99 :: u100 :: u101 :: u102 :: u103 :: u104 :: u105 :: u106 :: u107 :: u108 :: u109 :: u110 :: u111 :: u112 :: u113 :: u114 :: u115 :: u116 :: u117 :: u118 :: u119 :: u120 :: u121 :: u122 :: c123 :: c124 :: c125 :: c126 :: c127 :: c128 :: c129 :: c130 :: c131 :: c132 :: c133 :: c134 :: c135 :: c136 :: c137 :: c138 :: c139 :: c140 :: c141 :: c142 :: c143 :: c144 :: c145 :: c146 :: c147 :: c148 :: c149 :: c150 :: c151 :: c152 :: c153 :: c154 :: c155 :: c156 :: c157 :: c158 :: c159 :: c160 :: c161 :: c162 :: c163 :: c164 :: c165 :: c166 :: c167 :: c168 :: c169 :: c170 :: c171 :: c172 :: c173 :: c174 :: c175 :: c176 :: c177 :: c178 :: c179 :: c180 :: c181 :: c182 :: c183 :: c184 :: c185 :: c186 :: c187 :: c188 :: c189 :: c190 :: []).toArray, []⟩ w := by
  obtain ⟨i0, hi0, hz0, hz1, hz2⟩ := info_parts Try.info30
  obtain ⟨j0, hj0, hy0, hy1, hy2⟩ := info_parts Try.info34
  conv => arg 2; arg 1; whnf
  have HROW : Hid (RowS w B1 (.slice a n cap) ss) := hrow
  have HN : Hid (ss.length = n) := hn
  have HS : Hid (sumS 0 ss ≤ 1048576) := hsum
  have HM : Hid (OwnM w mb nP D) := hm
  have HR : Hid (Runs w B1 (.slice a1 0 cap1) [] []) := hR
  have HE : Hid _ := hexit
  have HT : Hid _ := hret
  have hfnD : ∃ Fn, fnOf D = Fn := ⟨_, rfl⟩
  clear hrow hn hsum hm hR hexit hret
  go_loopw [4, 10, 11] (fun x4 x10 x11 wr => ∃ (k cap2 : Nat) (a2 : Option Addr) (vs : List Value) (lss : List (List Line)), x11 = .int .i64 k ∧ k ≤ n ∧ x10 = .slice a2 k cap2 ∧ Hid (lss.length = k) ∧ Hid (Runs wr B1 (.slice a2 k cap2) vs lss) ∧ Hid (KeptAll (fnOf D) 0 (ss.take k) lss) ∧ Hid (Below B1 w wr)) (fun _ _ x11 _ => n - (intOf x11).toNat)
  case atStart => exact ⟨0, cap1, a1, [], [], rfl, Nat.zero_le _, rfl, rfl, HR, trivial, Below.refl _ _⟩
  case round =>
    obtain ⟨k, cap2, a2, vs, lss, rfl, hk, rfl, HL, HRX, HK, HBX⟩ := hrel
    clear HR
    obtain ⟨W0, rfl⟩ : ∃ W0, W0 = wr := ⟨_, rfl⟩
    by_cases hlt : k < n
    · obtain ⟨b, off, rfl, hbB, hcell0⟩ := HROW.out.at HN.out hlt
      obtain ⟨c, hc⟩ : ∃ c, ss[k]?.getD ByteArray.empty = c := ⟨_, rfl⟩
      have hcell : W0.cell? ⟨b, off + k, none⟩ = some (.string c) := by rw [← hc]; exact (HBX.out.cell (p := ⟨b, off + k, none⟩) hbB).trans hcell0
      have HSC : Hid (ss[k]?.getD ByteArray.empty = c) := hc
      have hcs : c.size ≤ 1048576 := by
        rw [← hc]
        have h1 := sumS_take 0 ss k (by rw [HN.out]; exact hlt)
        have h2 := sumS_le 0 ss (k + 1)
        have := HS.out
        omega
      clear hc hcell0
      have hB0 : B1 ≤ W0.heap.size := Nat.le_trans hB HBX.out.size
      go_wp2_with fail
      refine Calls.mono (jsplit_any c W0 hcs) ?_
      rintro e w2 ⟨v, ls, rfl, hown, hsp, hb2⟩
      obtain ⟨va, vc, rfl⟩ := ownsRow_slice hown
      have hll : ls.length ≤ 1048576 := Nat.le_trans hsp.2.1 hcs
      obtain ⟨nl, hnl⟩ : ∃ nl, ls.length = nl := ⟨_, rfl⟩
      have HNL : Hid (ls.length = nl) := hnl
      rw [hnl] at hown hll ⊢
      have HO : Hid (w2.ownsRow W0.heap.size 34 2 (.slice va nl vc) nl (cellsL ls)) := hown
      have HSP : Hid (Split (bytesOf c) c.size ls) := hsp
      have HB2 : Hid (Below W0.heap.size W0 w2) := hb2
      clear hown hsp hb2 hnl
      go_wp2_with fail
      refine Calls.mono (jstrict_any W0.heap.size nl vc va ls w2 HNL.out HO.out hll) ?_
      rintro e w3 ⟨hres, q, hq⟩
      have hb3 : Below W0.heap.size W0 w3 := by rw [← hq]; exact HB2.out.grown (grown_drewN w2 q) HB2.out.size (fun k e => by cases e)
      have HB3 : Hid (Below W0.heap.size W0 w3) := hb3
      have HO3 : Hid (w3.ownsRow W0.heap.size 34 2 (.slice va nl vc) nl (cellsL ls)) := by rw [← hq]; exact HO.out.kept (grown_drewN w2 q) (by cases (Value.slice va nl vc).ownBlock with | none => exact .inl rfl | some k => exact .inr (by simp))
      clear hq hb3 HB2 HO
      rcases hres with rfl | ⟨rfl, hris⟩
      · go_wp2_with fail
        refine HT.out _ _ ⟨_, _, _, _, _, _, _, _, _, _, _, _, _, _, _, _, _, _, _, _, _, _, _, _, _, _, _, _, _, _, _, _, _, _, _, _, _, _, _, _, _, _, _, _, _, rfl, HBX.out.trans (HB3.out.mono hB0)⟩
      · have HRI : Hid (Rises ls) := hris
        clear hris
        go_wp2_with fail
        obtain ⟨W3, rfl⟩ : ∃ W3, W3 = w3 := ⟨_, rfl⟩
        go_loopw [13, 14] (fun x13 x14 wq => ∃ (t kn kc : Nat) (ka : Option Addr) (kl : List Line), x13 = .slice ka kn kc ∧ x14 = .int .i64 t ∧ t ≤ nl ∧ kn ≤ t ∧ Hid (kl.length = kn) ∧ Hid (kl = keptTo (fnOf D) k ls t) ∧ Hid (wq.ownsRow W3.heap.size 34 2 (.slice ka kn kc) kn (cellsL kl)) ∧ Hid (Below W3.heap.size W3 wq)) (fun _ x14 _ => nl - (intOf x14).toNat)
        case atStart => exact ⟨0, 0, 0, none, [], rfl, rfl, Nat.zero_le _, Nat.le_refl _, rfl, rfl, World.ownsRow_nil _ _ _ _, Below.refl _ _⟩
        case round =>
          obtain ⟨t, kn, kc, ka, kl, rfl, rfl, ht, hkn, HKN, HKL, HKO, HKB⟩ := hrel
          have hsz : W3.heap.size ≤ wr.heap.size := HKB.out.size
          by_cases htl : t < nl
          · obtain ⟨g, rfl, hg, r0, r1⟩ := row_line HO3.out HNL.out htl
            have htls : t < ls.length := by rw [HNL.out]; exact htl
            have c0 : wr.cell? ⟨g, t * 2, none⟩ = some (.string ls[t].1) := (HKB.out.cell (p := ⟨g, t * 2, none⟩) hg).trans r0
            have c1 : wr.cell? ⟨g, t * 2 + 1, none⟩ = some (.string ls[t].2) := (HKB.out.cell (p := ⟨g, t * 2 + 1, none⟩) hg).trans r1
            obtain ⟨x1, hx1⟩ : ∃ x1, ls[t].1 = x1 := ⟨_, rfl⟩
            obtain ⟨x2, hx2⟩ : ∃ x2, ls[t].2 = x2 := ⟨_, rfl⟩
            rw [hx1] at c0
            rw [hx2] at c1
            have HX : Hid (ls[t] = (x1, x2)) := Prod.ext hx1 hx2
            clear r0 r1 hx1 hx2
            have hxsz : x1.size ≤ maxLen := split_size HSP.out hcs (p := (x1, x2)) (by rw [← HX.out]; exact List.getElem_mem _)
            have hmw : OwnM wr mb nP D := ((HM.out.below HBX.out hmb).below (HB3.out.mono hB0) hmb).below (HKB.out.mono (Nat.le_trans hB0 HB3.out.size)) hmb
            have hrun := hmw.look hxsz
            obtain ⟨cc, hcc⟩ : ∃ cc, fnOf D (bytesOf x1) = cc := ⟨_, rfl⟩
            rw [hcc] at hrun
            have HCC : Hid (fnOf D (bytesOf x1) = cc) := hcc
            clear hmw hcc
            by_cases hck : cc = k
            · subst hck
              have hst : kl ++ [(x1, x2)] = keptTo (fnOf D) k ls (t + 1) := by
                rw [keptTo_succ (fnOf D) k ls t htls, HX.out, HKL.out]
                simp [HCC.out]
              have HST : Hid (kl ++ [(x1, x2)] = keptTo (fnOf D) k ls (t + 1)) := hst
              clear hst
              go_wp2_with (at_builtin; refine wpList_append_lies _ rfl _ _ 30 rfl W3.heap.size 34 j0 _ 2 32 Try.underlying30 hj0 hy0 hy1 hy2 rfl (by decide) _ _ _ rfl (HKO.out.alloc _) ⟨wr.heap.size, 0, none⟩ 1 1 [.string x1, .string x2] rfl rfl (World.news_of_block (cs := #[.string x1, .string x2]) (t := 34) (fr := (0, 0)) (heap_alloc_new wr _)) (by simp [Value.oneCell']) (by omega) (by unfold maxLen; omega) (by omega) (by simp; omega) (wr.heap.size + 1) (by simp) ?_; intro g' cap' w5 ho5 hg5 hat5 hlt5)
              obtain ⟨p1, p2⟩ := app_row HKN.out HKO.out HKB.out (Below.refl _ wr) ho5 hg5
              go_roundw
              case rel => exact ⟨t + 1, kn + 1, cap', some ⟨g', 0, none⟩, _, rfl, by go_num, by omega, by omega, by rw [List.length_append, HKN.out]; rfl, HST, by rw [List.length_append, HKN.out] at p1; exact p1, p2⟩
              case measure => simp [intOf]; omega
            · have hce : (cc == (k : Int)) = false := by simpa using hck
              have hst0 : kl = keptTo (fnOf D) k ls (t + 1) := by
                rw [keptTo_succ (fnOf D) k ls t htls, HX.out, HCC.out, hce, ← HKL.out]
                simp
              have HST : Hid (kl = keptTo (fnOf D) k ls (t + 1)) := hst0
              clear hst0
              go_wp2_with fail
              go_roundw
              case rel => exact ⟨t + 1, kn, kc, ka, kl, rfl, by go_num, by omega, by omega, HKN, HST, HKO, HKB⟩
              case measure => simp [intOf]; omega
          · obtain rfl : t = nl := by omega
            have HKA : Hid (KeptAt (fnOf D) k c kl) := by
              rw [HKL.out, keptTo, ← HNL.out, List.take_length]
              exact kept_at HSP.out HRI.out
            have hbw : Below W0.heap.size W0 wr := HB3.out.trans (HKB.out.mono HB3.out.size)
            have HRW : Hid (Runs wr B1 (.slice a2 k cap2) vs lss) := HRX.out.below hbw
            have HBW : Hid (Below B1 w wr) := HBX.out.trans (hbw.mono hB0)
            have hown : wr.ownsRow B1 30 1 (.slice a2 k cap2) k vs := by have := HRW.out.own; rw [HL.out] at this; exact this
            have HOW : Hid (wr.ownsRow B1 30 1 (.slice a2 k cap2) k vs) := hown
            have hszB : B1 ≤ wr.heap.size := Nat.le_trans hB HBW.out.size
            clear hbw hown
            go_wp2_with (at_builtin; refine wpList_append_lies _ rfl _ _ 29 rfl B1 30 i0 _ 1 24 Try.underlying29 hi0 hz0 hz1 hz2 rfl (by decide) _ _ _ rfl (HOW.out.alloc _) ⟨wr.heap.size, 0, none⟩ 1 1 [.slice ka kn kc] rfl rfl (World.news_of_block (cs := #[.slice ka kn kc]) (t := 30) (fr := (0, 0)) (heap_alloc_new wr _)) (by simp [Value.oneCell']) (by omega) (by unfold maxLen; omega) (by omega) (by simp; omega) (wr.heap.size + 1) (by simp) ?_; intro g' cap' w5 ho5 hg5 hat5 hlt5)
            have hpush : Runs w5 B1 (.slice (some ⟨g', 0, none⟩) (k + 1) cap') (vs ++ [.slice ka kn kc]) (lss ++ [kl]) := HRW.out.push (by rw [HKN.out]; exact HKO.out.mono (Nat.zero_le _)) (by rw [HL.out]; exact ho5) hg5
            have hbel : Below B1 w w5 := below_push HBW.out (Nat.le_refl _) hszB HOW.out hg5
            have hka : KeptAll (fnOf D) 0 (ss.take (k + 1)) (lss ++ [kl]) := by
              rw [List.take_succ_eq_append_getElem (by rw [HN.out]; exact hlt)]
              refine HK.out.snoc ?_
              have e : (0 + (ss.take k).length) = k := by rw [List.length_take, HN.out]; omega
              rw [e]
              have e2 : ss[k]'(by rw [HN.out]; exact hlt) = c := by rw [← HSC.out, List.getElem?_eq_getElem (by rw [HN.out]; exact hlt)]; rfl
              rw [e2]
              exact HKA.out
            go_roundw
            case rel => exact ⟨k + 1, cap', _, _, _, by go_num, by omega, rfl, by rw [List.length_append, HL.out]; rfl, hpush, hka, hbel⟩
            case measure => simp [intOf]; omega
    · obtain rfl : k = n := by omega
      have HK2 : Hid (KeptAll (fnOf D) 0 ss lss) := by have h := HK.out; rw [← HN.out, List.take_length] at h; exact h
      go_wp2_with fail
      refine HE.out _ _ ⟨_, _, _, _, _, _, _, _, _, _, _, _, _, _, _, _, _, _, _, _, _, _, _, _, _, _, _, _, _, _, _, _, _, _, _, _, _, _, _, _, _, _, _, _, _, _, lss, rfl, ⟨a2, cap2, vs, rfl, HL.out, HRX.out⟩, HK2, HBX⟩
end Go.Proofs.Qxb6612439a
