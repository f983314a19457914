/-
  The law FnReadQuotedLineBreakJoinsNextLine (4), at a slice that is not nil.
-/
import Derived.Test.Qxb6613468aDoorLawB
namespace Go.Proofs.Qxb6613468aDoor
open Go.RowKit

set_option maxRecDepth 1000000 in
set_option maxHeartbeats 8000000 in
theorem joins_some (ad : Addr) (n cap : Nat) (la : List UInt8) (b c : ByteArray) (st : Int) (a0 a1 a2 : Addr) (w : World) (hS : Sen w w.heap.size a0 a1 a2) (hn : la.length = n) (hr : ∀ i (h : i < la.length), w.cell? (ad.add i) = some (.int .u8 (la[i].toNat : Int))) (hmax : n ≤ maxLen) (hb : b.size ≤ maxLen) (hc : c.size ≤ maxLen) :
    Calls Tryd.prog 4 #[(.slice (some ad) n cap), .string b, .string c, .int .i64 st] w fun e w' => e = .returned (.bool true) ∧ Below w.heap.size w w' := by
  have HZ : Hid _ := zb13_any (some ad) n cap b c st w hmax hb hc
  have HS : Hid (Sen w w.heap.size a0 a1 a2) := hS
  obtain ⟨i5, hi5, hz5, hs5, hb5⟩ := info_parts Tryd.info5
  unfold maxLen at hmax hb hc
  clear hS
  have HR : Hid (∀ i (h : i < la.length), w.cell? (ad.add i) = some (.int .u8 (la[i].toNat : Int))) := hr
  have HN : Hid (la.length = n) := hn
  clear hr hn
  go_enter Tryd.func4, Tryd.ntmps4
  go_wp2_with fail
  refine Calls.mono HZ.out ?_
  rintro e w' ⟨⟨x, rfl⟩, rfl⟩
  clear HZ
  cases x
  · go_wp2_with fail
    go_ret
    exact ⟨rfl, Below.refl _ _⟩
  · by_cases ha6 : n ≤ 65536
    · by_cases hb6 : b.size ≤ 65536
      · by_cases hc6 : c.size ≤ 65536
        · obtain ⟨w1, hmk, how, hgr⟩ := run_makeSlice_full (P := Tryd.prog) w w.heap.size 22 5 i5 _ 1 Tryd.underlying22 hi5 hz5 hs5 .i64 .i64 n (by omega) (by rw [hb5]; omega) (by unfold maxLen; omega) (Nat.le_refl _)
          obtain ⟨cur, hcur, hcl⟩ : ∃ cur : List Value, w1.heap[w.heap.size]? = some (.cells cur.toArray 5 (0, 0)) ∧ cur.length = n := by
            rcases how.2 with ⟨h1, _⟩ | ⟨g, c, cur, h1, _, h3, _, _, h6, _⟩
            · cases h1
            · simp only [Value.slice.injEq, Option.some.injEq, Addr.mk.injEq] at h1
              obtain ⟨⟨rfl, _, _⟩, _, rfl⟩ := h1
              exact ⟨cur.toList, h3, by simp [h6]⟩
          have hb1 : Below w.heap.size w w1 := ⟨hgr.os, hgr.tape, hgr.output, hgr.size, fun k hk => hgr.block k hk (by simp)⟩
          have HCU : Hid (w1.heap[w.heap.size]? = some (.cells cur.toArray 5 (0, 0))) := hcur
          have HB1 : Hid (Below w.heap.size w w1) := hb1
          have HCL : Hid (cur.length = n) := hcl
          have HCc : Hid (∀ j v, (Lib.byteCells la)[j]? = some v → w1.cell? (ad.add j) = some v) := by
            intro j v hv
            have hj : j < la.length := by have := (List.getElem?_eq_some_iff.1 hv).1; rw [Lib.byteCells_length] at this; exact this
            have h0 := HR.out j hj
            have h1 : v = .int .u8 (la[j].toNat : Int) := by simp [Lib.byteCells, hj] at hv; exact hv.symm
            rw [h1, ← h0]
            exact hb1.cell (p := ad.add j) (by have := World.block_lt_of_cell? w _ h0; exact this)
          clear hcur hb1 hcl how hgr
          go_wp2_with ((refine wpList_copy_splice rfl _ _ 22 22 rfl 5 Tryd.underlying22 (by kernel_rfl) (some ⟨w.heap.size, 0, none⟩) (some ad) n n n cap rfl rfl w.heap.size 0 cur 5 HCU.out (Lib.byteCells la) (by rw [Lib.byteCells_length, HN.out]; exact (Nat.min_self n).symm) (fun _ => ⟨rfl, ad, rfl, HCc.out⟩) (by rw [Lib.byteCells_length, HN.out, HCL.out]; omega) (Lib.byteCells_one _) w.heap.size w HB1.out (Nat.le_refl _) ?_; intro w2 HG2 hB2; have HB2 : Hid (Below w.heap.size w w2) := hB2; clear hB2; have HR2 : Hid (RowB w2 (.slice (some ⟨w.heap.size, 0, none⟩) n n) la) := copied_row HN.out HCL.out HG2.out))
          clear HCU HB1 HCL HCc HG2
          go_loop [8, 10] (fun r i => ∃ k : Nat, i = .int .i64 k ∧ r = .bool false ∧ k ≤ n ∧ Hid ((34 : UInt8) ∉ (la : List UInt8).take k)) (fun _ i => n - (intOf i).toNat)
          case atStart => exact ⟨0, rfl, rfl, Nat.zero_le _, by rw [List.take_zero]; exact List.not_mem_nil⟩
          case round =>
            obtain ⟨k, rfl, rfl, hk, HNO⟩ := hrel
            by_cases hlt : k < n
            · obtain ⟨b', off', hl', e', hc'⟩ := HR2.out.at hlt
              simp only [Option.some.injEq, Addr.mk.injEq] at e'
              obtain ⟨rfl, rfl, _⟩ := e'
              rw [Nat.zero_add] at hc'
              obtain ⟨d, hd⟩ : ∃ d, la[k] = d := ⟨_, rfl⟩
              rw [hd] at hc'
              have HDL : Hid (la.take (k + 1) = la.take k ++ [d]) := by rw [List.take_succ_eq_append_getElem hl', hd]; exact rfl
              by_cases h34 : d = 34
              · have he : (((d.toNat : Nat) : Int) == 34) = true := by subst h34; rfl
                clear h34 hd
                go_wp2_with fail
                go_ret
                exact ⟨rfl, HB2.out⟩
              · have he : (((d.toNat : Nat) : Int) == 34) = false := by
                  rw [beq_eq_false_iff_ne]; intro e; exact h34 (UInt8.toNat_inj.1 (by simp; omega))
                have HN2 : Hid ((34 : UInt8) ∉ la.take (k + 1)) := by
                  rw [HDL.out]
                  intro e
                  rcases List.mem_append.1 e with e | e
                  · exact HNO.out e
                  · simp at e; exact h34 e.symm
                clear h34 hd
                go_wp2_with fail
                go_round
                case rel => exact ⟨k + 1, by go_num, rfl, by omega, HN2⟩
                case measure => simp [intOf]; omega
            · obtain rfl : n = k := by omega
              have HNQ : Hid ((34 : UInt8) ∉ (la : List UInt8)) := by
                have h := HNO.out
                rw [List.take_of_length_le (by rw [HN.out]; exact Nat.le_refl _)] at h
                exact h
              clear HNO
              go_wp2_with fail
              go_loop [8, 11] (fun r i => ∃ j : Nat, i = .int .i64 j ∧ r = .bool false ∧ j ≤ b.size ∧ Hid ((10 : UInt8) ∉ (bytesOf b).take j)) (fun _ i => b.size - (intOf i).toNat)
              case atStart => exact ⟨0, rfl, rfl, Nat.zero_le _, by rw [List.take_zero]; exact List.not_mem_nil⟩
              case round =>
                obtain ⟨j, rfl, rfl, hj, HNO⟩ := hrel
                by_cases hlt2 : j < b.size
                · obtain ⟨d, hd⟩ : ∃ d, b[j] = d := ⟨_, rfl⟩
                  have hdl : (bytesOf b).take (j + 1) = (bytesOf b).take j ++ [d] := by
                    rw [List.take_succ_eq_append_getElem (by rw [bytesOf_size]; exact hlt2)]
                    rw [← hd]
                    rfl
                  have HDL : Hid _ := hdl
                  by_cases h10 : d = 10
                  · have he : (((d.toNat : Nat) : Int) == 10) = true := by subst h10; rfl
                    clear h10 hdl
                    go_wp2_with fail
                    go_ret
                    exact ⟨rfl, HB2.out⟩
                  · have he : (((d.toNat : Nat) : Int) == 10) = false := by
                      rw [beq_eq_false_iff_ne]; intro e; exact h10 (UInt8.toNat_inj.1 (by simp; omega))
                    have HN2 : Hid ((10 : UInt8) ∉ (bytesOf b).take (j + 1)) := by
                      rw [HDL.out]
                      intro e
                      rcases List.mem_append.1 e with e | e
                      · exact HNO.out e
                      · simp at e; exact h10 e.symm
                    clear h10 hdl
                    go_wp2_with fail
                    go_round
                    case rel => exact ⟨j + 1, by go_num, rfl, by omega, HN2⟩
                    case measure => simp [intOf]; omega
                · obtain rfl : j = b.size := by omega
                  have HNB : Hid ((10 : UInt8) ∉ bytesOf b) := by
                    have h := HNO.out
                    rw [List.take_of_length_le (by rw [bytesOf_size]; exact Nat.le_refl _)] at h
                    exact h
                  clear HNO
                  obtain ⟨capb, wb, hcv, hrb, hbb, hszb⟩ := bytes_new b w2
                  have HRB : Hid (RowB wb (.slice (some ⟨w2.heap.size, 0, none⟩) b.size capb) (bytesOf b)) := hrb
                  have HBB : Hid (Below w2.heap.size w2 wb) := hbb
                  clear hrb hbb
                  go_wp2_with fail
                  refine Calls.mono (dropcr_any _ (bytesOf b) wb HRB.out (by rw [bytesOf_size]; omega)) ?_
                  rintro e w' ⟨vn, rfl, hrn, hbn, rfl⟩
                  obtain ⟨D, hD⟩ : ∃ D, dropEnd 13 (bytesOf b) = D := ⟨_, rfl⟩
                  rw [hD] at hrn
                  have HDl : Hid (D.length ≤ 65536) := by rw [← hD]; exact Nat.le_trans (dropEnd_len _ _) (by rw [bytesOf_size]; exact hb6)
                  have HDe : Hid (dropEnd 13 (bytesOf b) = D) := hD
                  obtain ⟨avn, cvn, rfl⟩ := hrn.slice
                  obtain ⟨nn, hnn⟩ : ∃ nn, D.length = nn := ⟨_, rfl⟩
                  rw [hnn] at hrn hbn ⊢
                  have HRN : Hid (RowB wb (.slice avn nn cvn) D) := hrn
                  have HBw : Hid (Below w.heap.size w wb) := HB2.out.trans (HBB.out.mono HB2.out.size)
                  have hw0 : w.heap.size ≤ wb.heap.size := HBw.out.size
                  have HSb : Hid (Sen wb wb.heap.size a0 a1 a2) := (HS.out.below HBw.out).up hw0
                  have HRAb : Hid (RowB wb (.slice (some ⟨w.heap.size, 0, none⟩) n n) la) := HR2.out.below HBB.out HR2.out.lt
                  clear hrn hbn hnn hD hcv
                  go_wp2_with fail
                  obtain ⟨s1, hs1⟩ : ∃ s1, b ++ (⟨#[10]⟩ : ByteArray) ++ c = s1 := ⟨_, rfl⟩
                  rw [hs1]
                  have HS1 : Hid (bytesOf s1 = bytesOf b ++ 10 :: bytesOf c) := by rw [← hs1]; exact cat_bytes b c
                  have hsz1 : s1.size ≤ 1048576 := by
                    have h := congrArg List.length HS1.out
                    rw [bytesOf_size, List.length_append, List.length_cons, bytesOf_size, bytesOf_size] at h
                    omega
                  clear hs1
                  refine Calls.mono (new_any s1 st wb hsz1) ?_
                  rintro e w3 ⟨cb, bb, sb, rb, rfl, hcr3, hb3⟩
                  have HC3 : Hid (CR w3 wb.heap.size cb bb sb rb s1 0 st [] (bytesOf s1) (.slice none 0 0) (.slice none 0 0)) := hcr3
                  have HB3 : Hid (Below wb.heap.size wb w3) := hb3
                  have HS3 : Hid (Sen w3 wb.heap.size a0 a1 a2) := HSb.out.below hb3
                  have HRA3 : Hid (RowB w3 (.slice (some ⟨w.heap.size, 0, none⟩) n n) la) := HRAb.out.below hb3 HRAb.out.lt
                  have hz3 : wb.heap.size ≤ w3.heap.size := hb3.size
                  clear hcr3 hb3
                  go_wp2_with fail
                  refine Calls.mono (zq_any w3 wb.heap.size cb bb sb rb s1 st (bytesOf s1) la (.slice (some ⟨w.heap.size, 0, none⟩) n n) (.slice none 0 0) a0 a1 a2 HC3.out HS3.out hz3 (by rw [bytesOf_size]; exact hsz1) (by rw [HN.out]; omega) HRA3.out (apart_old HRAb.out.lt HC3.out.low.1 hz3 rfl)) ?_
                  rintro e w4 ⟨hb4, hends, rem4, vt4, vl4, hcr4⟩
                  have hrq : rq la (bytesOf s1) = (la ++ 10 :: (rq D (bytesOf c)).1, (rq D (bytesOf c)).2.1, (rq D (bytesOf c)).2.2 + 1) := by
                    rw [HS1.out, ← HDe.out]; exact rq_join HNQ.out HNB.out
                  obtain ⟨T2, hT2⟩ : ∃ T2, (rq D (bytesOf c)).1 = T2 := ⟨_, rfl⟩
                  obtain ⟨O2, hO2⟩ : ∃ O2, (rq D (bytesOf c)).2.1 = O2 := ⟨_, rfl⟩
                  obtain ⟨K2, hK2⟩ : ∃ K2, (rq D (bytesOf c)).2.2 = K2 := ⟨_, rfl⟩
                  have HRQ : Hid ((rq D (bytesOf c)).1 = T2 ∧ (rq D (bytesOf c)).2.1 = O2 ∧ (rq D (bytesOf c)).2.2 = K2) := ⟨hT2, hO2, hK2⟩
                  rw [hrq, hT2, hO2, hK2] at hcr4
                  rw [hrq, hO2] at hends
                  have HC4 : Hid (CR w4 wb.heap.size cb bb sb rb s1 ((K2 + 1 : Nat) : Int) st (la ++ 10 :: T2) rem4 vt4 vl4) := hcr4
                  have HB4 : Hid (Below wb.heap.size wb w4) := HB3.out.trans hb4
                  have HS4 : Hid (Sen w4 wb.heap.size a0 a1 a2) := HS3.out.below hb4
                  obtain ⟨at4, ct4, hvt4⟩ := own_slice hcr4.tx
                  subst hvt4
                  obtain ⟨nt4, hnt4⟩ : ∃ nt4, (la ++ 10 :: T2).length = nt4 := ⟨_, rfl⟩
                  rw [hnt4] at HC4
                  have HT4 : Hid (RowB w4 (.slice at4 nt4 ct4) (la ++ 10 :: T2)) := by have h := row_own HC4.out.tx; exact h
                  have HNT4 : Hid ((la ++ 10 :: T2).length = nt4) := hnt4
                  have HTL : Hid (T2.length ≤ 900000 ∧ K2 ≤ 1000000) := by rw [← hT2, ← hK2]; exact rq_small (by have := HDl.out; omega) (by rw [bytesOf_size]; exact hc6)
                  clear hcr4 hrq hT2 hO2 hK2 hb4 hnt4
                  rcases hends with ⟨tl, v1, ho, rfl, hr1⟩ | ⟨ho, p1, hp1, rfl, q0, q1⟩
                  · subst ho
                    go_wp2_with fail
                    refine Calls.mono (text_any w4 cb bb _ st _ vl4 HC4.out.hc) ?_
                    rintro e w' ⟨rfl, rfl⟩
                    go_wp2_with fail
                    refine Calls.mono (lineno_any w4 cb bb _ st _ vl4 HC4.out.hc) ?_
                    rintro e w' ⟨rfl, rfl⟩
                    go_wp2_with fail
                    refine Calls.mono (errof_nil w4) ?_
                    rintro e w5 ⟨rfl, hw5⟩
                    have HH5 : Hid (w5.heap = w4.heap) := by rw [← hw5]; exact rfl
                    have HB45 : Hid (Below wb.heap.size w4 w5) := by rw [← hw5]; exact Below.refl _ _
                    clear hw5
                    have HV15 : Hid (RowB w5 v1 tl) := hr1.eqh HH5.out
                    clear hr1
                    have HBw5 : Hid (Below w.heap.size w w5) := HBw.out.trans ((HB4.out.mono (Nat.le_refl _)).mono hw0 |>.trans (HB45.out.mono hw0))
                    have hzw5 : wb.heap.size ≤ w5.heap.size := Nat.le_trans HB4.out.size HB45.out.size
                    have HT5 : Hid (RowB w5 (.slice at4 nt4 ct4) (la ++ 10 :: T2)) := HT4.out.eqh HH5.out
                    have HRA5 : Hid (RowB w5 (.slice (some ⟨w.heap.size, 0, none⟩) n n) la) := ((HRAb.out.below HB4.out HRAb.out.lt)).eqh HH5.out
                    have HRN5 : Hid (RowB w5 (.slice avn nn cvn) D) := ((HRN.out.below HB4.out HRN.out.lt)).eqh HH5.out
                    have HS5 : Hid (Sen w5 w5.heap.size a0 a1 a2) := (HS4.out.below HB45.out).up hzw5
                    clear HC3 HS3 HRA3
                    go_wp2_with fail
                    refine Calls.mono (new_any c st w5 (by omega)) ?_
                    rintro e w6 ⟨cb2, bb2, sb2, rb2, rfl, hcr6, hb6'⟩
                    have HC6 : Hid (CR w6 w5.heap.size cb2 bb2 sb2 rb2 c 0 st [] (bytesOf c) (.slice none 0 0) (.slice none 0 0)) := hcr6
                    have HB6 : Hid (Below w5.heap.size w5 w6) := hb6'
                    have HS6 : Hid (Sen w6 w5.heap.size a0 a1 a2) := HS5.out.below hb6'
                    have HRN6 : Hid (RowB w6 (.slice avn nn cvn) D) := HRN5.out.below hb6' HRN5.out.lt
                    have hz6 : w5.heap.size ≤ w6.heap.size := hb6'.size
                    clear hcr6 hb6'
                    go_wp2_with fail
                    refine Calls.mono (zq_any w6 w5.heap.size cb2 bb2 sb2 rb2 c st (bytesOf c) D (.slice avn nn cvn) (.slice none 0 0) a0 a1 a2 HC6.out HS6.out hz6 (by rw [bytesOf_size]; omega) (by have := HDl.out; omega) HRN6.out (apart_old HRN5.out.lt HC6.out.low.1 hz6 rfl)) ?_
                    rintro e w7 ⟨hb7, hends7, rem7, vt7, vl7, hcr7⟩
                    rw [HRQ.out.1, HRQ.out.2.2] at hcr7
                    rw [HRQ.out.2.1] at hends7
                    have HC7 : Hid (CR w7 w5.heap.size cb2 bb2 sb2 rb2 c (K2 : Int) st T2 rem7 vt7 vl7) := hcr7
                    have HB7 : Hid (Below w5.heap.size w5 w7) := HB6.out.trans hb7
                    have HS7 : Hid (Sen w7 w5.heap.size a0 a1 a2) := HS6.out.below hb7
                    obtain ⟨at7, ct7, hvt7⟩ := own_slice hcr7.tx
                    subst hvt7
                    obtain ⟨nt7, hnt7⟩ : ∃ nt7, T2.length = nt7 := ⟨_, rfl⟩
                    rw [hnt7] at HC7
                    have HT7 : Hid (RowB w7 (.slice at7 nt7 ct7) T2) := by have h := row_own HC7.out.tx; exact h
                    have HNT7 : Hid (T2.length = nt7) := hnt7
                    have hnt7b : nt7 ≤ 900000 := by rw [← hnt7]; exact HTL.out.1
                    have HT47 : Hid (RowB w7 (.slice at4 nt4 ct4) (la ++ 10 :: T2)) := HT5.out.below HB7.out HT5.out.lt
                    have HRA7 : Hid (RowB w7 (.slice (some ⟨w.heap.size, 0, none⟩) n n) la) := HRA5.out.below HB7.out HRA5.out.lt
                    clear hcr7 hb7 hnt7
                    have HV17 : Hid (RowB w7 v1 tl) := HV15.out.below HB7.out HV15.out.lt
                    obtain ⟨v2, rfl, hr7⟩ : ∃ v2, e = .returned (.tuple #[v2, .nilIface]) ∧ RowB w7 v2 tl := by
                      rcases hends7 with ⟨tl', v2, ho7, he, hr7⟩ | ⟨ho7, _⟩
                      · cases ho7; exact ⟨v2, he, hr7⟩
                      · cases ho7
                    have HV27 : Hid (RowB w7 v2 tl) := hr7
                    clear hr7 hends7
                    go_wp2_with fail
                    refine Calls.mono (text_any w7 cb2 bb2 _ st _ vl7 HC7.out.hc) ?_
                    rintro e w' ⟨rfl, rfl⟩
                    go_wp2_with fail
                    refine Calls.mono (lineno_any w7 cb2 bb2 _ st _ vl7 HC7.out.hc) ?_
                    rintro e w' ⟨rfl, rfl⟩
                    go_wp2_with fail
                    refine Calls.mono (errof_nil w7) ?_
                    rintro e w8 ⟨rfl, hw8⟩
                    have HH8 : Hid (w8.heap = w7.heap) := by rw [← hw8]; exact rfl
                    have HB78 : Hid (Below w5.heap.size w7 w8) := by rw [← hw8]; exact Below.refl _ _
                    clear hw8
                    have HBw8 : Hid (Below w.heap.size w w8) := HBw5.out.trans ((HB7.out.trans HB78.out).mono (Nat.le_trans hw0 hzw5))
                    have hz8 : w.heap.size ≤ w8.heap.size := HBw8.out.size
                    have HT8 : Hid (RowB w8 (.slice at4 nt4 ct4) (la ++ 10 :: T2)) := HT47.out.eqh HH8.out
                    have HX8 : Hid (RowB w8 (.slice at7 nt7 ct7) T2) := HT7.out.eqh HH8.out
                    have HRA8 : Hid (RowB w8 (.slice (some ⟨w.heap.size, 0, none⟩) n n) la) := HRA7.out.eqh HH8.out
                    have htb : tl.length ≤ 1048576 := by
                      have h := rq_tail D (bytesOf c) tl HRQ.out.2.1
                      have h2 := HDl.out
                      rw [bytesOf_size] at h
                      omega
                    have HA8 : Hid (RowB w8 v1 tl) := HV17.out.eqh HH8.out
                    have HB8 : Hid (RowB w8 v2 tl) := HV27.out.eqh HH8.out
                    clear HV17 HV27 HV15
                    clear HT47 HT7 HRA7 HC7 HS7 HB7 HB78 HC6 HS6 HB6 HRN6 HRN5 HT5 HRA5 HC4 HT4
                    have HRB : Hid (RowB w8 (.slice (some ⟨w.heap.size, 0, none⟩) n n) la ∧ RowB w8 (.slice at7 nt7 ct7) T2) := ⟨HRA8.out, HX8.out⟩
                    have hLA : (la : List UInt8).length ≤ 65536 := by rw [HN.out]; omega
                    go_wp2_with (first
                      | (refine wpList_make_own _ rfl _ _ 22 rfl w8.heap.size 5 i5 _ 1 Tryd.underlying22 hi5 hz5 hs5 .i64 .i64 _ (n + 1 + nt7) rfl rfl (by omega) (by rw [hb5]; omega) (by unfold maxLen; omega) (Nat.le_refl _) ?_; intro w9 hom hgm; have HOW9 : Hid _ := hom; have HB9 : Hid (Below w8.heap.size w8 w9) := ⟨hgm.os, hgm.tape, hgm.output, hgm.size, fun k hk => hgm.block k hk (by simp)⟩; have hz9 : w8.heap.size ≤ w9.heap.size := HB9.out.size; clear hom hgm)
                      | (at_builtin; refine wpList_append_row rfl _ _ rfl w8.heap.size 0 (.slice (some ⟨w8.heap.size, 0, none⟩) 0 (n + 1 + nt7)) (.slice (some ⟨w.heap.size, 0, none⟩) n n) [] la rfl rfl HOW9.out (HRB.out.1.below HB9.out HRB.out.1.lt) (by omega) hz9 ?_; intro v10 w10 ho10 hg10 hv10; rw [Nat.zero_add, List.nil_append] at ho10; obtain ⟨a10, c10, hv10'⟩ := own_slice ho10; obtain ⟨N10, hN10⟩ : ∃ N10, (la : List UInt8).length = N10 := ⟨_, rfl⟩; rw [hN10] at hv10'; subst hv10'; have HOW10 : Hid (w10.ownsRow w8.heap.size 5 1 (.slice a10 N10 c10) (la : List UInt8).length (Lib.byteCells la)) := ho10; have HB10 : Hid (Below w8.heap.size w8 w10) := HB9.out.grown hg10 hz9 (fun k e => by cases e; exact Nat.le_refl _); have hz10 : w8.heap.size ≤ w10.heap.size := HB10.out.size; clear ho10 hg10 hv10 hN10)
                      | (at_builtin; refine wpList_append_row rfl _ _ rfl w8.heap.size (la : List UInt8).length (.slice a10 N10 c10) (.slice (some ⟨w10.heap.size, 0, none⟩) 1 1) (Lib.byteCells la) [10] rfl rfl (HOW10.out.alloc _) (row_new w10 10) (by have := hLA; show _ + 1 ≤ _; omega) (Nat.le_trans hz10 (by simp)) ?_; intro v11 w11 ho11 hg11 hv11; rw [← Lib.byteCells_append, ← List.length_append] at ho11; obtain ⟨a11, c11, hv11'⟩ := own_slice ho11; obtain ⟨N11, hN11⟩ : ∃ N11, ((la : List UInt8) ++ [10]).length = N11 := ⟨_, rfl⟩; rw [hN11] at hv11'; subst hv11'; have HOW11 : Hid (w11.ownsRow w8.heap.size 5 1 (.slice a11 N11 c11) ((la : List UInt8) ++ [10]).length (Lib.byteCells (la ++ [10]))) := ho11; have HB11 : Hid (Below w8.heap.size w8 w11) := (HB10.out.alloc hz10 _).grown hg11 (Nat.le_trans hz10 (by simp)) (fun k e => (HOW10.out.lt k e).1); have hz11 : w8.heap.size ≤ w11.heap.size := HB11.out.size; clear ho11 hg11 hv11 hN11)
                      | (at_builtin; refine wpList_append_row rfl _ _ rfl w8.heap.size ((la : List UInt8) ++ [10]).length (.slice a11 N11 c11) (.slice at7 nt7 ct7) (Lib.byteCells (la ++ [10])) T2 rfl rfl HOW11.out (HRB.out.2.below HB11.out HRB.out.2.lt) (by have := HTL.out.1; rw [List.length_append]; simp; omega) hz11 ?_; intro v12 w12 ho12 hg12 hv12; rw [← Lib.byteCells_append, ← List.length_append] at ho12; obtain ⟨a12, c12, hv12'⟩ := own_slice ho12; obtain ⟨N12, hN12⟩ : ∃ N12, ((la : List UInt8) ++ [10] ++ T2).length = N12 := ⟨_, rfl⟩; rw [hN12] at hv12'; subst hv12'; have HRW12 : Hid (RowB w12 (.slice a12 N12 c12) (la ++ [10] ++ T2)) := row_own ho12; have HB12 : Hid (Below w8.heap.size w8 w12) := HB11.out.grown hg12 hz11 (fun k e => (HOW11.out.lt k e).1); clear ho12 hg12 hv12 hN12)
                      | fail)
                    have hla2 : ((la : List UInt8) ++ [10] ++ T2).length ≤ 1048576 := by have := HTL.out.1; rw [List.length_append, List.length_append]; simp; omega
                    have E1 : Eqv w12 v1 v2 := ⟨tl, HA8.out.below HB12.out HA8.out.lt, HB8.out.below HB12.out HB8.out.lt, htb⟩
                    have E2 : Eqv w12 (.slice at4 nt4 ct4) (.slice a12 N12 c12) := ⟨la ++ [10] ++ T2, by have h := HT8.out.below HB12.out HT8.out.lt; rw [show (la : List UInt8) ++ 10 :: T2 = la ++ [10] ++ T2 from by simp] at h; exact h, HRW12.out, hla2⟩
                    have hK2b : K2 ≤ 1000000 := HTL.out.2
                    go_big_quiet ((go_at_call 12; refine Calls.quiet_of (Eqv.calls ?_ _); first | exact E1 | exact E2))
                    go_wp2_with fail
                    go_ret
                    exact ⟨rfl, (HBw8.out.trans (HB12.out.mono hz8)).grown (grown_drewN w12 nq) (Nat.le_trans hz8 HB12.out.size) (fun k e => by cases e)⟩
                  · subst ho
                    go_wp2_with fail
                    refine Calls.mono (text_any w4 cb bb _ st _ vl4 HC4.out.hc) ?_
                    rintro e w' ⟨rfl, rfl⟩
                    go_wp2_with fail
                    refine Calls.mono (lineno_any w4 cb bb _ st _ vl4 HC4.out.hc) ?_
                    rintro e w' ⟨rfl, rfl⟩
                    go_wp2_with fail
                    refine Calls.mono (errof_line p1 st a0 w4 q0 q1 HS4.out.g0) ?_
                    rintro e w5 ⟨rfl, n5, hw5⟩
                    have HH5 : Hid (w5.heap = w4.heap) := by rw [← hw5]; exact rfl
                    have HB45 : Hid (Below wb.heap.size w4 w5) := by rw [← hw5]; exact (Below.refl _ w4).grown (grown_drewN w4 n5) HB4.out.size (fun k e => by cases e)
                    clear hw5 q0 q1
                    have HBw5 : Hid (Below w.heap.size w w5) := HBw.out.trans ((HB4.out.mono (Nat.le_refl _)).mono hw0 |>.trans (HB45.out.mono hw0))
                    have hzw5 : wb.heap.size ≤ w5.heap.size := Nat.le_trans HB4.out.size HB45.out.size
                    have HT5 : Hid (RowB w5 (.slice at4 nt4 ct4) (la ++ 10 :: T2)) := HT4.out.eqh HH5.out
                    have HRA5 : Hid (RowB w5 (.slice (some ⟨w.heap.size, 0, none⟩) n n) la) := ((HRAb.out.below HB4.out HRAb.out.lt)).eqh HH5.out
                    have HRN5 : Hid (RowB w5 (.slice avn nn cvn) D) := ((HRN.out.below HB4.out HRN.out.lt)).eqh HH5.out
                    have HS5 : Hid (Sen w5 w5.heap.size a0 a1 a2) := (HS4.out.below HB45.out).up hzw5
                    clear HC3 HS3 HRA3
                    go_wp2_with fail
                    refine Calls.mono (new_any c st w5 (by omega)) ?_
                    rintro e w6 ⟨cb2, bb2, sb2, rb2, rfl, hcr6, hb6'⟩
                    have HC6 : Hid (CR w6 w5.heap.size cb2 bb2 sb2 rb2 c 0 st [] (bytesOf c) (.slice none 0 0) (.slice none 0 0)) := hcr6
                    have HB6 : Hid (Below w5.heap.size w5 w6) := hb6'
                    have HS6 : Hid (Sen w6 w5.heap.size a0 a1 a2) := HS5.out.below hb6'
                    have HRN6 : Hid (RowB w6 (.slice avn nn cvn) D) := HRN5.out.below hb6' HRN5.out.lt
                    have hz6 : w5.heap.size ≤ w6.heap.size := hb6'.size
                    clear hcr6 hb6'
                    go_wp2_with fail
                    refine Calls.mono (zq_any w6 w5.heap.size cb2 bb2 sb2 rb2 c st (bytesOf c) D (.slice avn nn cvn) (.slice none 0 0) a0 a1 a2 HC6.out HS6.out hz6 (by rw [bytesOf_size]; omega) (by have := HDl.out; omega) HRN6.out (apart_old HRN5.out.lt HC6.out.low.1 hz6 rfl)) ?_
                    rintro e w7 ⟨hb7, hends7, rem7, vt7, vl7, hcr7⟩
                    rw [HRQ.out.1, HRQ.out.2.2] at hcr7
                    rw [HRQ.out.2.1] at hends7
                    have HC7 : Hid (CR w7 w5.heap.size cb2 bb2 sb2 rb2 c (K2 : Int) st T2 rem7 vt7 vl7) := hcr7
                    have HB7 : Hid (Below w5.heap.size w5 w7) := HB6.out.trans hb7
                    have HS7 : Hid (Sen w7 w5.heap.size a0 a1 a2) := HS6.out.below hb7
                    obtain ⟨at7, ct7, hvt7⟩ := own_slice hcr7.tx
                    subst hvt7
                    obtain ⟨nt7, hnt7⟩ : ∃ nt7, T2.length = nt7 := ⟨_, rfl⟩
                    rw [hnt7] at HC7
                    have HT7 : Hid (RowB w7 (.slice at7 nt7 ct7) T2) := by have h := row_own HC7.out.tx; exact h
                    have HNT7 : Hid (T2.length = nt7) := hnt7
                    have hnt7b : nt7 ≤ 900000 := by rw [← hnt7]; exact HTL.out.1
                    have HT47 : Hid (RowB w7 (.slice at4 nt4 ct4) (la ++ 10 :: T2)) := HT5.out.below HB7.out HT5.out.lt
                    have HRA7 : Hid (RowB w7 (.slice (some ⟨w.heap.size, 0, none⟩) n n) la) := HRA5.out.below HB7.out HRA5.out.lt
                    clear hcr7 hb7 hnt7
                    obtain ⟨p2, rfl, q0, q1⟩ : ∃ p2, e = .returned (.tuple #[.slice none 0 0, .iface 49 (.pointer (some ⟨p2, 0, none⟩))]) ∧ w7.cell? ⟨p2, 0, none⟩ = some (.int .i64 st) ∧ w7.cell? ⟨p2, 1, none⟩ = some (I a0) := by
                      rcases hends7 with ⟨tl', v2, ho7, _⟩ | ⟨_, p2, _, he, q0, q1⟩
                      · cases ho7
                      · exact ⟨p2, he, q0, q1⟩
                    have HQ7 : Hid (w7.cell? ⟨p2, 0, none⟩ = some (.int .i64 st) ∧ w7.cell? ⟨p2, 1, none⟩ = some (I a0)) := ⟨q0, q1⟩
                    clear q0 q1 hends7
                    go_wp2_with fail
                    refine Calls.mono (text_any w7 cb2 bb2 _ st _ vl7 HC7.out.hc) ?_
                    rintro e w' ⟨rfl, rfl⟩
                    go_wp2_with fail
                    refine Calls.mono (lineno_any w7 cb2 bb2 _ st _ vl7 HC7.out.hc) ?_
                    rintro e w' ⟨rfl, rfl⟩
                    go_wp2_with fail
                    refine Calls.mono (errof_line p2 st a0 w7 HQ7.out.1 HQ7.out.2 HS7.out.g0) ?_
                    rintro e w8 ⟨rfl, n8, hw8⟩
                    have HH8 : Hid (w8.heap = w7.heap) := by rw [← hw8]; exact rfl
                    have HB78 : Hid (Below w5.heap.size w7 w8) := by rw [← hw8]; exact (Below.refl _ w7).grown (grown_drewN w7 n8) HB7.out.size (fun k e => by cases e)
                    clear hw8
                    have HBw8 : Hid (Below w.heap.size w w8) := HBw5.out.trans ((HB7.out.trans HB78.out).mono (Nat.le_trans hw0 hzw5))
                    have hz8 : w.heap.size ≤ w8.heap.size := HBw8.out.size
                    have HT8 : Hid (RowB w8 (.slice at4 nt4 ct4) (la ++ 10 :: T2)) := HT47.out.eqh HH8.out
                    have HX8 : Hid (RowB w8 (.slice at7 nt7 ct7) T2) := HT7.out.eqh HH8.out
                    have HRA8 : Hid (RowB w8 (.slice (some ⟨w.heap.size, 0, none⟩) n n) la) := HRA7.out.eqh HH8.out
                    have HA8 : Hid (RowB w8 (.slice none 0 0) []) := .inl ⟨rfl, rfl⟩
                    have HB8 : Hid (RowB w8 (.slice none 0 0) []) := .inl ⟨rfl, rfl⟩
                    clear HT47 HT7 HRA7 HC7 HS7 HB7 HB78 HC6 HS6 HB6 HRN6 HRN5 HT5 HRA5 HC4 HT4
                    have HRB : Hid (RowB w8 (.slice (some ⟨w.heap.size, 0, none⟩) n n) la ∧ RowB w8 (.slice at7 nt7 ct7) T2) := ⟨HRA8.out, HX8.out⟩
                    have hLA : (la : List UInt8).length ≤ 65536 := by rw [HN.out]; omega
                    go_wp2_with (first
                      | (refine wpList_make_own _ rfl _ _ 22 rfl w8.heap.size 5 i5 _ 1 Tryd.underlying22 hi5 hz5 hs5 .i64 .i64 _ (n + 1 + nt7) rfl rfl (by omega) (by rw [hb5]; omega) (by unfold maxLen; omega) (Nat.le_refl _) ?_; intro w9 hom hgm; have HOW9 : Hid _ := hom; have HB9 : Hid (Below w8.heap.size w8 w9) := ⟨hgm.os, hgm.tape, hgm.output, hgm.size, fun k hk => hgm.block k hk (by simp)⟩; have hz9 : w8.heap.size ≤ w9.heap.size := HB9.out.size; clear hom hgm)
                      | (at_builtin; refine wpList_append_row rfl _ _ rfl w8.heap.size 0 (.slice (some ⟨w8.heap.size, 0, none⟩) 0 (n + 1 + nt7)) (.slice (some ⟨w.heap.size, 0, none⟩) n n) [] la rfl rfl HOW9.out (HRB.out.1.below HB9.out HRB.out.1.lt) (by omega) hz9 ?_; intro v10 w10 ho10 hg10 hv10; rw [Nat.zero_add, List.nil_append] at ho10; obtain ⟨a10, c10, hv10'⟩ := own_slice ho10; obtain ⟨N10, hN10⟩ : ∃ N10, (la : List UInt8).length = N10 := ⟨_, rfl⟩; rw [hN10] at hv10'; subst hv10'; have HOW10 : Hid (w10.ownsRow w8.heap.size 5 1 (.slice a10 N10 c10) (la : List UInt8).length (Lib.byteCells la)) := ho10; have HB10 : Hid (Below w8.heap.size w8 w10) := HB9.out.grown hg10 hz9 (fun k e => by cases e; exact Nat.le_refl _); have hz10 : w8.heap.size ≤ w10.heap.size := HB10.out.size; clear ho10 hg10 hv10 hN10)
                      | (at_builtin; refine wpList_append_row rfl _ _ rfl w8.heap.size (la : List UInt8).length (.slice a10 N10 c10) (.slice (some ⟨w10.heap.size, 0, none⟩) 1 1) (Lib.byteCells la) [10] rfl rfl (HOW10.out.alloc _) (row_new w10 10) (by have := hLA; show _ + 1 ≤ _; omega) (Nat.le_trans hz10 (by simp)) ?_; intro v11 w11 ho11 hg11 hv11; rw [← Lib.byteCells_append, ← List.length_append] at ho11; obtain ⟨a11, c11, hv11'⟩ := own_slice ho11; obtain ⟨N11, hN11⟩ : ∃ N11, ((la : List UInt8) ++ [10]).length = N11 := ⟨_, rfl⟩; rw [hN11] at hv11'; subst hv11'; have HOW11 : Hid (w11.ownsRow w8.heap.size 5 1 (.slice a11 N11 c11) ((la : List UInt8) ++ [10]).length (Lib.byteCells (la ++ [10]))) := ho11; have HB11 : Hid (Below w8.heap.size w8 w11) := (HB10.out.alloc hz10 _).grown hg11 (Nat.le_trans hz10 (by simp)) (fun k e => (HOW10.out.lt k e).1); have hz11 : w8.heap.size ≤ w11.heap.size := HB11.out.size; clear ho11 hg11 hv11 hN11)
                      | (at_builtin; refine wpList_append_row rfl _ _ rfl w8.heap.size ((la : List UInt8) ++ [10]).length (.slice a11 N11 c11) (.slice at7 nt7 ct7) (Lib.byteCells (la ++ [10])) T2 rfl rfl HOW11.out (HRB.out.2.below HB11.out HRB.out.2.lt) (by have := HTL.out.1; rw [List.length_append]; simp; omega) hz11 ?_; intro v12 w12 ho12 hg12 hv12; rw [← Lib.byteCells_append, ← List.length_append] at ho12; obtain ⟨a12, c12, hv12'⟩ := own_slice ho12; obtain ⟨N12, hN12⟩ : ∃ N12, ((la : List UInt8) ++ [10] ++ T2).length = N12 := ⟨_, rfl⟩; rw [hN12] at hv12'; subst hv12'; have HRW12 : Hid (RowB w12 (.slice a12 N12 c12) (la ++ [10] ++ T2)) := row_own ho12; have HB12 : Hid (Below w8.heap.size w8 w12) := HB11.out.grown hg12 hz11 (fun k e => (HOW11.out.lt k e).1); clear ho12 hg12 hv12 hN12)
                      | fail)
                    have hla2 : ((la : List UInt8) ++ [10] ++ T2).length ≤ 1048576 := by have := HTL.out.1; rw [List.length_append, List.length_append]; simp; omega
                    have E1 : Eqv w12 (.slice none 0 0) (.slice none 0 0) := ⟨([] : List UInt8), HA8.out.below HB12.out HA8.out.lt, HB8.out.below HB12.out HB8.out.lt, (by simp)⟩
                    have E2 : Eqv w12 (.slice at4 nt4 ct4) (.slice a12 N12 c12) := ⟨la ++ [10] ++ T2, by have h := HT8.out.below HB12.out HT8.out.lt; rw [show (la : List UInt8) ++ 10 :: T2 = la ++ [10] ++ T2 from by simp] at h; exact h, HRW12.out, hla2⟩
                    have hK2b : K2 ≤ 1000000 := HTL.out.2
                    go_big_quiet ((go_at_call 12; refine Calls.quiet_of (Eqv.calls ?_ _); first | exact E1 | exact E2))
                    go_wp2_with fail
                    go_ret
                    exact ⟨rfl, (HBw8.out.trans (HB12.out.mono hz8)).grown (grown_drewN w12 nq) (Nat.le_trans hz8 HB12.out.size) (fun k e => by cases e)⟩
        · go_wp2_with fail
          go_ret
          exact ⟨rfl, Below.refl _ _⟩
      · go_wp2_with fail
        go_ret
        exact ⟨rfl, Below.refl _ _⟩
    · go_wp2_with fail
      go_ret
      exact ⟨rfl, Below.refl _ _⟩

end Go.Proofs.Qxb6613468aDoor
