/-
  The law FnReadQuotedMatchesQuotedFieldModel (3), at a slice that is not nil.
-/
import Derived.Test.Qxb6613468aDoorModel
namespace Go.Proofs.Qxb6613468aDoor
open Go.RowKit

set_option maxRecDepth 1000000 in
set_option maxHeartbeats 8000000 in
theorem match_some (ad : Addr) (n cap : Nat) (la : List UInt8) (b : ByteArray) (st : Int) (a0 a1 a2 : Addr) (w : World) (hS : Sen w w.heap.size a0 a1 a2) (hn : la.length = n) (hr : ∀ i (h : i < la.length), w.cell? (ad.add i) = some (.int .u8 (la[i].toNat : Int))) (hmax : n ≤ maxLen) (hb : b.size ≤ maxLen) :
    Calls Tryd.prog 3 #[(.slice (some ad) n cap), .string b, .int .i64 st] w fun e w' => e = .returned (.bool true) ∧ Below w.heap.size w w' := by
  have HZ : Hid _ := zb5_any (some ad) n cap b st w hmax hb
  have HS : Hid (Sen w w.heap.size a0 a1 a2) := hS
  obtain ⟨i5, hi5, hz5, hs5, hb5⟩ := info_parts Tryd.info5
  unfold maxLen at hmax hb
  clear hS
  have HR : Hid (∀ i (h : i < la.length), w.cell? (ad.add i) = some (.int .u8 (la[i].toNat : Int))) := hr
  have HN : Hid (la.length = n) := hn
  clear hr hn
  go_enter Tryd.func3, Tryd.ntmps3
  go_wp2_with fail
  refine Calls.mono HZ.out ?_
  rintro e w' ⟨⟨x, rfl⟩, rfl⟩
  clear HZ
  cases x
  · go_wp2_with fail
    go_ret
    exact ⟨rfl, Below.refl _ _⟩
  · by_cases ha6 : n ≤ 65536
    · by_cases hb6 : b.size ≤ 65536
      · obtain ⟨w1, hmk, how, hgr⟩ := run_makeSlice_full (P := Tryd.prog) w w.heap.size 22 5 i5 _ 1 Tryd.underlying22 hi5 hz5 hs5 .i64 .i64 n (by omega) (by rw [hb5]; omega) (by unfold maxLen; omega) (Nat.le_refl _)
        obtain ⟨cur, hcur, hcl⟩ : ∃ cur : List Value, w1.heap[w.heap.size]? = some (.cells cur.toArray 5 (0, 0)) ∧ cur.length = n := by
          rcases how.2 with ⟨h1, _⟩ | ⟨g, c, cur, h1, _, h3, _, _, h6, _⟩
          · cases h1
          · simp only [Value.slice.injEq, Option.some.injEq, Addr.mk.injEq] at h1
            obtain ⟨⟨rfl, _, _⟩, _, rfl⟩ := h1
            exact ⟨cur.toList, h3, by simp [h6]⟩
        have hb1 : Below w.heap.size w w1 := ⟨hgr.os, hgr.tape, hgr.output, hgr.size, fun k hk => hgr.block k hk (by simp)⟩
        have HCU : Hid (w1.heap[w.heap.size]? = some (.cells cur.toArray 5 (0, 0))) := hcur
        have HB1 : Hid (Below w.heap.size w w1) := hb1
        have HCL : Hid (cur.length = n) := hcl
        have HCc : Hid (∀ j v, (Lib.byteCells la)[j]? = some v → w1.cell? (ad.add j) = some v) := by
          intro j v hv
          have hj : j < la.length := by have := (List.getElem?_eq_some_iff.1 hv).1; rw [Lib.byteCells_length] at this; exact this
          have h0 := HR.out j hj
          have h1 : v = .int .u8 (la[j].toNat : Int) := by simp [Lib.byteCells, hj] at hv; exact hv.symm
          rw [h1, ← h0]
          exact hb1.cell (p := ad.add j) (by have := World.block_lt_of_cell? w _ h0; exact this)
        clear hcur hb1 hcl how hgr
        go_wp2_with ((refine wpList_copy_splice rfl _ _ 22 22 rfl 5 Tryd.underlying22 (by kernel_rfl) (some ⟨w.heap.size, 0, none⟩) (some ad) n n n cap rfl rfl w.heap.size 0 cur 5 HCU.out (Lib.byteCells la) (by rw [Lib.byteCells_length, HN.out]; exact (Nat.min_self n).symm) (fun _ => ⟨rfl, ad, rfl, HCc.out⟩) (by rw [Lib.byteCells_length, HN.out, HCL.out]; omega) (Lib.byteCells_one _) w.heap.size w HB1.out (Nat.le_refl _) ?_; intro w2 HG2 hB2; have HB2 : Hid (Below w.heap.size w w2) := hB2; clear hB2; have HR2 : Hid (RowB w2 (.slice (some ⟨w.heap.size, 0, none⟩) n n) la) := copied_row HN.out HCL.out HG2.out))
        clear HCU HB1 HCL HCc HG2
        refine Calls.mono (model_any (.slice (some ⟨w.heap.size, 0, none⟩) n n) la b w2 HR2.out (by rw [HN.out]; omega) hb6) ?_
        rintro e w3 ⟨⟨vt, vtl, bad, rfl, hrt, hcase⟩, hb3⟩
        have hw0 : w.heap.size ≤ w2.heap.size := HB2.out.size
        have HBw : Hid (Below w.heap.size w w3) := HB2.out.trans (hb3.mono hw0)
        have hw3 : w.heap.size ≤ w3.heap.size := HBw.out.size
        have HS3 : Hid (Sen w3 w3.heap.size a0 a1 a2) := (HS.out.below HBw.out).up hw3
        have HRA3 : Hid (RowB w3 (.slice (some ⟨w.heap.size, 0, none⟩) n n) la) := HR2.out.below hb3 HR2.out.lt
        have HRT : Hid (RowB w3 vt (rq la (bytesOf b)).1) := hrt
        have HCA : Hid ((∃ tl, (rq la (bytesOf b)).2.1 = some tl ∧ bad = false ∧ RowB w3 vtl tl) ∨ ((rq la (bytesOf b)).2.1 = none ∧ bad = true ∧ vtl = .slice none 0 0)) := hcase
        have HTL : Hid ((rq la (bytesOf b)).1.length ≤ 900000 ∧ (rq la (bytesOf b)).2.2 ≤ 1000000) := rq_small (by rw [HN.out]; omega) (by rw [bytesOf_size]; exact hb6)
        have HTT : Hid (∀ tl, (rq la (bytesOf b)).2.1 = some tl → tl.length ≤ 1048576) := by
          intro tl h
          have h2 := rq_tail la (bytesOf b) tl h
          rw [bytesOf_size, HN.out] at h2
          omega
        clear hrt hcase hb3
        obtain ⟨T2, hT2⟩ : ∃ T2, (rq la (bytesOf b)).1 = T2 := ⟨_, rfl⟩
        obtain ⟨O2, hO2⟩ : ∃ O2, (rq la (bytesOf b)).2.1 = O2 := ⟨_, rfl⟩
        obtain ⟨K2, hK2⟩ : ∃ K2, (rq la (bytesOf b)).2.2 = K2 := ⟨_, rfl⟩
        have HRQ : Hid ((rq la (bytesOf b)).1 = T2 ∧ (rq la (bytesOf b)).2.1 = O2 ∧ (rq la (bytesOf b)).2.2 = K2) := ⟨hT2, hO2, hK2⟩
        rw [hT2, hK2] at HTL
        rw [hO2] at HCA HTT
        rw [hT2] at HRT
        rw [hK2]
        clear hT2 hO2 hK2
        go_wp2_with fail
        refine Calls.mono (new_any b st w3 (by omega)) ?_
        rintro e w4 ⟨cb, bb, sb, rb, rfl, hcr4, hb4⟩
        have HC4 : Hid (CR w4 w3.heap.size cb bb sb rb b 0 st [] (bytesOf b) (.slice none 0 0) (.slice none 0 0)) := hcr4
        have HB4 : Hid (Below w3.heap.size w3 w4) := hb4
        have HS4 : Hid (Sen w4 w3.heap.size a0 a1 a2) := HS3.out.below hb4
        have HRA4 : Hid (RowB w4 (.slice (some ⟨w.heap.size, 0, none⟩) n n) la) := HRA3.out.below hb4 HRA3.out.lt
        have hz4 : w3.heap.size ≤ w4.heap.size := hb4.size
        clear hcr4 hb4
        go_wp2_with fail
        refine Calls.mono (zq_any w4 w3.heap.size cb bb sb rb b st (bytesOf b) la (.slice (some ⟨w.heap.size, 0, none⟩) n n) (.slice none 0 0) a0 a1 a2 HC4.out HS4.out hz4 (by rw [bytesOf_size]; omega) (by rw [HN.out]; omega) HRA4.out (apart_old HRA3.out.lt HC4.out.low.1 hz4 rfl)) ?_
        rintro e w5 ⟨hb5', hends, rem5, vt5, vl5, hcr5⟩
        rw [HRQ.out.1, HRQ.out.2.2] at hcr5
        rw [HRQ.out.2.1] at hends
        have HC5 : Hid (CR w5 w3.heap.size cb bb sb rb b (K2 : Int) st T2 rem5 vt5 vl5) := hcr5
        have HB5 : Hid (Below w3.heap.size w3 w5) := HB4.out.trans hb5'
        have HS5 : Hid (Sen w5 w3.heap.size a0 a1 a2) := HS4.out.below hb5'
        obtain ⟨at5, ct5, hvt5⟩ := own_slice hcr5.tx
        subst hvt5
        obtain ⟨nt5, hnt5⟩ : ∃ nt5, T2.length = nt5 := ⟨_, rfl⟩
        rw [hnt5] at HC5
        have HT5 : Hid (RowB w5 (.slice at5 nt5 ct5) T2) := by have h := row_own HC5.out.tx; exact h
        have HRT5 : Hid (RowB w5 vt T2) := HRT.out.below HB5.out HRT.out.lt
        clear hcr5 hnt5 hb5' HC4 HS4 HRA4
        rcases hends with ⟨tl, v1, ho, rfl, hr1⟩ | ⟨ho, p1, hp1, rfl, q0, q1⟩
        · subst ho
          obtain ⟨rfl, hv2⟩ : false = bad ∧ RowB w3 vtl tl := by
            rcases HCA.out with ⟨tl', h1, h2, h3⟩ | ⟨h1, _⟩
            · cases h1; exact ⟨h2.symm, h3⟩
            · cases h1
          have HV2 : Hid (RowB w5 vtl tl) := hv2.below HB5.out hv2.lt
          have HV1 : Hid (RowB w5 v1 tl) := hr1
          clear hv2 hr1 HCA
          go_wp2_with fail
          refine Calls.mono (text_any w5 cb bb _ st _ vl5 HC5.out.hc) ?_
          rintro e w' ⟨rfl, rfl⟩
          go_wp2_with fail
          refine Calls.mono (lineno_any w5 cb bb _ st _ vl5 HC5.out.hc) ?_
          rintro e w' ⟨rfl, rfl⟩
          go_wp2_with fail
          refine Calls.mono (errof_nil w5) ?_
          rintro e w6 ⟨rfl, hw6⟩
          have HH6 : Hid (w6.heap = w5.heap) := by rw [← hw6]; exact rfl
          have HB56 : Hid (Below w3.heap.size w5 w6) := by rw [← hw6]; exact Below.refl _ _
          clear hw6
          have E2 : Eqv w6 v1 vtl := ⟨tl, HV1.out.eqh HH6.out, HV2.out.eqh HH6.out, HTT.out tl rfl⟩
          have E1 : Eqv w6 (.slice at5 nt5 ct5) vt := ⟨T2, HT5.out.eqh HH6.out, HRT5.out.eqh HH6.out, Nat.le_trans HTL.out.1 (by decide)⟩
          have HBw6 : Hid (Below w.heap.size w w6) := HBw.out.trans ((HB5.out.trans HB56.out).mono hw3)
          have hz6 : w.heap.size ≤ w6.heap.size := HBw6.out.size
          go_wp2_with fail
          refine Calls.mono E1.call ?_
          rintro e w7 ⟨rfl, q7, hw7⟩
          have HBw7 : Hid (Below w.heap.size w w7) := by rw [← hw7]; exact HBw6.out.grown (grown_drewN w6 q7) hz6 (fun k e => by cases e)
          have E3 : Eqv w7 v1 vtl := by
            rw [← hw7]
            obtain ⟨l, h1, h2, h3⟩ := E2.out
            exact ⟨l, h1.drewN q7, h2.drewN q7, h3⟩
          clear hw7
          go_wp2_with fail
          refine Calls.mono E3.call ?_
          rintro e w8 ⟨rfl, q8, hw8⟩
          have HBw8 : Hid (Below w.heap.size w w8) := by rw [← hw8]; exact HBw7.out.grown (grown_drewN w7 q8) HBw7.out.size (fun k e => by cases e)
          clear hw8
          go_wp2_with fail
          go_ret
          exact ⟨rfl, HBw8.out⟩
        · subst ho
          obtain ⟨rfl, rfl⟩ : true = bad ∧ (.slice none 0 0 : Value) = vtl := by
            rcases HCA.out with ⟨tl', h1, _⟩ | ⟨_, h2, h3⟩
            · cases h1
            · exact ⟨h2.symm, h3.symm⟩
          clear HCA
          go_wp2_with fail
          refine Calls.mono (text_any w5 cb bb _ st _ vl5 HC5.out.hc) ?_
          rintro e w' ⟨rfl, rfl⟩
          go_wp2_with fail
          refine Calls.mono (lineno_any w5 cb bb _ st _ vl5 HC5.out.hc) ?_
          rintro e w' ⟨rfl, rfl⟩
          go_wp2_with fail
          refine Calls.mono (errof_line p1 st a0 w5 q0 q1 HS5.out.g0) ?_
          rintro e w6 ⟨rfl, n6, hw6⟩
          have HH6 : Hid (w6.heap = w5.heap) := by rw [← hw6]; exact rfl
          have HB56 : Hid (Below w3.heap.size w5 w6) := by rw [← hw6]; exact (Below.refl _ w5).grown (grown_drewN w5 n6) HB5.out.size (fun k e => by cases e)
          clear hw6 q0 q1
          have E1 : Eqv w6 (.slice at5 nt5 ct5) vt := ⟨T2, HT5.out.eqh HH6.out, HRT5.out.eqh HH6.out, Nat.le_trans HTL.out.1 (by decide)⟩
          have HBw6 : Hid (Below w.heap.size w w6) := HBw.out.trans ((HB5.out.trans HB56.out).mono hw3)
          have hz6 : w.heap.size ≤ w6.heap.size := HBw6.out.size
          go_wp2_with fail
          refine Calls.mono E1.call ?_
          rintro e w7 ⟨rfl, q7, hw7⟩
          have HBw7 : Hid (Below w.heap.size w w7) := by rw [← hw7]; exact HBw6.out.grown (grown_drewN w6 q7) hz6 (fun k e => by cases e)
          clear hw7
          go_wp2_with fail
          go_ret
          exact ⟨rfl, HBw7.out⟩
      · go_wp2_with fail
        go_ret
        exact ⟨rfl, Below.refl _ _⟩
    · go_wp2_with fail
      go_ret
      exact ⟨rfl, Below.refl _ _⟩

end Go.Proofs.Qxb6613468aDoor
