/-
  zzQuotedModel (6), walked: it computes rq.
-/
import Derived.Test.Qxb6613468aDoorRest
namespace Go.Proofs.Qxb6613468aDoor
open Go.RowKit

theorem lines_cell {w : World} {B n : Nat} {a : Option Addr} {c : Nat} {vals : List Value} (h : w.ownsRow B 22 1 (.slice a n c) vals.length vals) {i : Nat} (hi : i < vals.length) : ∃ g, a = some ⟨g, 0, none⟩ ∧ w.cell? ⟨g, i, none⟩ = some vals[i] := by
  rcases h.2 with ⟨_, h0⟩ | ⟨g, cap, cur, e, _⟩
  · omega
  · simp only [Value.slice.injEq] at e
    obtain ⟨rfl, _, _⟩ := e
    have h1 := h.cells (g := g) rfl i vals[i] (List.getElem?_eq_getElem hi)
    rw [Go.Addr.add_lit, Nat.zero_add] at h1
    exact ⟨g, rfl, h1⟩

/-- What zzQuotedModel answers. -/
def MTold (w : World) (r : List UInt8 × Option (List UInt8) × Nat) (e : Ending) : Prop :=
  ∃ vt vtl bad, e = .returned (.tuple #[vt, vtl, .bool bad, .int .i64 (r.2.2 : Int)]) ∧ RowB w vt r.1 ∧ ((∃ tl, r.2.1 = some tl ∧ bad = false ∧ RowB w vtl tl) ∨ (r.2.1 = none ∧ bad = true ∧ vtl = .slice none 0 0))

set_option maxRecDepth 1000000 in
set_option maxHeartbeats 8000000 in
theorem model_any (v : Value) (L : List UInt8) (b : ByteArray) (w : World) (hr : RowB w v L) (hL : L.length ≤ 65536) (hb : b.size ≤ 65536) :
    Calls Tryd.prog 6 #[v, .string b] w fun e w' => MTold w' (rq L (bytesOf b)) e ∧ Below w.heap.size w w' := by
  obtain ⟨av, cv, rfl⟩ := hr.slice
  have HR : Hid (RowB w (.slice av L.length cv) L) := hr
  have HBN : Hid ((rq L (bytesOf b)).1.length ≤ 900000) := (rq_small hL (by rw [bytesOf_size]; exact hb)).1
  obtain ⟨n0, hn0⟩ : ∃ n0, L.length = n0 := ⟨_, rfl⟩
  rw [hn0] at HR hL ⊢
  have HN0 : Hid (L.length = n0) := hn0
  clear hr hn0
  go_enter Tryd.func6, Tryd.ntmps6
  go_wp2_with fail
  refine Calls.mono (rest_any b w hb) ?_
  rintro e w1 ⟨vs, vals, rfl, hov, hli, hb1⟩
  obtain ⟨asl, cs, rfl⟩ := own_slice22 hov
  obtain ⟨nL, hnL⟩ : ∃ nL, vals.length = nL := ⟨_, rfl⟩
  have HOV : Hid (w1.ownsRow w.heap.size 22 1 (.slice asl nL cs) vals.length vals) := by have h := hov; rw [hnL] at h ⊢; exact h
  have HLI : Hid (Lines w1 vals (linesOf (bytesOf b))) := hli
  have HB1 : Hid (Below w.heap.size w w1) := hb1
  have HNL : Hid (vals.length = nL) := hnL
  have HR1 : Hid (RowB w1 (.slice av n0 cv) L) := HR.out.below hb1 HR.out.lt
  have hnLb : nL ≤ 65536 := by rw [← hnL, hli.1]; have := (linesOf_len (bytesOf b)).1; rw [bytesOf_size] at this; omega
  rw [hnL]
  clear hov hli hb1 hnL
  go_wp2_with fail
  go_loopw [4, 5, 6, 7, 9, 10, 11, 12] (fun x4 x5 x6 x7 x9 x10 x11 x12 wr => ∃ (T Lc rem : List UInt8) (i rd nt nc : Nat) (at1 ac : Option Addr) (ct cc : Nat), x4 = .slice none 0 0 ∧ x5 = .slice none 0 0 ∧ x6 = .bool false ∧ x7 = .int .i64 0 ∧ x9 = .slice at1 nt ct ∧ x10 = .slice ac nc cc ∧ x11 = .int .i64 rd ∧ x12 = .int .i64 i ∧ i ≤ nc ∧ nc ≤ 65536 ∧ rd ≤ nL ∧
      Hid (T.length = nt) ∧ Hid (Lc.length = nc) ∧ Hid (wr.ownsRow w1.heap.size 5 1 (.slice at1 nt ct) T.length (Lib.byteCells T)) ∧ Hid (RowB w1 (.slice ac nc cc) Lc) ∧ Hid (Below w1.heap.size w1 wr) ∧ Hid ((linesOf (bytesOf b)).drop rd = linesOf rem) ∧ Hid (rq L (bytesOf b) = (T ++ (rq (Lc.drop i) rem).1, (rq (Lc.drop i) rem).2.1, rd + (rq (Lc.drop i) rem).2.2)))
    (fun _ _ _ _ _ x10 x11 x12 _ => (nL - (intOf x11).toNat) * 70000 + (sliceLen x10 - (intOf x12).toNat))
  case atStart => exact ⟨[], L, bytesOf b, 0, 0, 0, n0, none, av, 0, cv, rfl, rfl, rfl, rfl, rfl, rfl, rfl, rfl, Nat.zero_le _, hL, Nat.zero_le _, rfl, HN0, World.ownsRow_nil _ _ _ _, HR1, Below.refl _ _, by rw [List.drop_zero]; exact rfl, by rw [List.drop_zero, List.nil_append, Nat.zero_add]; exact rfl⟩
  case round =>
    obtain ⟨T, Lc, rem, i, rd, nt, nc, at1, ac, ct, cc, rfl, rfl, rfl, rfl, rfl, rfl, rfl, rfl, hi, hnc, hrd, HNT, HNC, HT, HRC, HBR, HLS, HRQ⟩ := hrel
    have hsz : w1.heap.size ≤ wr.heap.size := HBR.out.size
    have HTB : Hid (T.length ≤ 900000) := by
      have h := HBN.out
      rw [HRQ.out] at h
      rw [List.length_append] at h
      have h2 : T.length ≤ 900000 := by omega
      exact h2
    have hLL : (linesOf (bytesOf b)).length = nL := by rw [← HLI.out.1, HNL.out]
    have HLL : Hid ((linesOf (bytesOf b)).length = nL) := hLL
    clear hLL
    by_cases hlt : i < nc
    · obtain ⟨k, off, hl, rfl, hc0⟩ := HRC.out.at hlt
      have hci : wr.cell? ⟨k, off + i, none⟩ = some (.int .u8 (Lc[i].toNat : Int)) := (HBR.out.cell (p := ⟨k, off + i, none⟩) (World.block_lt_of_cell? w1 _ hc0)).trans hc0
      obtain ⟨d, hd⟩ : ∃ d, Lc[i] = d := ⟨_, rfl⟩
      rw [hd] at hci
      have HDR : Hid (Lc.drop i = d :: Lc.drop (i + 1)) := by rw [List.drop_eq_getElem_cons hl, hd]; exact rfl
      clear hc0 hd hl
      by_cases h34 : d = 34
      · have he : (((d.toNat : Nat) : Int) == 34) = true := by subst h34; rfl
        have HDR2 : Hid (Lc.drop i = 34 :: Lc.drop (i + 1)) := by rw [HDR.out, h34]; exact rfl
        clear h34
        by_cases hl2 : i + 1 < nc
        · obtain ⟨k', off', hl', e', hc1⟩ := HRC.out.at hl2
          simp only [Option.some.injEq, Addr.mk.injEq] at e'
          obtain ⟨rfl, rfl, _⟩ := e'
          have hci2 : wr.cell? ⟨k, off + (i + 1), none⟩ = some (.int .u8 (Lc[i + 1].toNat : Int)) := (HBR.out.cell (p := ⟨k, off + (i + 1), none⟩) (World.block_lt_of_cell? w1 _ hc1)).trans hc1
          obtain ⟨f, hf⟩ : ∃ f, Lc[i + 1] = f := ⟨_, rfl⟩
          rw [hf] at hci2
          have HDR3 : Hid (Lc.drop i = 34 :: f :: Lc.drop (i + 2)) := by rw [HDR2.out, List.drop_eq_getElem_cons hl', hf]; exact rfl
          have hli1 : ((i : Int) + 1 < (nc : Int)) := by omega
          have hne1 : (((i : Int) + 1) == (nc : Int)) = false := by rw [beq_eq_false_iff_ne]; omega
          clear hc1 hf hl'
          by_cases hf34 : f = 34
          · have hef : (((f.toNat : Nat) : Int) == 34) = true := by subst hf34; rfl
            have HRQ2 : Hid (rq L (bytesOf b) = ((T ++ [34]) ++ (rq (Lc.drop (i + 2)) rem).1, (rq (Lc.drop (i + 2)) rem).2.1, rd + (rq (Lc.drop (i + 2)) rem).2.2)) := by
              rw [HRQ.out, HDR3.out, hf34, rq_two]
              simp
              exact trivial
            clear hf34
            go_wp2_with (at_builtin; refine wpList_append_row rfl _ _ rfl w1.heap.size T.length (.slice at1 nt ct) (.slice (some ⟨wr.heap.size, 0, none⟩) 1 1) (Lib.byteCells T) [34] rfl rfl (HT.out.alloc _) (row_new wr 34) (by have := HTB.out; show _ + 1 ≤ _; omega) (Nat.le_trans hsz (by simp)) ?_; intro v2 w2 ho2 hg2 hv2; rw [← Lib.byteCells_append, ← List.length_append] at ho2; obtain ⟨a2, c2, hv2'⟩ := own_slice ho2; obtain ⟨N2, hN2⟩ : ∃ N2, (T ++ [34]).length = N2 := ⟨_, rfl⟩; rw [hN2] at hv2'; subst hv2'; have HT2 : Hid (w2.ownsRow w1.heap.size 5 1 (.slice a2 N2 c2) (T ++ [34]).length (Lib.byteCells (T ++ [34]))) := ho2; have HN2 : Hid ((T ++ [34]).length = N2) := hN2; have HB2 : Hid (Below w1.heap.size w1 w2) := (HBR.out.alloc hsz _).grown hg2 (Nat.le_trans hsz (by simp)) (fun k e => (HT.out.lt k e).1); skip; clear ho2 hg2 hv2 hN2)
            go_roundw
            case rel => exact ⟨T ++ [34], Lc, rem, i + 2, rd, N2, nc, a2, some ⟨k, off, none⟩, c2, cc, rfl, rfl, rfl, rfl, rfl, rfl, rfl, by go_num, by omega, hnc, hrd, HN2, HNC, HT2, HRC, HB2, HLS, HRQ2⟩
            case measure => simp [intOf, sliceLen]; omega
          · have hef : (((f.toNat : Nat) : Int) == 34) = false := by
              rw [beq_eq_false_iff_ne]; intro e; exact hf34 (UInt8.toNat_inj.1 (by simp; omega))
            by_cases hf44 : f = 44
            · have hef4 : (((f.toNat : Nat) : Int) == 44) = true := by subst hf44; rfl
              have HRQ2 : Hid (rq L (bytesOf b) = (T, some (Lc.drop (i + 1)), rd)) := by
                rw [HRQ.out, HDR3.out, hf44, rq_comma]
                have h := HDR2.out
                rw [HDR3.out, hf44] at h
                rw [← (List.cons.inj h).2]
                simp
                exact trivial
              clear hf34 hf44
              go_wp2_with fail
              have HRWR : Hid (RowB wr (.slice (some ⟨k, off, none⟩) nc cc) Lc) := HRC.out.below HBR.out HRC.out.lt
              have hcc : nc ≤ cc := by
                rcases HRC.out with ⟨h, _⟩ | ⟨b', off', c', h1, h2, _⟩
                · cases h
                · simp only [Value.slice.injEq] at h1
                  omega
              obtain ⟨off3, hif, hrow3⟩ := row_from HRWR.out (i + 1) (by omega)
              obtain ⟨m, hm⟩ : ∃ m, nc - (i + 1) = m := ⟨_, rfl⟩
              obtain ⟨dd, hdd⟩ : ∃ dd, cc - (i + 1) = dd := ⟨_, rfl⟩
              rw [hm, hdd] at hrow3
              have HR3 : Hid (RowB wr (.slice (some ⟨k, off3, none⟩) m dd) (Lc.drop (i + 1))) := hrow3
              have htn : ((i : Int) + 1).toNat = i + 1 := by omega
              have hi2 : (i : Int) + 1 ≤ (nc : Int) := by omega
              clear hrow3
              go_quiet (fail)
              go_wp2_with fail
              refine bodyPost_ret (v := .tuple #[.slice at1 nt ct, .slice (some ⟨k, off3, none⟩) m dd, .bool false, .int .i64 rd]) (by simp [results, Tryd.results6, go_sem]) rfl ⟨?_, ((HB1.out.trans (HBR.out.mono HB1.out.size))).grown (grown_drewN wr nq) (Nat.le_trans HB1.out.size hsz) (fun k e => by cases e)⟩
              rw [HRQ2.out]
              exact ⟨_, _, false, rfl, (row_own HT.out).drewN nq, .inl ⟨_, rfl, rfl, HR3.out.drewN nq⟩⟩
            · have hef4 : (((f.toNat : Nat) : Int) == 44) = false := by
                rw [beq_eq_false_iff_ne]; intro e; exact hf44 (UInt8.toNat_inj.1 (by simp; omega))
              have HRQ2 : Hid (rq L (bytesOf b) = (T, none, rd)) := by
                rw [HRQ.out, HDR3.out, rq_bad hf34 hf44]
                simp
                exact trivial
              clear hf34 hf44
              go_wp2_with fail
              refine bodyPost_ret (v := .tuple #[.slice at1 nt ct, .slice none 0 0, .bool true, .int .i64 rd]) (by simp [results, Tryd.results6, go_sem]) rfl ⟨?_, HB1.out.trans (HBR.out.mono HB1.out.size)⟩
              rw [HRQ2.out]
              exact ⟨_, _, true, rfl, row_own HT.out, .inr ⟨rfl, rfl, rfl⟩⟩
        · have hend : i + 1 = nc := by omega
          have hli1 : ¬ ((i : Int) + 1 < (nc : Int)) := by omega
          have hne1 : (((i : Int) + 1) == (nc : Int)) = true := by rw [beq_iff_eq]; omega
          have hdl : decide ((i : Int) + 1 < (nc : Int)) = false := decide_eq_false hli1
          have HRQ2 : Hid (rq L (bytesOf b) = (T, some (Lc.drop (i + 1)), rd)) := by
            have h : Lc.drop (i + 1) = [] := List.drop_eq_nil_of_le (by rw [HNC.out]; omega)
            rw [HRQ.out, HDR2.out, h, rq_shut]
            simp
            exact trivial
          clear hend hl2
          go_wp2_with fail
          clear hli1 hne1 hdl
          have HRWR : Hid (RowB wr (.slice (some ⟨k, off, none⟩) nc cc) Lc) := HRC.out.below HBR.out HRC.out.lt
          have hcc : nc ≤ cc := by
            rcases HRC.out with ⟨h, _⟩ | ⟨b', off', c', h1, h2, _⟩
            · cases h
            · simp only [Value.slice.injEq] at h1
              omega
          obtain ⟨off3, hif, hrow3⟩ := row_from HRWR.out (i + 1) (by omega)
          obtain ⟨m, hm⟩ : ∃ m, nc - (i + 1) = m := ⟨_, rfl⟩
          obtain ⟨dd, hdd⟩ : ∃ dd, cc - (i + 1) = dd := ⟨_, rfl⟩
          rw [hm, hdd] at hrow3
          have HR3 : Hid (RowB wr (.slice (some ⟨k, off3, none⟩) m dd) (Lc.drop (i + 1))) := hrow3
          have htn : ((i : Int) + 1).toNat = i + 1 := by omega
          have hi2 : (i : Int) + 1 ≤ (nc : Int) := by omega
          clear hrow3
          go_quiet (fail)
          go_wp2_with fail
          refine bodyPost_ret (v := .tuple #[.slice at1 nt ct, .slice (some ⟨k, off3, none⟩) m dd, .bool false, .int .i64 rd]) (by simp [results, Tryd.results6, go_sem]) rfl ⟨?_, ((HB1.out.trans (HBR.out.mono HB1.out.size))).grown (grown_drewN wr nq) (Nat.le_trans HB1.out.size hsz) (fun k e => by cases e)⟩
          rw [HRQ2.out]
          exact ⟨_, _, false, rfl, (row_own HT.out).drewN nq, .inl ⟨_, rfl, rfl, HR3.out.drewN nq⟩⟩
      · have he : (((d.toNat : Nat) : Int) == 34) = false := by
          rw [beq_eq_false_iff_ne]; intro e; exact h34 (UInt8.toNat_inj.1 (by simp; omega))
        have HRQ2 : Hid (rq L (bytesOf b) = ((T ++ [d]) ++ (rq (Lc.drop (i + 1)) rem).1, (rq (Lc.drop (i + 1)) rem).2.1, rd + (rq (Lc.drop (i + 1)) rem).2.2)) := by
          rw [HRQ.out, HDR.out, rq_byte h34]
          simp
          exact trivial
        clear h34
        go_wp2_with (at_builtin; refine wpList_append_row rfl _ _ rfl w1.heap.size T.length (.slice at1 nt ct) (.slice (some ⟨wr.heap.size, 0, none⟩) 1 1) (Lib.byteCells T) [d] rfl rfl (HT.out.alloc _) (row_new wr d) (by have := HTB.out; show _ + 1 ≤ _; omega) (Nat.le_trans hsz (by simp)) ?_; intro v2 w2 ho2 hg2 hv2; rw [← Lib.byteCells_append, ← List.length_append] at ho2; obtain ⟨a2, c2, hv2'⟩ := own_slice ho2; obtain ⟨N2, hN2⟩ : ∃ N2, (T ++ [d]).length = N2 := ⟨_, rfl⟩; rw [hN2] at hv2'; subst hv2'; have HT2 : Hid (w2.ownsRow w1.heap.size 5 1 (.slice a2 N2 c2) (T ++ [d]).length (Lib.byteCells (T ++ [d]))) := ho2; have HN2 : Hid ((T ++ [d]).length = N2) := hN2; have HB2 : Hid (Below w1.heap.size w1 w2) := (HBR.out.alloc hsz _).grown hg2 (Nat.le_trans hsz (by simp)) (fun k e => (HT.out.lt k e).1); skip; clear ho2 hg2 hv2 hN2)
        go_roundw
        case rel => exact ⟨T ++ [d], Lc, rem, i + 1, rd, N2, nc, a2, some ⟨k, off, none⟩, c2, cc, rfl, rfl, rfl, rfl, rfl, rfl, rfl, by go_num, by omega, hnc, hrd, HN2, HNC, HT2, HRC, HB2, HLS, HRQ2⟩
        case measure => simp [intOf, sliceLen]; omega
    · obtain rfl : nc = i := by omega
      have HDN : Hid (Lc.drop nc = []) := List.drop_eq_nil_of_le (by rw [HNC.out]; exact Nat.le_refl _)
      by_cases hrn : rd = nL
      · have hrem : rem = [] := by
          by_cases h0 : rem = []
          · exact h0
          · have h := congrArg List.length HLS.out
            rw [List.length_drop, HLL.out, linesOf_more h0, List.length_cons] at h
            omega
        have HRQ2 : Hid (rq L (bytesOf b) = (T ++ [10], none, rd)) := by
          rw [HRQ.out, HDN.out, hrem, rq_over]
          simp
          exact trivial
        subst hrn
        clear hrem
        go_wp2_with (at_builtin; refine wpList_append_row rfl _ _ rfl w1.heap.size T.length (.slice at1 nt ct) (.slice (some ⟨wr.heap.size, 0, none⟩) 1 1) (Lib.byteCells T) [10] rfl rfl (HT.out.alloc _) (row_new wr 10) (by have := HTB.out; show _ + 1 ≤ _; omega) (Nat.le_trans hsz (by simp)) ?_; intro v2 w2 ho2 hg2 hv2; rw [← Lib.byteCells_append, ← List.length_append] at ho2; obtain ⟨a2, c2, hv2'⟩ := own_slice ho2; obtain ⟨N2, hN2⟩ : ∃ N2, (T ++ [10]).length = N2 := ⟨_, rfl⟩; rw [hN2] at hv2'; subst hv2'; have HT2 : Hid (w2.ownsRow w1.heap.size 5 1 (.slice a2 N2 c2) (T ++ [10]).length (Lib.byteCells (T ++ [10]))) := ho2; have HN2 : Hid ((T ++ [10]).length = N2) := hN2; have HB2 : Hid (Below w1.heap.size w1 w2) := (HBR.out.alloc hsz _).grown hg2 (Nat.le_trans hsz (by simp)) (fun k e => (HT.out.lt k e).1); skip; clear ho2 hg2 hv2 hN2)
        refine bodyPost_ret (v := .tuple #[.slice a2 N2 c2, .slice none 0 0, .bool true, .int .i64 rd]) (by simp [results, Tryd.results6, go_sem]) rfl ⟨?_, HB1.out.trans (HB2.out.mono HB1.out.size)⟩
        rw [HRQ2.out]
        exact ⟨_, _, true, rfl, row_own HT2.out, .inr ⟨rfl, rfl, rfl⟩⟩
      · have hrd2 : rd < nL := by omega
        have hrem : rem ≠ [] := by
          rintro rfl
          have h := congrArg List.length HLS.out
          rw [List.length_drop, HLL.out, linesOf_nil, List.length_nil] at h
          omega
        have HRQ2 : Hid (rq L (bytesOf b) = ((T ++ [10]) ++ (rq (dropEnd 13 (lineOf rem)) (restOf rem)).1, (rq (dropEnd 13 (lineOf rem)) (restOf rem)).2.1, rd + 1 + (rq (dropEnd 13 (lineOf rem)) (restOf rem)).2.2)) := by
          have h : rq L (bytesOf b) = ((T ++ [10]) ++ (rq (dropEnd 13 (lineOf rem)) (restOf rem)).1, (rq (dropEnd 13 (lineOf rem)) (restOf rem)).2.1, rd + 1 + (rq (dropEnd 13 (lineOf rem)) (restOf rem)).2.2) := by
            rw [HRQ.out, HDN.out, rq_next hrem]
            simp
            omega
          exact h
        have hv1 : rd < vals.length := by rw [HNL.out]; exact hrd2
        have hv2 : rd < (linesOf (bytesOf b)).length := by rw [HLL.out]; exact hrd2
        have HRX0 := HLI.out.2 rd hv1 hv2
        have hnx : (linesOf (bytesOf b))[rd] = dropEnd 13 (lineOf rem) ∧ (linesOf (bytesOf b)).drop (rd + 1) = linesOf (restOf rem) := by
          have h := HLS.out
          rw [List.drop_eq_getElem_cons hv2, linesOf_more hrem] at h
          exact List.cons.inj h
        have HNXL : Hid ((dropEnd 13 (lineOf rem)).length ≤ 65536) := by
          have h := (linesOf_len (bytesOf b)).2 _ (List.getElem_mem hv2)
          rw [hnx.1, bytesOf_size] at h
          exact Nat.le_trans h hb
        rw [hnx.1] at HRX0
        have HLS2 : Hid _ := hnx.2
        obtain ⟨g, rfl, hgc⟩ := lines_cell HOV.out hv1
        obtain ⟨vx, hvx⟩ : ∃ vx, vals[rd] = vx := ⟨_, rfl⟩
        rw [hvx] at HRX0 hgc
        obtain ⟨ax, cx, rfl⟩ := HRX0.slice
        obtain ⟨nx, hnxx⟩ : ∃ nx, (dropEnd 13 (lineOf rem)).length = nx := ⟨_, rfl⟩
        rw [hnxx] at HRX0 hgc
        have HRX : Hid (RowB w1 (.slice ax nx cx) (dropEnd 13 (lineOf rem))) := HRX0
        have HNX : Hid ((dropEnd 13 (lineOf rem)).length = nx) := hnxx
        have hnxb : nx ≤ 65536 := by rw [← hnxx]; exact HNXL.out
        have HGC : Hid (w1.cell? ⟨g, rd, none⟩ = some (.slice ax nx cx)) := hgc
        have hneq : ((rd : Int) == (nL : Int)) = false := by rw [beq_eq_false_iff_ne]; omega
        have hri : (rd : Int) < (nL : Int) := by omega
        clear HRX0 hnx hvx hnxx hgc hv1 hv2 hrem
        go_wp2_with (at_builtin; refine wpList_append_row rfl _ _ rfl w1.heap.size T.length (.slice at1 nt ct) (.slice (some ⟨wr.heap.size, 0, none⟩) 1 1) (Lib.byteCells T) [10] rfl rfl (HT.out.alloc _) (row_new wr 10) (by have := HTB.out; show _ + 1 ≤ _; omega) (Nat.le_trans hsz (by simp)) ?_; intro v2 w2 ho2 hg2 hv2; rw [← Lib.byteCells_append, ← List.length_append] at ho2; obtain ⟨a2, c2, hv2'⟩ := own_slice ho2; obtain ⟨N2, hN2⟩ : ∃ N2, (T ++ [10]).length = N2 := ⟨_, rfl⟩; rw [hN2] at hv2'; subst hv2'; have HT2 : Hid (w2.ownsRow w1.heap.size 5 1 (.slice a2 N2 c2) (T ++ [10]).length (Lib.byteCells (T ++ [10]))) := ho2; have HN2 : Hid ((T ++ [10]).length = N2) := hN2; have HB2 : Hid (Below w1.heap.size w1 w2) := (HBR.out.alloc hsz _).grown hg2 (Nat.le_trans hsz (by simp)) (fun k e => (HT.out.lt k e).1); have hgc2 : w2.cell? ⟨g, rd, none⟩ = some (.slice ax nx cx) := (HB2.out.cell (p := ⟨g, rd, none⟩) (World.block_lt_of_cell? w1 _ HGC.out)).trans HGC.out; clear ho2 hg2 hv2 hN2)
        go_roundw
        case rel => exact ⟨T ++ [10], dropEnd 13 (lineOf rem), restOf rem, 0, rd + 1, N2, nx, a2, ax, c2, cx, rfl, rfl, rfl, rfl, rfl, rfl, by go_num, rfl, Nat.zero_le _, hnxb, by omega, HN2, HNX, HT2, HRX, HB2, HLS2, by rw [List.drop_zero]; exact HRQ2.out⟩
        case measure => simp [intOf, sliceLen]; omega

set_option maxHeartbeats 2000000 in
theorem zb5_any (a : Option Addr) (n cap : Nat) (b : ByteArray) (st : Int) (w : World) (hn : n ≤ maxLen) (hb : b.size ≤ maxLen) :
    Calls Tryd.prog 5 #[.slice a n cap, .string b, .int .i64 st] w fun e w' => (∃ x, e = .returned (.bool x)) ∧ w = w' := by
  unfold maxLen at hn hb
  go_enter Tryd.func5, Tryd.ntmps5
  go_wp2
  all_goals
    go_ret
    exact ⟨⟨_, rfl⟩, rfl⟩

theorem Eqv.call {w : World} {x y : Value} (h : Eqv w x y) : Calls Tryd.prog 12 #[x, y] w fun e w' => e = .returned (.bool true) ∧ ∃ k, w.drewN k = w' := by
  obtain ⟨l, h1, h2, h3⟩ := h.out
  refine (same_any x y l l w h1 h2 h3 h3).mono ?_
  rintro e w' ⟨rfl, q, hq⟩
  exact ⟨by simp, q, hq⟩

end Go.Proofs.Qxb6613468aDoor
