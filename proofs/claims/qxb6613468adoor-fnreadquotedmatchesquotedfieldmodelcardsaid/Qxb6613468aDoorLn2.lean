/-
  (*csvReader).readLine (21), whole.
-/
import Derived.Test.Qxb6613468aDoorLn
namespace Go.Proofs.Qxb6613468aDoor
open Go.RowKit

/-- A new row of one byte. -/
theorem in_new (w : World) (c : UInt8) : In (w.alloc (.cells #[.int .u8 (c.toNat : Int)] 5)) w.heap.size 0 [c] :=
  ⟨#[.int .u8 (c.toNat : Int)], _, heap_alloc_new w _, fun i hi => by
    have : i = 0 := by simp at hi; omega
    subst this; rfl⟩
theorem dropEnd_len (c : UInt8) (l : List UInt8) : (dropEnd c l).length ≤ l.length := by
  unfold dropEnd
  split
  · rw [List.length_dropLast]; omega
  · exact Nat.le_refl _
theorem dropEnd_no {c : UInt8} {l : List UInt8} (h : c ∉ l) : dropEnd c l = l := by
  unfold dropEnd
  rw [if_neg]
  intro e
  exact h (List.mem_of_getLast? e)

theorem own_cut {w : World} {B lg lm lc : Nat} {n : Nat} {xs : List Value} (h : w.ownsRow B 5 1 (.slice (some ⟨lg, 0, none⟩) lm lc) n xs) : w.ownsRow B 5 1 (.slice (some ⟨lg, 0, none⟩) 0 lc) 0 [] := by
  rcases h.2 with ⟨h, _⟩ | ⟨g, cap, cur, h1, h2, h3, h4, h5, h6, _⟩
  · cases h
  · simp only [Value.slice.injEq, Option.some.injEq, Addr.mk.injEq] at h1
    obtain ⟨⟨rfl, _, _⟩, _, rfl⟩ := h1
    exact ⟨rfl, .inr ⟨lg, lc, cur, rfl, h2, h3, Nat.zero_le _, h5, h6, by simp⟩⟩
theorem own_form {w : World} {B n : Nat} {v : Value} {xs : List Value} (h : w.ownsRow B 5 1 v n xs) : v = .slice none 0 0 ∨ ∃ g m c, v = .slice (some ⟨g, 0, none⟩) m c := by
  rcases h.2 with ⟨rfl, _⟩ | ⟨g, cap, cur, rfl, _⟩
  · exact .inl rfl
  · exact .inr ⟨g, _, _, rfl⟩
theorem own_slice {w : World} {B n : Nat} {v : Value} {xs : List Value} (h : w.ownsRow B 5 1 v n xs) : ∃ a c, v = .slice a n c := by
  rcases h.2 with ⟨rfl, rfl⟩ | ⟨g, cap, cur, rfl, _⟩
  · exact ⟨_, _, rfl⟩
  · exact ⟨_, _, rfl⟩
/-- A row of the call's own, read as a slice of bytes. -/
theorem row_own {w : World} {B : Nat} {v : Value} {l : List UInt8} (h : w.ownsRow B 5 1 v l.length (Lib.byteCells l)) : RowB w v l := by
  rcases h.2 with ⟨rfl, h0⟩ | ⟨g, cap, cur, rfl, _, h3, h4, _, h6, h7⟩
  · exact .inl ⟨rfl, List.eq_nil_of_length_eq_zero h0⟩
  · refine .inr ⟨g, 0, cap, rfl, h4, cur, _, h3, fun i hi => ?_⟩
    have h8 := congrArg (fun z => z[i]?) h7
    simp only [Nat.mul_one] at h8
    rw [List.getElem?_take_of_lt hi] at h8
    rw [Nat.zero_add, ← Array.getElem?_toList, h8]
    simp [Lib.byteCells, hi]

/-- How many bytes are still to come. -/
def remN (bb sb : Nat) (w : World) : Nat := (match w.heap[bb]? with
  | some (.cells cs _ _) => (intOf (cs[3]?.getD undef)).toNat - (intOf (cs[2]?.getD undef)).toNat
  | _ => 0) + (match w.heap[sb]? with
  | some (.cells cs _ _) => (match cs[0]?.getD undef with | .string s => s.size | _ => 0) - (intOf (cs[1]?.getD undef)).toNat
  | _ => 0)
theorem CR.remN {w : World} {B cb bb sb rb : Nat} {s : ByteArray} {ln st : Int} {text rem : List UInt8} {vt vl : Value} (h : CR w B cb bb sb rb s ln st text rem vt vl) : Qxb6613468aDoor.remN bb sb w = rem.length := by
  obtain ⟨r, q, i, l, hbr, hrem⟩ := h.br
  obtain ⟨x, y, hb⟩ := hbr.hb
  obtain ⟨z, hz⟩ := hbr.hs
  unfold Qxb6613468aDoor.remN
  rw [hb, hz, ← hrem]
  unfold remB
  rw [List.length_append, List.length_take, List.length_drop, List.length_drop, bytesOf_size, hbr.hl]
  simp [cellsB, intOf]
  have := hbr.hq
  omega
/-- 1 at the sentinel a. -/
def fullN (a : Addr) : Value → Nat
  | .iface 70 (.pointer (some b)) => if b = a then 1 else 0
  | _ => 0

set_option maxRecDepth 1000000 in
set_option maxHeartbeats 4000000 in
theorem line_any (w : World) (B cb bb sb rb : Nat) (s : ByteArray) (ln st : Int) (text rem : List UInt8) (vt vl : Value) (a0 a1 a2 : Addr) (h : CR w B cb bb sb rb s ln st text rem vt vl) (hS : Sen w B a0 a1 a2) (hB : B ≤ w.heap.size) (hln : 0 ≤ ln ∧ ln ≤ 1000000000) (hrl : rem.length ≤ 1048576) :
    Calls Tryd.prog 21 #[.pointer (some ⟨cb, 0, none⟩)] w fun e w' => Below B w w' ∧ ((rem = [] ∧ e = .returned (.tuple #[.slice none 0 0, I a1]) ∧ ∃ vl', CR w' B cb bb sb rb s ln st text [] vt vl') ∨
      (rem ≠ [] ∧ ∃ v vl', e = .returned (.tuple #[v, .nilIface]) ∧ RowB w' v (dropEnd 13 (lineOf rem)) ∧ (∀ k, blockOf v = some k → vt.ownBlock ≠ some k ∧ k ≠ cb) ∧ CR w' B cb bb sb rb s (ln + 1) st text (restOf rem) vt vl')) := by
  have HC : Hid (CR w B cb bb sb rb s ln st text rem vt vl) := h
  have HS : Hid (Sen w B a0 a1 a2) := hS
  have kc0 : w.cell? ⟨cb, 0, none⟩ = some (.pointer (some ⟨bb, 0, none⟩)) := by rw [cell_of_row w cb 0 _ _ _ h.hc]; rfl
  have HRL : Hid (rem.length ≤ 1048576) := hrl
  clear hrl
  obtain ⟨hln0, hln1⟩ := hln
  clear h hS
  go_enter Tryd.func21, Tryd.ntmps21
  go_wp2_with fail
  refine Calls.mono (slice_cr HC.out HS.out hB) ?_
  rintro e w1 ⟨v, E, x, rem1, rfl, hrow, hbk, hcut, hcr, hbel, hsen, hon⟩
  have HSUM : Hid (rem = x ++ rem1) := hcut.1
  have HVB : Hid (∀ k, blockOf v = some k → vt.ownBlock ≠ some k ∧ k ≠ cb) := by
    intro k e
    obtain rfl : rb = k := Option.some.inj (hbk.symm.trans e)
    exact ⟨hcr.ntr, fun e => hcr.ncb.2.2.2 e.symm⟩
  have HTO : Hid (Told (I a1) (I a2) rem x E rem1) := told_first hcut
  have HCR : Hid (CR w1 B cb bb sb rb s ln st text rem1 vt vl) := hcr
  have HBW : Hid (Below B w w1) := hbel
  have HSE : Hid (Sen w1 B a0 a1 a2) := hsen
  have g2 : w1.cell? ⟨2, 0, none⟩ = some (I a2) := HSE.out.g2
  have sm2 := eq_same a2 w1
  have nl2 := eq_nil a2 w1
  have ot2 : (binOp .eql 29 (I a1) (I a2)).run Tryd.prog w1 = .ok (.bool false) w1 := eq_other HSE.out.n12 HSE.out.h1 HSE.out.h2
  obtain ⟨av, cv, rfl⟩ := hrow.slice
  obtain ⟨n, hLL⟩ : ∃ n, x.length = n := ⟨_, rfl⟩
  rw [hLL] at hrow hbk HVB ⊢
  have HRV : Hid (RowB w1 (.slice av n cv) x) := hrow
  have HBK : Hid (blockOf (.slice av n cv) = some rb) := hbk
  have hLn : x.length ≤ 1048576 := by have := HRL.out; rw [HSUM.out, List.length_append] at this; omega
  have HNL : Hid (x.length = n) := hLL
  clear hrow hbk hcut hcr hbel hsen hon kc0
  rcases HTO.out with ⟨hE, l0, hll, hno, hlo, hre⟩ | ⟨hE, hno, hlo, hre⟩ | ⟨hE, hno, hlo, hre, hr1, hr0⟩
  · subst hE
    have hszB : B ≤ w1.heap.size := Nat.le_trans hB HBW.out.size
    have HDE : Hid (dropEnd 10 x = lineOf rem) := by rw [hll, dropEnd_snoc, if_pos rfl]; exact hlo.symm
    have HRE : Hid (rem1 = restOf rem) := hre.symm
    have HNE : Hid (rem ≠ []) := fun e => by rw [HSUM.out, hll] at e; simp at e
    clear hll hno hlo hre
    have nl := eq_nil a1 w1
    have sm := eq_same a1 w1
    have ns := neq_same a1 w1
    have g1 : w1.cell? ⟨1, 0, none⟩ = some (I a1) := HSE.out.g1
    have kc1 : w1.cell? ⟨cb, 1, none⟩ = some (.int .i64 ln) := by rw [cell_of_row w1 cb 1 _ _ _ HCR.out.hc]; rfl
    have fc1 : w1.frozen? ⟨cb, 1, none⟩ = false := free_of_row HCR.out.hc
    go_wp2_with fail
    obtain ⟨hc1, hb1, ho1⟩ := HCR.out.line (ln + 1) hszB
    obtain ⟨W1, hW1⟩ : ∃ W1, w1.setCell ⟨cb, 1, none⟩ (.int .i64 (ln + 1)) = W1 := ⟨_, rfl⟩
    rw [hW1] at hc1 hb1 ho1 ⊢
    have hs1 : W1.heap.size = w1.heap.size := by rw [← hW1]; simp
    have HC1 : Hid (CR W1 B cb bb sb rb s (ln + 1) st text rem1 vt vl) := hc1
    have HB1 : Hid (Below B w W1) := HBW.out.trans hb1
    have hr1 : RowB (W1.alloc (.cells #[.int .u8 10] 5)) (.slice av n cv) x := (HRV.out.only ho1 (fun b e => (HVB.out b e).2)).only ((Only.refl (fun _ => False) W1).alloc _) (fun _ _ => id)
    have hi1 : In (W1.alloc (.cells #[.int .u8 10] 5)) w1.heap.size 0 [10] := by rw [← hs1]; exact in_new W1 10
    clear hc1 hb1 ho1 hW1
    refine Calls.mono (trim_any _ x 10 w1.heap.size _ hr1 hi1 hLn) ?_
    rintro e w2 ⟨v1, rfl, hr2, hb2, rfl⟩
    clear hr1 hi1
    obtain ⟨av1, cv1, rfl⟩ := hr2.slice
    obtain ⟨n1, hn1⟩ : ∃ n1, (dropEnd 10 x).length = n1 := ⟨_, rfl⟩
    rw [hn1] at hr2 hb2 ⊢
    have hl2 : (dropEnd 10 x).length ≤ 1048576 := Nat.le_trans (dropEnd_len _ _) hLn
    have hr3 : RowB ((W1.alloc (.cells #[.int .u8 10] 5)).alloc (.cells #[.int .u8 13] 5)) (.slice av1 n1 cv1) (dropEnd 10 x) := hr2.only ((Only.refl (fun _ => False) _).alloc _) (fun _ _ => id)
    have hi3 : In ((W1.alloc (.cells #[.int .u8 10] 5)).alloc (.cells #[.int .u8 13] 5)) (w1.heap.size + 1) 0 [13] := by
      have h := in_new (W1.alloc (.cells #[.int .u8 10] 5)) 13
      rw [show (W1.alloc (.cells #[.int .u8 10] 5)).heap.size = w1.heap.size + 1 from by simp [hs1]] at h
      exact h
    have HB2 : Hid (blockOf (.slice av1 n1 cv1) = blockOf (.slice av n cv)) := hb2
    clear hr2 hb2 hn1
    go_wp2_with fail
    refine Calls.mono (trim_any _ (dropEnd 10 x) 13 (w1.heap.size + 1) _ hr3 hi3 hl2) ?_
    rintro e w3 ⟨v2, rfl, hr4, hb4, rfl⟩
    have HR4 : Hid (RowB ((W1.alloc (.cells #[.int .u8 10] 5)).alloc (.cells #[.int .u8 13] 5)) v2 (dropEnd 13 (dropEnd 10 x))) := hr4
    have HB4 : Hid (blockOf v2 = blockOf (.slice av1 n1 cv1)) := hb4
    clear hr3 hi3 hr4 hb4
    go_wp2_with fail
    have hz1 : B ≤ W1.heap.size := by rw [hs1]; exact hszB
    refine bodyPost_ret (v := .tuple #[v2, .nilIface]) (by simp [results, Tryd.results21, go_sem]) rfl ⟨(HB1.out.alloc hz1 _).alloc (by simp; omega) _, .inr ⟨HNE.out, v2, vl, rfl, ?_, fun k e => HVB.out k (by rw [← HB2.out, ← HB4.out]; exact e), ?_⟩⟩
    · rw [← HDE.out]; exact HR4.out
    · have h0 := HC1.out.only (((Only.refl (fun _ => False) W1).alloc (.cells #[.int .u8 10] 5)).alloc (.cells #[.int .u8 13] 5)) id id id id (fun _ _ => id) (fun _ _ => id)
      rw [HRE.out] at h0
      exact h0
  · subst hE
    have hlg0 := HCR.out.lg
    obtain ⟨ll0, hll0⟩ := hlg0
    rcases own_form hll0 with rfl | ⟨lg, lm, lc, rfl⟩
    · have HN2 : Hid ((10 : UInt8) ∉ x ∧ lineOf rem = x ++ lineOf rem1 ∧ restOf rem = restOf rem1) := ⟨hno, hlo, hre⟩
      clear hno hlo hre hLL
      have HV0 : Hid (w1.ownsRow B 5 1 (.slice none 0 0) 0 []) := World.ownsRow_nil _ _ _ _
      have hszB : B ≤ w1.heap.size := Nat.le_trans hB HBW.out.size
      have kc6 : w1.cell? ⟨cb, 6, none⟩ = some (.slice none 0 0) := by rw [cell_of_row w1 cb 6 _ _ _ HCR.out.hc]; rfl
      clear hll0
      go_wp2_with (at_builtin; refine wpList_append_row rfl _ _ rfl B 0 (.slice none 0 0) (.slice av n cv) [] x rfl rfl HV0.out HRV.out (by omega) hszB ?_; intro v' w2 ho2 hg2 hv2; rw [Nat.zero_add, List.nil_append] at ho2; obtain ⟨a', c', rfl⟩ := own_slice ho2; have HLG : Hid _ := HCR.out.long (ll := x) ho2 hg2 hv2 hszB; have hon2 : Only (fun k => Value.ownBlock (.slice none 0 0) = some k) w1 w2 := (Only.refl _ w1).grown hg2 (fun k e => e); have kc2 : w2.cell? ⟨cb, 6, none⟩ = some (.slice none 0 0) := hon2.cell kc6 (fun e => (HCR.out.rowApart.2 cb e).1 rfl); have fc2 : w2.frozen? ⟨cb, 6, none⟩ = false := free_of_row (hon2.heap HCR.out.hc (fun e => (HCR.out.rowApart.2 cb e).1 rfl)); clear ho2 hg2 hv2 hon2)
      obtain ⟨w3, hw3⟩ : ∃ w3, w2.setCell ⟨cb, 6, none⟩ (.slice a' x.length c') = w3 := ⟨_, rfl⟩
      rw [hw3] at HLG ⊢
      have HB3 : Hid (Below B w w3) := HBW.out.trans HLG.out.2.1
      have HS3 : Hid (Sen w3 B a0 a1 a2) := HSE.out.below HLG.out.2.1
      have HLG3 : Hid _ := HLG.out
      clear hw3 kc6 kc2 fc2 g2 sm2 nl2 ot2 HV0 HLG
      go_loopw [4, 5] (fun x4 x5 wr => ∃ (E : Value) (ll rem2 : List UInt8) (vl2 : Value), x5 = E ∧ Hid (CR wr B cb bb sb rb s ln st text rem2 vt vl2) ∧ Hid (wr.ownsRow B 5 1 vl2 ll.length (Lib.byteCells ll)) ∧ Hid (Told (I a1) (I a2) rem ll E rem2) ∧ Hid (rem = ll ++ rem2) ∧ Hid (Below B w wr) ∧ Hid (Sen wr B a0 a1 a2)) (fun _ x5 wr => remN bb sb wr + fullN a2 x5)
      case atStart => exact ⟨I a2, x, rem1, _, rfl, HLG3.out.1, HLG3.out.2.2, HTO, HSUM, HB3, HS3⟩
      case round =>
        obtain ⟨E, ll, rem2, vl2, rfl, HC4, HO4, HT4, HS4, HB4, HE4⟩ := hrel
        clear HLG3 HB3 HS3 HCR HRV HVB HSUM HTO HBW HSE HBK HNL hLn
        have HCR := HC4
        have HSUM := HS4
        have HBW := HB4
        have HSE := HE4
        clear HC4 HS4 HB4 HE4
        have g2 : wr.cell? ⟨2, 0, none⟩ = some (I a2) := HSE.out.g2
        have sm2 := eq_same a2 wr
        have nl2 := eq_nil a2 wr
        have ot2 : (binOp .eql 29 (I a1) (I a2)).run Tryd.prog wr = .ok (.bool false) wr := eq_other HSE.out.n12 HSE.out.h1 HSE.out.h2
        obtain ⟨av, cv, hvl⟩ := own_slice HO4.out
        obtain ⟨n, hLL⟩ : ∃ n, ll.length = n := ⟨_, rfl⟩
        rw [hLL] at hvl
        subst hvl
        have hLn : ll.length ≤ 1048576 := by have := HRL.out; rw [HSUM.out, List.length_append] at this; omega
        have hszB : B ≤ wr.heap.size := Nat.le_trans hB HBW.out.size
        have kc6 : wr.cell? ⟨cb, 6, none⟩ = some (.slice av n cv) := by rw [cell_of_row wr cb 6 _ _ _ HCR.out.hc]; rfl
        have HRV : Hid (RowB wr (.slice av n cv) ll) := row_own HO4.out
        have HVB : Hid (∀ k, blockOf (.slice av n cv) = some k → vt.ownBlock ≠ some k ∧ k ≠ cb) := by
          intro k e
          have e2 : (Value.slice av n cv).ownBlock = some k := e
          refine ⟨fun e3 => ?_, (HCR.out.rowApart.2 k e2).1⟩
          rcases HCR.out.ntl with hh | hh
          · rw [hh] at e3; cases e3
          · exact hh (e3.trans e2.symm)
        rcases HT4.out with ⟨hE, l0, hll, hno, hlo, hre⟩ | ⟨hE, hno, hlo, hre⟩ | ⟨hE, hno, hlo, hre, hr1, hr0⟩
        · subst hE
          have hszB : B ≤ wr.heap.size := Nat.le_trans hB HBW.out.size
          have HDE : Hid (dropEnd 10 ll = lineOf rem) := by rw [hll, dropEnd_snoc, if_pos rfl]; exact hlo.symm
          have HRE : Hid (rem2 = restOf rem) := hre.symm
          have HNE : Hid (rem ≠ []) := fun e => by rw [HSUM.out, hll] at e; simp at e
          clear hll hno hlo hre
          have nl := eq_nil a1 wr
          have sm := eq_same a1 wr
          have ns := neq_same a1 wr
          have g1 : wr.cell? ⟨1, 0, none⟩ = some (I a1) := HSE.out.g1
          have kc1 : wr.cell? ⟨cb, 1, none⟩ = some (.int .i64 ln) := by rw [cell_of_row wr cb 1 _ _ _ HCR.out.hc]; rfl
          have fc1 : wr.frozen? ⟨cb, 1, none⟩ = false := free_of_row HCR.out.hc
          go_wp2_with fail
          obtain ⟨hc1, hb1, ho1⟩ := HCR.out.line (ln + 1) hszB
          obtain ⟨W1, hW1⟩ : ∃ W1, wr.setCell ⟨cb, 1, none⟩ (.int .i64 (ln + 1)) = W1 := ⟨_, rfl⟩
          rw [hW1] at hc1 hb1 ho1 ⊢
          have hs1 : W1.heap.size = wr.heap.size := by rw [← hW1]; simp
          have HC1 : Hid (CR W1 B cb bb sb rb s (ln + 1) st text rem2 vt (.slice av n cv)) := hc1
          have HB1 : Hid (Below B w W1) := HBW.out.trans hb1
          have hr1 : RowB (W1.alloc (.cells #[.int .u8 10] 5)) (.slice av n cv) ll := (HRV.out.only ho1 (fun b e => (HVB.out b e).2)).only ((Only.refl (fun _ => False) W1).alloc _) (fun _ _ => id)
          have hi1 : In (W1.alloc (.cells #[.int .u8 10] 5)) wr.heap.size 0 [10] := by rw [← hs1]; exact in_new W1 10
          clear hc1 hb1 ho1 hW1
          refine Calls.mono (trim_any _ ll 10 wr.heap.size _ hr1 hi1 hLn) ?_
          rintro e w2 ⟨v1, rfl, hr2, hb2, rfl⟩
          clear hr1 hi1
          obtain ⟨av1, cv1, rfl⟩ := hr2.slice
          obtain ⟨n1, hn1⟩ : ∃ n1, (dropEnd 10 ll).length = n1 := ⟨_, rfl⟩
          rw [hn1] at hr2 hb2 ⊢
          have hl2 : (dropEnd 10 ll).length ≤ 1048576 := Nat.le_trans (dropEnd_len _ _) hLn
          have hr3 : RowB ((W1.alloc (.cells #[.int .u8 10] 5)).alloc (.cells #[.int .u8 13] 5)) (.slice av1 n1 cv1) (dropEnd 10 ll) := hr2.only ((Only.refl (fun _ => False) _).alloc _) (fun _ _ => id)
          have hi3 : In ((W1.alloc (.cells #[.int .u8 10] 5)).alloc (.cells #[.int .u8 13] 5)) (wr.heap.size + 1) 0 [13] := by
            have h := in_new (W1.alloc (.cells #[.int .u8 10] 5)) 13
            rw [show (W1.alloc (.cells #[.int .u8 10] 5)).heap.size = wr.heap.size + 1 from by simp [hs1]] at h
            exact h
          have HB2 : Hid (blockOf (.slice av1 n1 cv1) = blockOf (.slice av n cv)) := hb2
          clear hr2 hb2 hn1
          go_wp2_with fail
          refine Calls.mono (trim_any _ (dropEnd 10 ll) 13 (wr.heap.size + 1) _ hr3 hi3 hl2) ?_
          rintro e w3 ⟨v2, rfl, hr4, hb4, rfl⟩
          have HR4 : Hid (RowB ((W1.alloc (.cells #[.int .u8 10] 5)).alloc (.cells #[.int .u8 13] 5)) v2 (dropEnd 13 (dropEnd 10 ll))) := hr4
          have HB4 : Hid (blockOf v2 = blockOf (.slice av1 n1 cv1)) := hb4
          clear hr3 hi3 hr4 hb4
          go_wp2_with fail
          have hz1 : B ≤ W1.heap.size := by rw [hs1]; exact hszB
          refine bodyPost_ret (v := .tuple #[v2, .nilIface]) (by simp [results, Tryd.results21, go_sem]) rfl ⟨(HB1.out.alloc hz1 _).alloc (by simp; omega) _, .inr ⟨HNE.out, v2, (.slice av n cv), rfl, ?_, fun k e => HVB.out k (by rw [← HB2.out, ← HB4.out]; exact e), ?_⟩⟩
          · rw [← HDE.out]; exact HR4.out
          · have h0 := HC1.out.only (((Only.refl (fun _ => False) W1).alloc (.cells #[.int .u8 10] 5)).alloc (.cells #[.int .u8 13] 5)) id id id id (fun _ _ => id) (fun _ _ => id)
            rw [HRE.out] at h0
            exact h0
        · subst hE
          have HN4 : Hid ((10 : UInt8) ∉ ll ∧ lineOf rem = ll ++ lineOf rem2 ∧ restOf rem = restOf rem2) := ⟨hno, hlo, hre⟩
          have kc0 : wr.cell? ⟨cb, 0, none⟩ = some (.pointer (some ⟨bb, 0, none⟩)) := by rw [cell_of_row wr cb 0 _ _ _ HCR.out.hc]; rfl
          clear hno hlo hre
          go_wp2_with fail
          refine Calls.mono (slice_cr HCR.out HSE.out hszB) ?_
          rintro e w5 ⟨v5, E5, x5, rem5, rfl, hrow5, hbk5, hcut5, hcr5, hbel5, hsen5, hon5⟩
          have HO5 : Hid (w5.ownsRow B 5 1 (.slice av n cv) ll.length (Lib.byteCells ll)) := owns_only HO4.out hon5 (fun k e => (HCR.out.rowApart.2 k e).2)
          have HCUT5 : Hid (CutS (I a1) (I a2) rem2 x5 E5 rem5) := hcut5
          have HCR5 : Hid (CR w5 B cb bb sb rb s ln st text rem5 vt (.slice av n cv)) := hcr5
          have HBE5 : Hid (Below B wr w5) := hbel5
          have HSE5 : Hid (Sen w5 B a0 a1 a2) := hsen5
          obtain ⟨av5, cv5, rfl⟩ := hrow5.slice
          obtain ⟨n5, hn5⟩ : ∃ n5, x5.length = n5 := ⟨_, rfl⟩
          rw [hn5] at hrow5 ⊢
          have HRV5 : Hid (RowB w5 (.slice av5 n5 cv5) x5) := hrow5
          have hsz5 : B ≤ w5.heap.size := Nat.le_trans hszB hbel5.size
          have hb5 : ll.length + x5.length ≤ 140737488355328 := by
            have h1 := HRL.out
            rw [HSUM.out, hcut5.1, List.length_append, List.length_append] at h1
            omega
          have k6 : w5.cell? ⟨cb, 6, none⟩ = some (.slice av n cv) := by rw [cell_of_row w5 cb 6 _ _ _ HCR5.out.hc]; rfl
          clear hrow5 hbk5 hcut5 hcr5 hbel5 hsen5 hon5 kc0 kc6 g2 sm2 nl2 ot2
          go_wp2_with (at_builtin; refine wpList_append_row rfl _ _ rfl B ll.length (.slice av n cv) (.slice av5 n5 cv5) (Lib.byteCells ll) x5 rfl rfl HO5.out HRV5.out hb5 hsz5 ?_; intro v6 w6 ho6 hg6 hv6; rw [← Lib.byteCells_append, ← List.length_append] at ho6; obtain ⟨a6, c6, hv6'⟩ := own_slice ho6; obtain ⟨N6, hN6⟩ : ∃ N6, (ll ++ x5).length = N6 := ⟨_, rfl⟩; rw [hN6] at hv6'; subst hv6'; have HLG6 : Hid _ := HCR5.out.long (ll := ll ++ x5) ho6 hg6 hv6 hsz5; have hon6 : Only (fun k => Value.ownBlock (.slice av n cv) = some k) w5 w6 := (Only.refl _ w5).grown hg6 (fun k e => e); have kc62 : w6.cell? ⟨cb, 6, none⟩ = some (.slice av n cv) := hon6.cell k6 (fun e => (HCR5.out.rowApart.2 cb e).1 rfl); have fc62 : w6.frozen? ⟨cb, 6, none⟩ = false := free_of_row (hon6.heap HCR5.out.hc (fun e => (HCR5.out.rowApart.2 cb e).1 rfl)); clear ho6 hg6 hv6 hon6 hN6)
          obtain ⟨t1, t2⟩ := told_next HN4.out.1 HN4.out.2.1 HN4.out.2.2 HSUM.out HCUT5.out
          go_roundw
          case rel => exact ⟨E5, ll ++ x5, rem5, _, rfl, HLG6.out.1, HLG6.out.2.2, t1, t2, HBW.out.trans (HBE5.out.trans HLG6.out.2.1), HSE5.out.below HLG6.out.2.1⟩
          case measure =>
            rw [HLG6.out.1.remN, HCR.out.remN]
            have h1 := HCUT5.out.1
            have h2 := congrArg List.length h1
            rw [List.length_append] at h2
            rcases HCUT5.out.2 with ⟨rfl, x0, hx0, _⟩ | ⟨rfl, _, hx4⟩ | ⟨rfl, _, hr⟩
            · have : x5.length = x0.length + 1 := by rw [hx0]; simp
              simp [fullN]
              omega
            · simp [fullN]
              omega
            · have hne : ¬ a1 = a2 := HSE.out.n12
              simp [fullN, hne]
              omega
        · subst hE
          have nl := eq_nil a1 wr
          have sm := eq_same a1 wr
          have ns := neq_same a1 wr
          have g1 : wr.cell? ⟨1, 0, none⟩ = some (I a1) := HSE.out.g1
          have kc1 : wr.cell? ⟨cb, 1, none⟩ = some (.int .i64 ln) := by rw [cell_of_row wr cb 1 _ _ _ HCR.out.hc]; rfl
          have fc1 : wr.frozen? ⟨cb, 1, none⟩ = false := free_of_row HCR.out.hc
          have hszB : B ≤ wr.heap.size := Nat.le_trans hB HBW.out.size
          by_cases hl0 : ll = []
          · have HR0 : Hid (rem = [] ∧ rem2 = []) := ⟨hr0.trans hl0, hr1⟩
            have hn0 : n = 0 := by rw [← hLL, hl0]; rfl
            have hni : ((n : Nat) : Int) = 0 := by omega
            clear hno hlo hre hr1 hr0
            go_wp2_with fail
            go_quiet (fail)
            go_wp2_with fail
            refine bodyPost_ret (v := .tuple #[.slice none 0 0, I a1]) (by simp [results, Tryd.results21, go_sem]) rfl ⟨HBW.out.grown (grown_drewN wr nq) hszB (fun k e => by cases e), .inl ⟨HR0.out.1, rfl, (.slice av n cv), ?_⟩⟩
            have h0 := HCR.out.only ((Only.refl (fun _ => False) wr).drewN nq) id id id id (fun _ _ => id) (fun _ _ => id)
            rw [HR0.out.2] at h0
            exact h0
          · have HDE : Hid (dropEnd 10 ll = lineOf rem) := by rw [dropEnd_no hno]; exact hlo.symm
            have HNE : Hid (rem ≠ []) := fun e => hl0 (hr0.symm.trans e)
            have HRE : Hid (rem2 = restOf rem) := by rw [hr1, hre]; exact rfl
            have hnp : ¬ ((n : Nat) : Int) = 0 := by
              have : n ≠ 0 := fun e => hl0 (List.eq_nil_of_length_eq_zero (by rw [hLL]; exact e))
              omega
            have hnb : (((n : Nat) : Int) == 0) = false := by simpa using hnp
            clear hno hlo hre hr1 hr0
            go_wp2_with fail
            obtain ⟨hc1, hb1, ho1⟩ := HCR.out.line (ln + 1) hszB
            obtain ⟨W1, hW1⟩ : ∃ W1, wr.setCell ⟨cb, 1, none⟩ (.int .i64 (ln + 1)) = W1 := ⟨_, rfl⟩
            rw [hW1] at hc1 hb1 ho1 ⊢
            have hs1 : W1.heap.size = wr.heap.size := by rw [← hW1]; simp
            have HC1 : Hid (CR W1 B cb bb sb rb s (ln + 1) st text rem2 vt (.slice av n cv)) := hc1
            have HB1 : Hid (Below B w W1) := HBW.out.trans hb1
            have hr1 : RowB (W1.alloc (.cells #[.int .u8 10] 5)) (.slice av n cv) ll := (HRV.out.only ho1 (fun b e => (HVB.out b e).2)).only ((Only.refl (fun _ => False) W1).alloc _) (fun _ _ => id)
            have hi1 : In (W1.alloc (.cells #[.int .u8 10] 5)) wr.heap.size 0 [10] := by rw [← hs1]; exact in_new W1 10
            clear hc1 hb1 ho1 hW1
            refine Calls.mono (trim_any _ ll 10 wr.heap.size _ hr1 hi1 hLn) ?_
            rintro e w2 ⟨v1, rfl, hr2, hb2, rfl⟩
            clear hr1 hi1
            obtain ⟨av1, cv1, rfl⟩ := hr2.slice
            obtain ⟨n1, hn1⟩ : ∃ n1, (dropEnd 10 ll).length = n1 := ⟨_, rfl⟩
            rw [hn1] at hr2 hb2 ⊢
            have hl2 : (dropEnd 10 ll).length ≤ 1048576 := Nat.le_trans (dropEnd_len _ _) hLn
            have hr3 : RowB ((W1.alloc (.cells #[.int .u8 10] 5)).alloc (.cells #[.int .u8 13] 5)) (.slice av1 n1 cv1) (dropEnd 10 ll) := hr2.only ((Only.refl (fun _ => False) _).alloc _) (fun _ _ => id)
            have hi3 : In ((W1.alloc (.cells #[.int .u8 10] 5)).alloc (.cells #[.int .u8 13] 5)) (wr.heap.size + 1) 0 [13] := by
              have h := in_new (W1.alloc (.cells #[.int .u8 10] 5)) 13
              rw [show (W1.alloc (.cells #[.int .u8 10] 5)).heap.size = wr.heap.size + 1 from by simp [hs1]] at h
              exact h
            have HB2 : Hid (blockOf (.slice av1 n1 cv1) = blockOf (.slice av n cv)) := hb2
            clear hr2 hb2 hn1
            go_wp2_with fail
            refine Calls.mono (trim_any _ (dropEnd 10 ll) 13 (wr.heap.size + 1) _ hr3 hi3 hl2) ?_
            rintro e w3 ⟨v2, rfl, hr4, hb4, rfl⟩
            have HR4 : Hid (RowB ((W1.alloc (.cells #[.int .u8 10] 5)).alloc (.cells #[.int .u8 13] 5)) v2 (dropEnd 13 (dropEnd 10 ll))) := hr4
            have HB4 : Hid (blockOf v2 = blockOf (.slice av1 n1 cv1)) := hb4
            clear hr3 hi3 hr4 hb4
            go_wp2_with fail
            have hz1 : B ≤ W1.heap.size := by rw [hs1]; exact hszB
            refine bodyPost_ret (v := .tuple #[v2, .nilIface]) (by simp [results, Tryd.results21, go_sem]) rfl ⟨(HB1.out.alloc hz1 _).alloc (by simp; omega) _, .inr ⟨HNE.out, v2, (.slice av n cv), rfl, ?_, fun k e => HVB.out k (by rw [← HB2.out, ← HB4.out]; exact e), ?_⟩⟩
            · rw [← HDE.out]; exact HR4.out
            · have h0 := HC1.out.only (((Only.refl (fun _ => False) W1).alloc (.cells #[.int .u8 10] 5)).alloc (.cells #[.int .u8 13] 5)) id id id id (fun _ _ => id) (fun _ _ => id)
              rw [HRE.out] at h0
              exact h0
    · have HL0 : Hid _ := hll0
      have HN2 : Hid ((10 : UInt8) ∉ x ∧ lineOf rem = x ++ lineOf rem1 ∧ restOf rem = restOf rem1) := ⟨hno, hlo, hre⟩
      clear hno hlo hre hLL
      have HV0 : Hid (w1.ownsRow B 5 1 (.slice (some ⟨lg, 0, none⟩) 0 lc) 0 []) := own_cut HL0.out
      have hszB : B ≤ w1.heap.size := Nat.le_trans hB HBW.out.size
      have kc6 : w1.cell? ⟨cb, 6, none⟩ = some (.slice (some ⟨lg, 0, none⟩) lm lc) := by rw [cell_of_row w1 cb 6 _ _ _ HCR.out.hc]; rfl
      clear hll0
      go_wp2_with (at_builtin; refine wpList_append_row rfl _ _ rfl B 0 (.slice (some ⟨lg, 0, none⟩) 0 lc) (.slice av n cv) [] x rfl rfl HV0.out HRV.out (by omega) hszB ?_; intro v' w2 ho2 hg2 hv2; rw [Nat.zero_add, List.nil_append] at ho2; obtain ⟨a', c', rfl⟩ := own_slice ho2; have HLG : Hid _ := HCR.out.long (ll := x) ho2 hg2 hv2 hszB; have hon2 : Only (fun k => Value.ownBlock (.slice (some ⟨lg, 0, none⟩) lm lc) = some k) w1 w2 := (Only.refl _ w1).grown hg2 (fun k e => e); have kc2 : w2.cell? ⟨cb, 6, none⟩ = some (.slice (some ⟨lg, 0, none⟩) lm lc) := hon2.cell kc6 (fun e => (HCR.out.rowApart.2 cb e).1 rfl); have fc2 : w2.frozen? ⟨cb, 6, none⟩ = false := free_of_row (hon2.heap HCR.out.hc (fun e => (HCR.out.rowApart.2 cb e).1 rfl)); clear ho2 hg2 hv2 hon2)
      obtain ⟨w3, hw3⟩ : ∃ w3, w2.setCell ⟨cb, 6, none⟩ (.slice a' x.length c') = w3 := ⟨_, rfl⟩
      rw [hw3] at HLG ⊢
      have HB3 : Hid (Below B w w3) := HBW.out.trans HLG.out.2.1
      have HS3 : Hid (Sen w3 B a0 a1 a2) := HSE.out.below HLG.out.2.1
      have HLG3 : Hid _ := HLG.out
      clear hw3 kc6 kc2 fc2 g2 sm2 nl2 ot2 HV0 HLG
      go_loopw [4, 5] (fun x4 x5 wr => ∃ (E : Value) (ll rem2 : List UInt8) (vl2 : Value), x5 = E ∧ Hid (CR wr B cb bb sb rb s ln st text rem2 vt vl2) ∧ Hid (wr.ownsRow B 5 1 vl2 ll.length (Lib.byteCells ll)) ∧ Hid (Told (I a1) (I a2) rem ll E rem2) ∧ Hid (rem = ll ++ rem2) ∧ Hid (Below B w wr) ∧ Hid (Sen wr B a0 a1 a2)) (fun _ x5 wr => remN bb sb wr + fullN a2 x5)
      case atStart => exact ⟨I a2, x, rem1, _, rfl, HLG3.out.1, HLG3.out.2.2, HTO, HSUM, HB3, HS3⟩
      case round =>
        obtain ⟨E, ll, rem2, vl2, rfl, HC4, HO4, HT4, HS4, HB4, HE4⟩ := hrel
        clear HLG3 HB3 HS3 HCR HRV HVB HSUM HTO HBW HSE HBK HNL hLn
        have HCR := HC4
        have HSUM := HS4
        have HBW := HB4
        have HSE := HE4
        clear HC4 HS4 HB4 HE4
        have g2 : wr.cell? ⟨2, 0, none⟩ = some (I a2) := HSE.out.g2
        have sm2 := eq_same a2 wr
        have nl2 := eq_nil a2 wr
        have ot2 : (binOp .eql 29 (I a1) (I a2)).run Tryd.prog wr = .ok (.bool false) wr := eq_other HSE.out.n12 HSE.out.h1 HSE.out.h2
        obtain ⟨av, cv, hvl⟩ := own_slice HO4.out
        obtain ⟨n, hLL⟩ : ∃ n, ll.length = n := ⟨_, rfl⟩
        rw [hLL] at hvl
        subst hvl
        have hLn : ll.length ≤ 1048576 := by have := HRL.out; rw [HSUM.out, List.length_append] at this; omega
        have hszB : B ≤ wr.heap.size := Nat.le_trans hB HBW.out.size
        have kc6 : wr.cell? ⟨cb, 6, none⟩ = some (.slice av n cv) := by rw [cell_of_row wr cb 6 _ _ _ HCR.out.hc]; rfl
        have HRV : Hid (RowB wr (.slice av n cv) ll) := row_own HO4.out
        have HVB : Hid (∀ k, blockOf (.slice av n cv) = some k → vt.ownBlock ≠ some k ∧ k ≠ cb) := by
          intro k e
          have e2 : (Value.slice av n cv).ownBlock = some k := e
          refine ⟨fun e3 => ?_, (HCR.out.rowApart.2 k e2).1⟩
          rcases HCR.out.ntl with hh | hh
          · rw [hh] at e3; cases e3
          · exact hh (e3.trans e2.symm)
        rcases HT4.out with ⟨hE, l0, hll, hno, hlo, hre⟩ | ⟨hE, hno, hlo, hre⟩ | ⟨hE, hno, hlo, hre, hr1, hr0⟩
        · subst hE
          have hszB : B ≤ wr.heap.size := Nat.le_trans hB HBW.out.size
          have HDE : Hid (dropEnd 10 ll = lineOf rem) := by rw [hll, dropEnd_snoc, if_pos rfl]; exact hlo.symm
          have HRE : Hid (rem2 = restOf rem) := hre.symm
          have HNE : Hid (rem ≠ []) := fun e => by rw [HSUM.out, hll] at e; simp at e
          clear hll hno hlo hre
          have nl := eq_nil a1 wr
          have sm := eq_same a1 wr
          have ns := neq_same a1 wr
          have g1 : wr.cell? ⟨1, 0, none⟩ = some (I a1) := HSE.out.g1
          have kc1 : wr.cell? ⟨cb, 1, none⟩ = some (.int .i64 ln) := by rw [cell_of_row wr cb 1 _ _ _ HCR.out.hc]; rfl
          have fc1 : wr.frozen? ⟨cb, 1, none⟩ = false := free_of_row HCR.out.hc
          go_wp2_with fail
          obtain ⟨hc1, hb1, ho1⟩ := HCR.out.line (ln + 1) hszB
          obtain ⟨W1, hW1⟩ : ∃ W1, wr.setCell ⟨cb, 1, none⟩ (.int .i64 (ln + 1)) = W1 := ⟨_, rfl⟩
          rw [hW1] at hc1 hb1 ho1 ⊢
          have hs1 : W1.heap.size = wr.heap.size := by rw [← hW1]; simp
          have HC1 : Hid (CR W1 B cb bb sb rb s (ln + 1) st text rem2 vt (.slice av n cv)) := hc1
          have HB1 : Hid (Below B w W1) := HBW.out.trans hb1
          have hr1 : RowB (W1.alloc (.cells #[.int .u8 10] 5)) (.slice av n cv) ll := (HRV.out.only ho1 (fun b e => (HVB.out b e).2)).only ((Only.refl (fun _ => False) W1).alloc _) (fun _ _ => id)
          have hi1 : In (W1.alloc (.cells #[.int .u8 10] 5)) wr.heap.size 0 [10] := by rw [← hs1]; exact in_new W1 10
          clear hc1 hb1 ho1 hW1
          refine Calls.mono (trim_any _ ll 10 wr.heap.size _ hr1 hi1 hLn) ?_
          rintro e w2 ⟨v1, rfl, hr2, hb2, rfl⟩
          clear hr1 hi1
          obtain ⟨av1, cv1, rfl⟩ := hr2.slice
          obtain ⟨n1, hn1⟩ : ∃ n1, (dropEnd 10 ll).length = n1 := ⟨_, rfl⟩
          rw [hn1] at hr2 hb2 ⊢
          have hl2 : (dropEnd 10 ll).length ≤ 1048576 := Nat.le_trans (dropEnd_len _ _) hLn
          have hr3 : RowB ((W1.alloc (.cells #[.int .u8 10] 5)).alloc (.cells #[.int .u8 13] 5)) (.slice av1 n1 cv1) (dropEnd 10 ll) := hr2.only ((Only.refl (fun _ => False) _).alloc _) (fun _ _ => id)
          have hi3 : In ((W1.alloc (.cells #[.int .u8 10] 5)).alloc (.cells #[.int .u8 13] 5)) (wr.heap.size + 1) 0 [13] := by
            have h := in_new (W1.alloc (.cells #[.int .u8 10] 5)) 13
            rw [show (W1.alloc (.cells #[.int .u8 10] 5)).heap.size = wr.heap.size + 1 from by simp [hs1]] at h
            exact h
          have HB2 : Hid (blockOf (.slice av1 n1 cv1) = blockOf (.slice av n cv)) := hb2
          clear hr2 hb2 hn1
          go_wp2_with fail
          refine Calls.mono (trim_any _ (dropEnd 10 ll) 13 (wr.heap.size + 1) _ hr3 hi3 hl2) ?_
          rintro e w3 ⟨v2, rfl, hr4, hb4, rfl⟩
          have HR4 : Hid (RowB ((W1.alloc (.cells #[.int .u8 10] 5)).alloc (.cells #[.int .u8 13] 5)) v2 (dropEnd 13 (dropEnd 10 ll))) := hr4
          have HB4 : Hid (blockOf v2 = blockOf (.slice av1 n1 cv1)) := hb4
          clear hr3 hi3 hr4 hb4
          go_wp2_with fail
          have hz1 : B ≤ W1.heap.size := by rw [hs1]; exact hszB
          refine bodyPost_ret (v := .tuple #[v2, .nilIface]) (by simp [results, Tryd.results21, go_sem]) rfl ⟨(HB1.out.alloc hz1 _).alloc (by simp; omega) _, .inr ⟨HNE.out, v2, (.slice av n cv), rfl, ?_, fun k e => HVB.out k (by rw [← HB2.out, ← HB4.out]; exact e), ?_⟩⟩
          · rw [← HDE.out]; exact HR4.out
          · have h0 := HC1.out.only (((Only.refl (fun _ => False) W1).alloc (.cells #[.int .u8 10] 5)).alloc (.cells #[.int .u8 13] 5)) id id id id (fun _ _ => id) (fun _ _ => id)
            rw [HRE.out] at h0
            exact h0
        · subst hE
          have HN4 : Hid ((10 : UInt8) ∉ ll ∧ lineOf rem = ll ++ lineOf rem2 ∧ restOf rem = restOf rem2) := ⟨hno, hlo, hre⟩
          have kc0 : wr.cell? ⟨cb, 0, none⟩ = some (.pointer (some ⟨bb, 0, none⟩)) := by rw [cell_of_row wr cb 0 _ _ _ HCR.out.hc]; rfl
          clear hno hlo hre
          go_wp2_with fail
          refine Calls.mono (slice_cr HCR.out HSE.out hszB) ?_
          rintro e w5 ⟨v5, E5, x5, rem5, rfl, hrow5, hbk5, hcut5, hcr5, hbel5, hsen5, hon5⟩
          have HO5 : Hid (w5.ownsRow B 5 1 (.slice av n cv) ll.length (Lib.byteCells ll)) := owns_only HO4.out hon5 (fun k e => (HCR.out.rowApart.2 k e).2)
          have HCUT5 : Hid (CutS (I a1) (I a2) rem2 x5 E5 rem5) := hcut5
          have HCR5 : Hid (CR w5 B cb bb sb rb s ln st text rem5 vt (.slice av n cv)) := hcr5
          have HBE5 : Hid (Below B wr w5) := hbel5
          have HSE5 : Hid (Sen w5 B a0 a1 a2) := hsen5
          obtain ⟨av5, cv5, rfl⟩ := hrow5.slice
          obtain ⟨n5, hn5⟩ : ∃ n5, x5.length = n5 := ⟨_, rfl⟩
          rw [hn5] at hrow5 ⊢
          have HRV5 : Hid (RowB w5 (.slice av5 n5 cv5) x5) := hrow5
          have hsz5 : B ≤ w5.heap.size := Nat.le_trans hszB hbel5.size
          have hb5 : ll.length + x5.length ≤ 140737488355328 := by
            have h1 := HRL.out
            rw [HSUM.out, hcut5.1, List.length_append, List.length_append] at h1
            omega
          have k6 : w5.cell? ⟨cb, 6, none⟩ = some (.slice av n cv) := by rw [cell_of_row w5 cb 6 _ _ _ HCR5.out.hc]; rfl
          clear hrow5 hbk5 hcut5 hcr5 hbel5 hsen5 hon5 kc0 kc6 g2 sm2 nl2 ot2
          go_wp2_with (at_builtin; refine wpList_append_row rfl _ _ rfl B ll.length (.slice av n cv) (.slice av5 n5 cv5) (Lib.byteCells ll) x5 rfl rfl HO5.out HRV5.out hb5 hsz5 ?_; intro v6 w6 ho6 hg6 hv6; rw [← Lib.byteCells_append, ← List.length_append] at ho6; obtain ⟨a6, c6, hv6'⟩ := own_slice ho6; obtain ⟨N6, hN6⟩ : ∃ N6, (ll ++ x5).length = N6 := ⟨_, rfl⟩; rw [hN6] at hv6'; subst hv6'; have HLG6 : Hid _ := HCR5.out.long (ll := ll ++ x5) ho6 hg6 hv6 hsz5; have hon6 : Only (fun k => Value.ownBlock (.slice av n cv) = some k) w5 w6 := (Only.refl _ w5).grown hg6 (fun k e => e); have kc62 : w6.cell? ⟨cb, 6, none⟩ = some (.slice av n cv) := hon6.cell k6 (fun e => (HCR5.out.rowApart.2 cb e).1 rfl); have fc62 : w6.frozen? ⟨cb, 6, none⟩ = false := free_of_row (hon6.heap HCR5.out.hc (fun e => (HCR5.out.rowApart.2 cb e).1 rfl)); clear ho6 hg6 hv6 hon6 hN6)
          obtain ⟨t1, t2⟩ := told_next HN4.out.1 HN4.out.2.1 HN4.out.2.2 HSUM.out HCUT5.out
          go_roundw
          case rel => exact ⟨E5, ll ++ x5, rem5, _, rfl, HLG6.out.1, HLG6.out.2.2, t1, t2, HBW.out.trans (HBE5.out.trans HLG6.out.2.1), HSE5.out.below HLG6.out.2.1⟩
          case measure =>
            rw [HLG6.out.1.remN, HCR.out.remN]
            have h1 := HCUT5.out.1
            have h2 := congrArg List.length h1
            rw [List.length_append] at h2
            rcases HCUT5.out.2 with ⟨rfl, x0, hx0, _⟩ | ⟨rfl, _, hx4⟩ | ⟨rfl, _, hr⟩
            · have : x5.length = x0.length + 1 := by rw [hx0]; simp
              simp [fullN]
              omega
            · simp [fullN]
              omega
            · have hne : ¬ a1 = a2 := HSE.out.n12
              simp [fullN, hne]
              omega
        · subst hE
          have nl := eq_nil a1 wr
          have sm := eq_same a1 wr
          have ns := neq_same a1 wr
          have g1 : wr.cell? ⟨1, 0, none⟩ = some (I a1) := HSE.out.g1
          have kc1 : wr.cell? ⟨cb, 1, none⟩ = some (.int .i64 ln) := by rw [cell_of_row wr cb 1 _ _ _ HCR.out.hc]; rfl
          have fc1 : wr.frozen? ⟨cb, 1, none⟩ = false := free_of_row HCR.out.hc
          have hszB : B ≤ wr.heap.size := Nat.le_trans hB HBW.out.size
          by_cases hl0 : ll = []
          · have HR0 : Hid (rem = [] ∧ rem2 = []) := ⟨hr0.trans hl0, hr1⟩
            have hn0 : n = 0 := by rw [← hLL, hl0]; rfl
            have hni : ((n : Nat) : Int) = 0 := by omega
            clear hno hlo hre hr1 hr0
            go_wp2_with fail
            go_quiet (fail)
            go_wp2_with fail
            refine bodyPost_ret (v := .tuple #[.slice none 0 0, I a1]) (by simp [results, Tryd.results21, go_sem]) rfl ⟨HBW.out.grown (grown_drewN wr nq) hszB (fun k e => by cases e), .inl ⟨HR0.out.1, rfl, (.slice av n cv), ?_⟩⟩
            have h0 := HCR.out.only ((Only.refl (fun _ => False) wr).drewN nq) id id id id (fun _ _ => id) (fun _ _ => id)
            rw [HR0.out.2] at h0
            exact h0
          · have HDE : Hid (dropEnd 10 ll = lineOf rem) := by rw [dropEnd_no hno]; exact hlo.symm
            have HNE : Hid (rem ≠ []) := fun e => hl0 (hr0.symm.trans e)
            have HRE : Hid (rem2 = restOf rem) := by rw [hr1, hre]; exact rfl
            have hnp : ¬ ((n : Nat) : Int) = 0 := by
              have : n ≠ 0 := fun e => hl0 (List.eq_nil_of_length_eq_zero (by rw [hLL]; exact e))
              omega
            have hnb : (((n : Nat) : Int) == 0) = false := by simpa using hnp
            clear hno hlo hre hr1 hr0
            go_wp2_with fail
            obtain ⟨hc1, hb1, ho1⟩ := HCR.out.line (ln + 1) hszB
            obtain ⟨W1, hW1⟩ : ∃ W1, wr.setCell ⟨cb, 1, none⟩ (.int .i64 (ln + 1)) = W1 := ⟨_, rfl⟩
            rw [hW1] at hc1 hb1 ho1 ⊢
            have hs1 : W1.heap.size = wr.heap.size := by rw [← hW1]; simp
            have HC1 : Hid (CR W1 B cb bb sb rb s (ln + 1) st text rem2 vt (.slice av n cv)) := hc1
            have HB1 : Hid (Below B w W1) := HBW.out.trans hb1
            have hr1 : RowB (W1.alloc (.cells #[.int .u8 10] 5)) (.slice av n cv) ll := (HRV.out.only ho1 (fun b e => (HVB.out b e).2)).only ((Only.refl (fun _ => False) W1).alloc _) (fun _ _ => id)
            have hi1 : In (W1.alloc (.cells #[.int .u8 10] 5)) wr.heap.size 0 [10] := by rw [← hs1]; exact in_new W1 10
            clear hc1 hb1 ho1 hW1
            refine Calls.mono (trim_any _ ll 10 wr.heap.size _ hr1 hi1 hLn) ?_
            rintro e w2 ⟨v1, rfl, hr2, hb2, rfl⟩
            clear hr1 hi1
            obtain ⟨av1, cv1, rfl⟩ := hr2.slice
            obtain ⟨n1, hn1⟩ : ∃ n1, (dropEnd 10 ll).length = n1 := ⟨_, rfl⟩
            rw [hn1] at hr2 hb2 ⊢
            have hl2 : (dropEnd 10 ll).length ≤ 1048576 := Nat.le_trans (dropEnd_len _ _) hLn
            have hr3 : RowB ((W1.alloc (.cells #[.int .u8 10] 5)).alloc (.cells #[.int .u8 13] 5)) (.slice av1 n1 cv1) (dropEnd 10 ll) := hr2.only ((Only.refl (fun _ => False) _).alloc _) (fun _ _ => id)
            have hi3 : In ((W1.alloc (.cells #[.int .u8 10] 5)).alloc (.cells #[.int .u8 13] 5)) (wr.heap.size + 1) 0 [13] := by
              have h := in_new (W1.alloc (.cells #[.int .u8 10] 5)) 13
              rw [show (W1.alloc (.cells #[.int .u8 10] 5)).heap.size = wr.heap.size + 1 from by simp [hs1]] at h
              exact h
            have HB2 : Hid (blockOf (.slice av1 n1 cv1) = blockOf (.slice av n cv)) := hb2
            clear hr2 hb2 hn1
            go_wp2_with fail
            refine Calls.mono (trim_any _ (dropEnd 10 ll) 13 (wr.heap.size + 1) _ hr3 hi3 hl2) ?_
            rintro e w3 ⟨v2, rfl, hr4, hb4, rfl⟩
            have HR4 : Hid (RowB ((W1.alloc (.cells #[.int .u8 10] 5)).alloc (.cells #[.int .u8 13] 5)) v2 (dropEnd 13 (dropEnd 10 ll))) := hr4
            have HB4 : Hid (blockOf v2 = blockOf (.slice av1 n1 cv1)) := hb4
            clear hr3 hi3 hr4 hb4
            go_wp2_with fail
            have hz1 : B ≤ W1.heap.size := by rw [hs1]; exact hszB
            refine bodyPost_ret (v := .tuple #[v2, .nilIface]) (by simp [results, Tryd.results21, go_sem]) rfl ⟨(HB1.out.alloc hz1 _).alloc (by simp; omega) _, .inr ⟨HNE.out, v2, (.slice av n cv), rfl, ?_, fun k e => HVB.out k (by rw [← HB2.out, ← HB4.out]; exact e), ?_⟩⟩
            · rw [← HDE.out]; exact HR4.out
            · have h0 := HC1.out.only (((Only.refl (fun _ => False) W1).alloc (.cells #[.int .u8 10] 5)).alloc (.cells #[.int .u8 13] 5)) id id id id (fun _ _ => id) (fun _ _ => id)
              rw [HRE.out] at h0
              exact h0
  · subst hE
    have nl := eq_nil a1 w1
    have sm := eq_same a1 w1
    have ns := neq_same a1 w1
    have g1 : w1.cell? ⟨1, 0, none⟩ = some (I a1) := HSE.out.g1
    have kc1 : w1.cell? ⟨cb, 1, none⟩ = some (.int .i64 ln) := by rw [cell_of_row w1 cb 1 _ _ _ HCR.out.hc]; rfl
    have fc1 : w1.frozen? ⟨cb, 1, none⟩ = false := free_of_row HCR.out.hc
    have hszB : B ≤ w1.heap.size := Nat.le_trans hB HBW.out.size
    by_cases hl0 : x = []
    · have HR0 : Hid (rem = [] ∧ rem1 = []) := ⟨hr0.trans hl0, hr1⟩
      have hn0 : n = 0 := by rw [← hLL, hl0]; rfl
      have hni : ((n : Nat) : Int) = 0 := by omega
      clear hno hlo hre hr1 hr0
      go_wp2_with fail
      go_quiet (fail)
      go_wp2_with fail
      refine bodyPost_ret (v := .tuple #[.slice none 0 0, I a1]) (by simp [results, Tryd.results21, go_sem]) rfl ⟨HBW.out.grown (grown_drewN w1 nq) hszB (fun k e => by cases e), .inl ⟨HR0.out.1, rfl, vl, ?_⟩⟩
      have h0 := HCR.out.only ((Only.refl (fun _ => False) w1).drewN nq) id id id id (fun _ _ => id) (fun _ _ => id)
      rw [HR0.out.2] at h0
      exact h0
    · have HDE : Hid (dropEnd 10 x = lineOf rem) := by rw [dropEnd_no hno]; exact hlo.symm
      have HNE : Hid (rem ≠ []) := fun e => hl0 (hr0.symm.trans e)
      have HRE : Hid (rem1 = restOf rem) := by rw [hr1, hre]; exact rfl
      have hnp : ¬ ((n : Nat) : Int) = 0 := by
        have : n ≠ 0 := fun e => hl0 (List.eq_nil_of_length_eq_zero (by rw [hLL]; exact e))
        omega
      have hnb : (((n : Nat) : Int) == 0) = false := by simpa using hnp
      clear hno hlo hre hr1 hr0
      go_wp2_with fail
      obtain ⟨hc1, hb1, ho1⟩ := HCR.out.line (ln + 1) hszB
      obtain ⟨W1, hW1⟩ : ∃ W1, w1.setCell ⟨cb, 1, none⟩ (.int .i64 (ln + 1)) = W1 := ⟨_, rfl⟩
      rw [hW1] at hc1 hb1 ho1 ⊢
      have hs1 : W1.heap.size = w1.heap.size := by rw [← hW1]; simp
      have HC1 : Hid (CR W1 B cb bb sb rb s (ln + 1) st text rem1 vt vl) := hc1
      have HB1 : Hid (Below B w W1) := HBW.out.trans hb1
      have hr1 : RowB (W1.alloc (.cells #[.int .u8 10] 5)) (.slice av n cv) x := (HRV.out.only ho1 (fun b e => (HVB.out b e).2)).only ((Only.refl (fun _ => False) W1).alloc _) (fun _ _ => id)
      have hi1 : In (W1.alloc (.cells #[.int .u8 10] 5)) w1.heap.size 0 [10] := by rw [← hs1]; exact in_new W1 10
      clear hc1 hb1 ho1 hW1
      refine Calls.mono (trim_any _ x 10 w1.heap.size _ hr1 hi1 hLn) ?_
      rintro e w2 ⟨v1, rfl, hr2, hb2, rfl⟩
      clear hr1 hi1
      obtain ⟨av1, cv1, rfl⟩ := hr2.slice
      obtain ⟨n1, hn1⟩ : ∃ n1, (dropEnd 10 x).length = n1 := ⟨_, rfl⟩
      rw [hn1] at hr2 hb2 ⊢
      have hl2 : (dropEnd 10 x).length ≤ 1048576 := Nat.le_trans (dropEnd_len _ _) hLn
      have hr3 : RowB ((W1.alloc (.cells #[.int .u8 10] 5)).alloc (.cells #[.int .u8 13] 5)) (.slice av1 n1 cv1) (dropEnd 10 x) := hr2.only ((Only.refl (fun _ => False) _).alloc _) (fun _ _ => id)
      have hi3 : In ((W1.alloc (.cells #[.int .u8 10] 5)).alloc (.cells #[.int .u8 13] 5)) (w1.heap.size + 1) 0 [13] := by
        have h := in_new (W1.alloc (.cells #[.int .u8 10] 5)) 13
        rw [show (W1.alloc (.cells #[.int .u8 10] 5)).heap.size = w1.heap.size + 1 from by simp [hs1]] at h
        exact h
      have HB2 : Hid (blockOf (.slice av1 n1 cv1) = blockOf (.slice av n cv)) := hb2
      clear hr2 hb2 hn1
      go_wp2_with fail
      refine Calls.mono (trim_any _ (dropEnd 10 x) 13 (w1.heap.size + 1) _ hr3 hi3 hl2) ?_
      rintro e w3 ⟨v2, rfl, hr4, hb4, rfl⟩
      have HR4 : Hid (RowB ((W1.alloc (.cells #[.int .u8 10] 5)).alloc (.cells #[.int .u8 13] 5)) v2 (dropEnd 13 (dropEnd 10 x))) := hr4
      have HB4 : Hid (blockOf v2 = blockOf (.slice av1 n1 cv1)) := hb4
      clear hr3 hi3 hr4 hb4
      go_wp2_with fail
      have hz1 : B ≤ W1.heap.size := by rw [hs1]; exact hszB
      refine bodyPost_ret (v := .tuple #[v2, .nilIface]) (by simp [results, Tryd.results21, go_sem]) rfl ⟨(HB1.out.alloc hz1 _).alloc (by simp; omega) _, .inr ⟨HNE.out, v2, vl, rfl, ?_, fun k e => HVB.out k (by rw [← HB2.out, ← HB4.out]; exact e), ?_⟩⟩
      · rw [← HDE.out]; exact HR4.out
      · have h0 := HC1.out.only (((Only.refl (fun _ => False) W1).alloc (.cells #[.int .u8 10] 5)).alloc (.cells #[.int .u8 13] 5)) id id id id (fun _ _ => id) (fun _ _ => id)
        rw [HRE.out] at h0
        exact h0

end Go.Proofs.Qxb6613468aDoor
