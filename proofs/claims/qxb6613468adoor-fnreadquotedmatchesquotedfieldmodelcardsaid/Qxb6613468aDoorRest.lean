/-
  zzRestLines (15), walked: the lines of a text.
-/
import Derived.Test.Qxb6613468aDoorMod
namespace Go.Proofs.Qxb6613468aDoor
open Go.RowKit

theorem own_ne {w : World} {B n m : Nat} {v u : Value} {xs ys : List Value} (h : w.ownsRow B 22 1 v n xs) (h' : w.ownsRow B 5 1 u m ys) : v.ownBlock = none ∨ v.ownBlock ≠ u.ownBlock := by
  rcases h.2 with ⟨rfl, _⟩ | ⟨g, cap, cur, rfl, _, hg, _⟩
  · exact .inl rfl
  · refine .inr fun e => ?_
    rcases h'.2 with ⟨rfl, _⟩ | ⟨g', cap', cur', rfl, _, hg', _⟩
    · cases e
    · have : g = g' := Option.some.inj e
      subst this
      rw [hg] at hg'
      simp at hg'
theorem Lines.row {w : World} {vals : List Value} {ls : List (List UInt8)} (h : Lines w vals ls) {v : Value} (hv : v ∈ vals) : ∃ l, RowB w v l := by
  obtain ⟨i, hi, rfl⟩ := List.mem_iff_getElem.1 hv
  exact ⟨_, h.2 i hi (by rw [← h.1]; exact hi)⟩
theorem Lines.alloc {w : World} {vals : List Value} {ls : List (List UInt8)} (h : Lines w vals ls) (o : Obj) : Lines (w.alloc o) vals ls := h.grownBy (World.grownBy_alloc w o none) (fun _ _ _ _ e => by cases e)
/-- A line is appended. -/
theorem Lines.push {w w2 : World} {B n : Nat} {vals : List Value} {ls : List (List UInt8)} {x v : Value} {l : List UInt8} (h : Lines w vals ls) (hr : RowB w x l) (ho : w.ownsRow B 22 1 v n vals) (hg : (w.alloc (.cells #[x] 22)).grownBy w2 v.ownBlock) : Lines w2 (vals ++ [x]) (ls ++ [l]) := by
  refine ((h.snoc hr).alloc _).grownBy hg fun u hu k hk => ?_
  rcases List.mem_append.1 hu with hu | hu
  · obtain ⟨_, hru⟩ := h.row hu
    exact row_ne_own hru ho k hk
  · obtain rfl := List.mem_singleton.1 hu
    exact row_ne_own hr ho k hk

set_option maxRecDepth 1000000 in
set_option maxHeartbeats 4000000 in
theorem rest_any (b : ByteArray) (w : World) (hb : b.size ≤ 65536) :
    Calls Tryd.prog 15 #[.string b] w fun e w' => ∃ v vals, e = .returned v ∧ w'.ownsRow w.heap.size 22 1 v vals.length vals ∧ Lines w' vals (linesOf (bytesOf b)) ∧ Below w.heap.size w w' := by
  go_enter Tryd.func15, Tryd.ntmps15
  go_wp2_with fail
  go_loopw [3, 4, 5, 6] (fun x3 x4 x5 x6 wr => ∃ (outs : List (List UInt8)) (vals : List Value) (cur : List UInt8) (i nO nC : Nat) (a3 a4 : Option Addr) (c3 c4 : Nat) (op : Bool), x3 = .slice a3 nO c3 ∧ x4 = .slice a4 nC c4 ∧ x5 = .bool op ∧ x6 = .int .i64 i ∧ i ≤ b.size ∧ nO ≤ i ∧ nC ≤ i ∧
      Hid (op = decide (cur ≠ [])) ∧ Hid (vals.length = nO) ∧ Hid (cur.length = nC) ∧ Hid (wr.ownsRow w.heap.size 22 1 (.slice a3 nO c3) vals.length vals) ∧ Hid (wr.ownsRow w.heap.size 5 1 (.slice a4 nC c4) cur.length (Lib.byteCells cur)) ∧ Hid (Lines wr vals outs) ∧ Hid (∀ v ∈ vals, ∀ k, blockOf v = some k → some k ≠ (Value.slice a4 nC c4).ownBlock) ∧ Hid ((10 : UInt8) ∉ cur) ∧ Hid (linesOf (bytesOf b) = outs ++ linesOf (cur ++ (bytesOf b).drop i)) ∧ Hid (Below w.heap.size w wr)) (fun _ _ _ x6 _ => b.size - (intOf x6).toNat)
  case atStart => exact ⟨[], [], [], 0, 0, 0, none, none, 0, 0, false, rfl, rfl, rfl, rfl, Nat.zero_le _, Nat.le_refl _, Nat.le_refl _, by simp [Hid], rfl, rfl, World.ownsRow_nil _ _ _ _, World.ownsRow_nil _ _ _ _, Lines.nil _, (fun v hv => absurd hv List.not_mem_nil), List.not_mem_nil, by rw [List.nil_append, List.nil_append, List.drop_zero]; exact rfl, Below.refl _ _⟩
  case round =>
    obtain ⟨outs, vals, cur, i, nO, nC, a3, a4, c3, c4, op, rfl, rfl, rfl, rfl, hi, hno, hnc, HOP, HNO, HNC, HO, HC, HL, HAP, H10, HLS, HBW⟩ := hrel
    have hsz : w.heap.size ≤ wr.heap.size := HBW.out.size
    have HRC : Hid (RowB wr (.slice a4 nC c4) cur) := row_own HC.out
    by_cases hlt : i < b.size
    · obtain ⟨d, hd⟩ : ∃ d, b[i] = d := ⟨_, rfl⟩
      have HDR : Hid ((bytesOf b).drop i = d :: (bytesOf b).drop (i + 1)) := by
        rw [List.drop_eq_getElem_cons (by rw [bytesOf_size]; exact hlt), ← hd]
        rfl
      by_cases h10 : d = 10
      · have he : (((d.toNat : Nat) : Int) == 10) = true := by subst h10; rfl
        have HLS2 : Hid (linesOf (bytesOf b) = (outs ++ [dropEnd 13 cur]) ++ linesOf ([] ++ (bytesOf b).drop (i + 1))) := by
          rw [HLS.out, HDR.out, h10, linesOf_nl H10.out]
          simp
          exact trivial
        clear h10
        go_wp2_with fail
        refine Calls.mono (dropcr_any _ cur wr HRC.out (by rw [HNC.out]; omega)) ?_
        rintro e w' ⟨vn, rfl, hrn, hbn, rfl⟩
        obtain ⟨an, cn, rfl⟩ := hrn.slice
        obtain ⟨nn, hnn⟩ : ∃ nn, (dropEnd 13 cur).length = nn := ⟨_, rfl⟩
        rw [hnn] at hrn hbn ⊢
        have HRN : Hid (RowB wr (.slice an nn cn) (dropEnd 13 cur)) := hrn
        clear hrn hbn hnn
        go_wp2_with (at_builtin; refine wpList_append_line rfl _ _ rfl w.heap.size vals.length (.slice a3 nO c3) (.slice an nn cn) vals rfl rfl HO.out rfl (by rw [HNO.out]; omega) hsz ?_; intro v2 w2 ho2 hg2; obtain ⟨a2, c2, hv2⟩ := own_slice22 ho2; obtain ⟨N2, hN2⟩ : ∃ N2, vals.length + 1 = N2 := ⟨_, rfl⟩; rw [hN2] at hv2; subst hv2; have HO2 : Hid _ := ho2; have HG2 : Hid _ := hg2; have HN2 : Hid (vals.length + 1 = N2) := hN2; clear ho2 hg2 hN2)
        go_roundw
        case rel =>
          refine ⟨outs ++ [dropEnd 13 cur], vals ++ [.slice an nn cn], [], i + 1, N2, 0, a2, none, c2, 0, false, rfl, rfl, rfl, by go_num, by omega, by rw [← HN2.out, HNO.out]; omega, Nat.zero_le _, by simp [Hid], by rw [List.length_append]; exact HN2.out, rfl, by rw [List.length_append]; exact HO2.out, World.ownsRow_nil _ _ _ _, HL.out.push HRN.out HO.out HG2.out, (fun v hv k hk e => by cases e), List.not_mem_nil, HLS2.out, ?_⟩
          exact (HBW.out.alloc hsz _).grown HG2.out (Nat.le_trans hsz (by simp)) (fun k e => (HO.out.lt k e).1)
        case measure => simp [intOf]; omega
      · have he : (((d.toNat : Nat) : Int) == 10) = false := by
          rw [beq_eq_false_iff_ne]; intro e; exact h10 (UInt8.toNat_inj.1 (by simp; omega))
        have H102 : Hid ((10 : UInt8) ∉ cur ++ [d]) := by
          intro e
          rcases List.mem_append.1 e with e | e
          · exact H10.out e
          · simp at e; exact h10 e.symm
        have HLS2 : Hid (linesOf (bytesOf b) = outs ++ linesOf ((cur ++ [d]) ++ (bytesOf b).drop (i + 1))) := by
          rw [HLS.out, HDR.out]
          simp
          exact trivial
        clear h10
        go_wp2_with (at_builtin; refine wpList_append_row rfl _ _ rfl w.heap.size cur.length (.slice a4 nC c4) (.slice (some ⟨wr.heap.size, 0, none⟩) 1 1) (Lib.byteCells cur) [d] rfl rfl (HC.out.alloc _) (row_new wr d) (by rw [HNC.out]; show _ + 1 ≤ _; omega) (Nat.le_trans hsz (by simp)) ?_; intro v2 w2 ho2 hg2 hv2; rw [← Lib.byteCells_append, ← List.length_append] at ho2; obtain ⟨a2, c2, hv2'⟩ := own_slice ho2; obtain ⟨N2, hN2⟩ : ∃ N2, (cur ++ [d]).length = N2 := ⟨_, rfl⟩; rw [hN2] at hv2'; subst hv2'; have HC2 : Hid _ := ho2; have HG2 : Hid _ := hg2; have HV2 : Hid _ := hv2; have HN2 : Hid ((cur ++ [d]).length = N2) := hN2; clear ho2 hg2 hv2 hN2)
        go_roundw
        case rel =>
          refine ⟨outs, vals, cur ++ [d], i + 1, nO, N2, a3, a2, c3, c2, true, rfl, rfl, rfl, by go_num, by omega, by omega, by rw [← HN2.out, List.length_append, HNC.out]; show nC + 1 ≤ _; omega, by simp [Hid], HNO, HN2, (HO.out.alloc _).kept HG2.out (own_ne HO.out HC.out), HC2.out, (HL.out.alloc _).grownBy HG2.out HAP.out, ?_, H102, HLS2, ?_⟩
          · intro v hv k hk e
            rcases HV2.out with h | h
            · exact HAP.out v hv k hk (e.trans h)
            · obtain ⟨_, hru⟩ := HL.out.row hv
              have := hru.lt k hk
              have h2 := Option.some.inj (e.trans h)
              simp at h2
              omega
          · exact (HBW.out.alloc hsz _).grown HG2.out (Nat.le_trans hsz (by simp)) (fun k e => (HC.out.lt k e).1)
        case measure => simp [intOf]; omega
    · obtain rfl : b.size = i := by omega
      have HLS2 : Hid (linesOf (bytesOf b) = outs ++ linesOf cur) := by
        rw [HLS.out, List.drop_of_length_le (by rw [bytesOf_size]; exact Nat.le_refl _), List.append_nil]
        exact rfl
      by_cases hcur : cur = []
      · obtain rfl : false = op := by rw [HOP.out, hcur]; rfl
        have HLS3 : Hid (linesOf (bytesOf b) = outs) := by rw [HLS2.out, hcur, linesOf_nil, List.append_nil]; exact rfl
        clear hcur
        go_wp2_with fail
        go_ret
        exact ⟨_, vals, rfl, HO.out, by rw [HLS3.out]; exact HL.out, HBW.out⟩
      · obtain rfl : true = op := by rw [HOP.out]; exact (decide_eq_true hcur).symm
        have HLS3 : Hid (linesOf (bytesOf b) = outs ++ [dropEnd 13 cur]) := by rw [HLS2.out, linesOf_last H10.out hcur]; exact rfl
        clear hcur
        go_wp2_with fail
        refine Calls.mono (dropcr_any _ cur wr HRC.out (by rw [HNC.out]; omega)) ?_
        rintro e w' ⟨vn, rfl, hrn, hbn, rfl⟩
        obtain ⟨an, cn, rfl⟩ := hrn.slice
        obtain ⟨nn, hnn⟩ : ∃ nn, (dropEnd 13 cur).length = nn := ⟨_, rfl⟩
        rw [hnn] at hrn hbn ⊢
        have HRN : Hid (RowB wr (.slice an nn cn) (dropEnd 13 cur)) := hrn
        clear hrn hbn hnn
        go_wp2_with (at_builtin; refine wpList_append_line rfl _ _ rfl w.heap.size vals.length (.slice a3 nO c3) (.slice an nn cn) vals rfl rfl HO.out rfl (by rw [HNO.out]; omega) hsz ?_; intro v2 w2 ho2 hg2; obtain ⟨a2, c2, hv2⟩ := own_slice22 ho2; obtain ⟨N2, hN2⟩ : ∃ N2, vals.length + 1 = N2 := ⟨_, rfl⟩; rw [hN2] at hv2; subst hv2; have HO2 : Hid _ := ho2; have HG2 : Hid _ := hg2; have HN2 : Hid (vals.length + 1 = N2) := hN2; clear ho2 hg2 hN2)
        go_ret
        exact ⟨_, vals ++ [.slice an nn cn], rfl, by rw [List.length_append]; exact HO2.out, by rw [HLS3.out]; exact HL.out.push HRN.out HO.out HG2.out, (HBW.out.alloc hsz _).grown HG2.out (Nat.le_trans hsz (by simp)) (fun k e => (HO.out.lt k e).1)⟩

end Go.Proofs.Qxb6613468aDoor
