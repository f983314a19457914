/-
  jmerge (9).
-/
import Derived.Test.Qxb6612439aMerge
import Derived.BigQuiet
namespace Go.Proofs.Qxb6612439a
open Go.RowKit Go.Shelf

set_option maxRecDepth 100000 in
set_option maxHeartbeats 4000000 in
theorem jmerge_any (Ba Bb na nb ca cb : Nat) (aa ab : Option Addr) (la lb : List (ByteArray × ByteArray)) (w : World) (hna : la.length = na) (hnb : lb.length = nb)
    (ha : w.ownsRow Ba 34 2 (.slice aa na ca) na (cellsL la)) (hb : w.ownsRow Bb 34 2 (.slice ab nb cb) nb (cellsL lb)) (hl : na + nb ≤ 2097152) :
    Calls Try.prog 9 #[.slice aa na ca, .slice ab nb cb] w fun e w' => ∃ v, e = .returned v ∧ w'.ownsRow w.heap.size 34 2 v (mergeL la lb).length (cellsL (mergeL la lb)) ∧ Below w.heap.size w w' := by
  obtain ⟨i0, hi0, hz0, hz1, hz2⟩ := info_parts Try.info34
  have HNA : Hid (la.length = na) := hna
  have HNB : Hid (lb.length = nb) := hnb
  have HA : Hid (w.ownsRow Ba 34 2 (.slice aa na ca) na (cellsL la)) := ha
  have HB : Hid (w.ownsRow Bb 34 2 (.slice ab nb cb) nb (cellsL lb)) := hb
  obtain ⟨w1, hmk, how, hgr⟩ := run_makeSlice_owned (P := Try.prog) w w.heap.size 30 34 i0 _ 2 Try.underlying30 hi0 hz0 hz1 .i64 .i64 (na + nb) (by omega) (by rw [hz2]; omega) (by unfold maxLen; omega) (Nat.le_refl _)
  have hmk2 : (Instr.makeSlice 30 (.int .i64 0) (.int .i64 ((na : Int) + (nb : Int)))).run Try.prog w = .ok (.slice (some ⟨w.heap.size, 0, none⟩) 0 (na + nb)) w1 := by
    have e : ((na : Int) + (nb : Int)) = ((na + nb : Nat) : Int) := by omega
    rw [e]; exact hmk
  have HO : Hid (w1.ownsRow w.heap.size 34 2 (.slice (some ⟨w.heap.size, 0, none⟩) 0 (na + nb)) 0 []) := how
  have HB1 : Hid (Below w.heap.size w w1) := ⟨hgr.os, hgr.tape, hgr.output, hgr.size, fun k hk => hgr.block k hk (by simp)⟩
  clear ha hb hna hnb hmk how hgr
  go_enter Try.func9, Try.ntmps9
  go_wp2_with fail
  go_loopw [5, 6, 7] (fun out i j wr => ∃ (ki kj cap : Nat) (a : Option Addr) (ls : List (ByteArray × ByteArray)), out = .slice a (ki + kj) cap ∧ i = .int .i64 ki ∧ j = .int .i64 kj ∧ ki ≤ na ∧ kj ≤ nb ∧ Hid (ls.length = ki + kj) ∧
      Hid (wr.ownsRow w.heap.size 34 2 (.slice a (ki + kj) cap) (ki + kj) (cellsL ls)) ∧ Hid (ls ++ mergeL (la.drop ki) (lb.drop kj) = mergeL la lb) ∧ Hid (Below w.heap.size w wr)) (fun _ i j _ => (na - (intOf i).toNat) + (nb - (intOf j).toNat))
  case atStart => exact ⟨0, 0, na + nb, _, [], rfl, rfl, rfl, Nat.zero_le _, Nat.zero_le _, rfl, HO, rfl, HB1⟩
  case round =>
    obtain ⟨ki, kj, cap, a, ls, rfl, rfl, rfl, hki, hkj, HL, HW, HM, HBe⟩ := hrel
    clear HO HB1 hmk2
    by_cases hlta : ki < na
    · obtain ⟨ga, rfl, hga, ra0, ra1⟩ := row_line HA.out HNA.out hlta
      have hila : ki < la.length := by rw [HNA.out]; exact hlta
      have ca0 : wr.cell? ⟨ga, ki * 2, none⟩ = some (.string la[ki].1) := (HBe.out.cell (p := ⟨ga, ki * 2, none⟩) hga).trans ra0
      have ca1 : wr.cell? ⟨ga, ki * 2 + 1, none⟩ = some (.string la[ki].2) := (HBe.out.cell (p := ⟨ga, ki * 2 + 1, none⟩) hga).trans ra1
      obtain ⟨x1, hx1⟩ : ∃ x1, la[ki].1 = x1 := ⟨_, rfl⟩
      obtain ⟨x2, hx2⟩ : ∃ x2, la[ki].2 = x2 := ⟨_, rfl⟩
      rw [hx1] at ca0
      rw [hx2] at ca1
      have HX : Hid (la[ki] = (x1, x2)) := Prod.ext hx1 hx2
      clear ra0 ra1 hx1 hx2
      by_cases hltb : kj < nb
      · obtain ⟨gb, rfl, hgb, rb0, rb1⟩ := row_line HB.out HNB.out hltb
        have hjlb : kj < lb.length := by rw [HNB.out]; exact hltb
        have cb0 : wr.cell? ⟨gb, kj * 2, none⟩ = some (.string lb[kj].1) := (HBe.out.cell (p := ⟨gb, kj * 2, none⟩) hgb).trans rb0
        have cb1 : wr.cell? ⟨gb, kj * 2 + 1, none⟩ = some (.string lb[kj].2) := (HBe.out.cell (p := ⟨gb, kj * 2 + 1, none⟩) hgb).trans rb1
        obtain ⟨y1, hy1⟩ : ∃ y1, lb[kj].1 = y1 := ⟨_, rfl⟩
        obtain ⟨y2, hy2⟩ : ∃ y2, lb[kj].2 = y2 := ⟨_, rfl⟩
        rw [hy1] at cb0
        rw [hy2] at cb1
        have HY : Hid (lb[kj] = (y1, y2)) := Prod.ext hy1 hy2
        clear rb0 rb1 hy1 hy2
        have hgf : decide ((nb : Int) ≤ kj) = false := by simp; omega
        have hgi : (ki : Int) < na := by omega
        cases hless : Op.bytesLess x1.toList y1.toList
        · go_wp2_with fail
          go_quiet (fail)
          obtain ⟨wq, hwq⟩ : ∃ wq, wr.drewN nq = wq := ⟨_, rfl⟩
          rw [hwq]
          have HBq : Hid (Below wr.heap.size wr wq) := by rw [← hwq]; exact (Below.refl _ wr).grown (grown_drewN wr nq) (Nat.le_refl _) (fun k e => by cases e)
          have O2 : Hid (wq.ownsRow w.heap.size 34 2 (.slice a (ki + kj) cap) (ki + kj) (cellsL ls)) := owns_below HW.out HBq.out
          have hsz2 : w.heap.size ≤ wq.heap.size := Nat.le_trans HBe.out.size HBq.out.size
          have ca2 : wq.cell? ⟨gb, kj * 2, none⟩ = some (.string y1) := by rw [← hwq]; exact cb0
          have cb2 : wq.cell? ⟨gb, kj * 2 + 1, none⟩ = some (.string y2) := by rw [← hwq]; exact cb1
          clear hwq
          go_wp2_with (at_builtin; refine wpList_append_lies _ rfl _ _ 30 rfl w.heap.size 34 i0 _ 2 32 Try.underlying30 hi0 hz0 hz1 hz2 rfl (by decide) _ _ _ rfl (O2.out.alloc _) ⟨wq.heap.size, 0, none⟩ 1 1 [.string y1, .string y2] rfl rfl (World.news_of_block (cs := #[.string y1, .string y2]) (t := 34) (fr := (0, 0)) (heap_alloc_new wq _)) (by simp [Value.oneCell']) (by omega) (by unfold maxLen; omega) (by omega) (by simp; omega) (wq.heap.size + 1) (by simp) ?_; intro g' cap' w3 ho3 hg3 hat3 hlt3)
          obtain ⟨r1, r2⟩ := app_row HL.out O2.out HBe.out HBq.out ho3 hg3
          have hst : (ls ++ [(y1, y2)]) ++ mergeL (la.drop (ki)) (lb.drop (kj + 1)) = mergeL la lb := by
            rw [← HM.out, mergeL_right hjlb (.inr ⟨hila, by rw [HX.out, HY.out]; rw [Lib.toList_data, Lib.toList_data] at hless; exact hless⟩), HY.out, List.append_assoc]; rfl
          go_roundw
          case rel => exact ⟨ki, kj + 1, cap', some ⟨g', 0, none⟩, _, rfl, by go_num, by go_num, by omega, by omega, by rw [List.length_append, HL.out]; rfl, by rw [List.length_append, HL.out] at r1; exact r1, hst, r2⟩
          case measure => simp [intOf]; omega
        · go_wp2_with fail
          go_quiet (fail)
          obtain ⟨wq, hwq⟩ : ∃ wq, wr.drewN nq = wq := ⟨_, rfl⟩
          rw [hwq]
          have HBq : Hid (Below wr.heap.size wr wq) := by rw [← hwq]; exact (Below.refl _ wr).grown (grown_drewN wr nq) (Nat.le_refl _) (fun k e => by cases e)
          have O2 : Hid (wq.ownsRow w.heap.size 34 2 (.slice a (ki + kj) cap) (ki + kj) (cellsL ls)) := owns_below HW.out HBq.out
          have hsz2 : w.heap.size ≤ wq.heap.size := Nat.le_trans HBe.out.size HBq.out.size
          have ca2 : wq.cell? ⟨ga, ki * 2, none⟩ = some (.string x1) := by rw [← hwq]; exact ca0
          have cb2 : wq.cell? ⟨ga, ki * 2 + 1, none⟩ = some (.string x2) := by rw [← hwq]; exact ca1
          clear hwq
          go_wp2_with (at_builtin; refine wpList_append_lies _ rfl _ _ 30 rfl w.heap.size 34 i0 _ 2 32 Try.underlying30 hi0 hz0 hz1 hz2 rfl (by decide) _ _ _ rfl (O2.out.alloc _) ⟨wq.heap.size, 0, none⟩ 1 1 [.string x1, .string x2] rfl rfl (World.news_of_block (cs := #[.string x1, .string x2]) (t := 34) (fr := (0, 0)) (heap_alloc_new wq _)) (by simp [Value.oneCell']) (by omega) (by unfold maxLen; omega) (by omega) (by simp; omega) (wq.heap.size + 1) (by simp) ?_; intro g' cap' w3 ho3 hg3 hat3 hlt3)
          obtain ⟨r1, r2⟩ := app_row HL.out O2.out HBe.out HBq.out ho3 hg3
          have hst : (ls ++ [(x1, x2)]) ++ mergeL (la.drop (ki + 1)) (lb.drop (kj)) = mergeL la lb := by
            rw [← HM.out, mergeL_left hila (.inr ⟨hjlb, by rw [HX.out, HY.out]; rw [Lib.toList_data, Lib.toList_data] at hless; exact hless⟩), HX.out, List.append_assoc]; rfl
          go_roundw
          case rel => exact ⟨ki + 1, kj, cap', some ⟨g', 0, none⟩, _, by rw [show ki + 1 + kj = ki + kj + 1 from by omega], by go_num, by go_num, by omega, by omega, by rw [List.length_append, HL.out, show ki + 1 + kj = ki + kj + 1 from by omega]; rfl, by rw [List.length_append, HL.out] at r1; rw [show ki + 1 + kj = ki + kj + 1 from by omega]; exact r1, hst, r2⟩
          case measure => simp [intOf]; omega
      · have hge : (nb : Int) ≤ kj := by omega
        go_wp2_with fail
        go_quiet (fail)
        obtain ⟨wq, hwq⟩ : ∃ wq, wr.drewN nq = wq := ⟨_, rfl⟩
        rw [hwq]
        have HBq : Hid (Below wr.heap.size wr wq) := by rw [← hwq]; exact (Below.refl _ wr).grown (grown_drewN wr nq) (Nat.le_refl _) (fun k e => by cases e)
        have O2 : Hid (wq.ownsRow w.heap.size 34 2 (.slice a (ki + kj) cap) (ki + kj) (cellsL ls)) := owns_below HW.out HBq.out
        have hsz2 : w.heap.size ≤ wq.heap.size := Nat.le_trans HBe.out.size HBq.out.size
        have ca2 : wq.cell? ⟨ga, ki * 2, none⟩ = some (.string x1) := by rw [← hwq]; exact ca0
        have cb2 : wq.cell? ⟨ga, ki * 2 + 1, none⟩ = some (.string x2) := by rw [← hwq]; exact ca1
        clear hwq
        go_wp2_with (at_builtin; refine wpList_append_lies _ rfl _ _ 30 rfl w.heap.size 34 i0 _ 2 32 Try.underlying30 hi0 hz0 hz1 hz2 rfl (by decide) _ _ _ rfl (O2.out.alloc _) ⟨wq.heap.size, 0, none⟩ 1 1 [.string x1, .string x2] rfl rfl (World.news_of_block (cs := #[.string x1, .string x2]) (t := 34) (fr := (0, 0)) (heap_alloc_new wq _)) (by simp [Value.oneCell']) (by omega) (by unfold maxLen; omega) (by omega) (by simp; omega) (wq.heap.size + 1) (by simp) ?_; intro g' cap' w3 ho3 hg3 hat3 hlt3)
        obtain ⟨r1, r2⟩ := app_row HL.out O2.out HBe.out HBq.out ho3 hg3
        have hst : (ls ++ [(x1, x2)]) ++ mergeL (la.drop (ki + 1)) (lb.drop (kj)) = mergeL la lb := by
          rw [← HM.out, mergeL_left hila (.inl (by rw [HNB.out]; omega)), HX.out, List.append_assoc]; rfl
        go_roundw
        case rel => exact ⟨ki + 1, kj, cap', some ⟨g', 0, none⟩, _, by rw [show ki + 1 + kj = ki + kj + 1 from by omega], by go_num, by go_num, by omega, by omega, by rw [List.length_append, HL.out, show ki + 1 + kj = ki + kj + 1 from by omega]; rfl, by rw [List.length_append, HL.out] at r1; rw [show ki + 1 + kj = ki + kj + 1 from by omega]; exact r1, hst, r2⟩
        case measure => simp [intOf]; omega
    · by_cases hltb : kj < nb
      · obtain ⟨gb, rfl, hgb, rb0, rb1⟩ := row_line HB.out HNB.out hltb
        have hjlb : kj < lb.length := by rw [HNB.out]; exact hltb
        have cb0 : wr.cell? ⟨gb, kj * 2, none⟩ = some (.string lb[kj].1) := (HBe.out.cell (p := ⟨gb, kj * 2, none⟩) hgb).trans rb0
        have cb1 : wr.cell? ⟨gb, kj * 2 + 1, none⟩ = some (.string lb[kj].2) := (HBe.out.cell (p := ⟨gb, kj * 2 + 1, none⟩) hgb).trans rb1
        obtain ⟨y1, hy1⟩ : ∃ y1, lb[kj].1 = y1 := ⟨_, rfl⟩
        obtain ⟨y2, hy2⟩ : ∃ y2, lb[kj].2 = y2 := ⟨_, rfl⟩
        rw [hy1] at cb0
        rw [hy2] at cb1
        have HY : Hid (lb[kj] = (y1, y2)) := Prod.ext hy1 hy2
        clear rb0 rb1 hy1 hy2
        have HNL : Hid (na ≤ ki) := Nat.not_lt.1 hlta
        have hgn : decide (ki < na) = false := by simp; omega
        have hgm : decide (nb ≤ kj) = false := by simp; omega
        clear hlta
        go_wp2_with fail
        go_quiet (fail)
        obtain ⟨wq, hwq⟩ : ∃ wq, wr.drewN nq = wq := ⟨_, rfl⟩
        rw [hwq]
        have HBq : Hid (Below wr.heap.size wr wq) := by rw [← hwq]; exact (Below.refl _ wr).grown (grown_drewN wr nq) (Nat.le_refl _) (fun k e => by cases e)
        have O2 : Hid (wq.ownsRow w.heap.size 34 2 (.slice a (ki + kj) cap) (ki + kj) (cellsL ls)) := owns_below HW.out HBq.out
        have hsz2 : w.heap.size ≤ wq.heap.size := Nat.le_trans HBe.out.size HBq.out.size
        have ca2 : wq.cell? ⟨gb, kj * 2, none⟩ = some (.string y1) := by rw [← hwq]; exact cb0
        have cb2 : wq.cell? ⟨gb, kj * 2 + 1, none⟩ = some (.string y2) := by rw [← hwq]; exact cb1
        clear hwq
        go_wp2_with (at_builtin; refine wpList_append_lies _ rfl _ _ 30 rfl w.heap.size 34 i0 _ 2 32 Try.underlying30 hi0 hz0 hz1 hz2 rfl (by decide) _ _ _ rfl (O2.out.alloc _) ⟨wq.heap.size, 0, none⟩ 1 1 [.string y1, .string y2] rfl rfl (World.news_of_block (cs := #[.string y1, .string y2]) (t := 34) (fr := (0, 0)) (heap_alloc_new wq _)) (by simp [Value.oneCell']) (by omega) (by unfold maxLen; omega) (by omega) (by simp; omega) (wq.heap.size + 1) (by simp) ?_; intro g' cap' w3 ho3 hg3 hat3 hlt3)
        obtain ⟨r1, r2⟩ := app_row HL.out O2.out HBe.out HBq.out ho3 hg3
        have hst : (ls ++ [(y1, y2)]) ++ mergeL (la.drop (ki)) (lb.drop (kj + 1)) = mergeL la lb := by
          rw [← HM.out, mergeL_right hjlb (.inl (by rw [HNA.out]; exact HNL.out)), HY.out, List.append_assoc]; rfl
        go_roundw
        case rel => exact ⟨ki, kj + 1, cap', some ⟨g', 0, none⟩, _, rfl, by go_num, by go_num, by omega, by omega, by rw [List.length_append, HL.out]; rfl, by rw [List.length_append, HL.out] at r1; exact r1, hst, r2⟩
        case measure => simp [intOf]; omega
      · go_wp2_with fail
        go_ret
        obtain rfl : ki = na := by omega
        obtain rfl : kj = nb := by omega
        have hm := HM.out
        rw [List.drop_eq_nil_of_le (by rw [HNA.out]; exact Nat.le_refl _), mergeL_nil_left, List.drop_eq_nil_of_le (by rw [HNB.out]; exact Nat.le_refl _), List.append_nil] at hm
        exact ⟨_, rfl, by rw [← hm, HL.out]; exact HW.out, HBe.out⟩
end Go.Proofs.Qxb6612439a
