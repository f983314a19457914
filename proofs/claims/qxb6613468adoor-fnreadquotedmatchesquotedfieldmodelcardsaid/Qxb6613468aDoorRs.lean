/-
  (*bufio.Reader).ReadSlice (24): its loop.
-/
import Derived.Test.Qxb6613468aDoorSmallB
namespace Go.Proofs.Qxb6613468aDoor
open Go.RowKit

noncomputable def rsB : Code := ((Tryd.f24.body.map loopsOf).getD [])[0]?.getD .skip

set_option maxRecDepth 1000000 in
set_option maxHeartbeats 4000000 in
theorem rs_loop (c2 c3 c8 c114 c115 c116 c117 c118 c119 c120 c121 c122 c123 c124 c125 c126 c127 c128 c129 u7 u9 u10 u11 u12 u13 u14 u15 u16 u17 u18 u19 u20 u21 u22 u23 u24 u25 u26 u27 u28 u29 u30 u31 u32 u33 u34 u35 u36 u37 u38 u39 u40 u41 u42 u43 u44 u45 u46 u47 u48 u49 u50 u51 u52 u53 u54 u55 u56 u57 u58 u59 u60 u61 u62 u63 u64 u65 u66 u67 u68 u69 u70 u71 u72 u73 u74 u75 u76 u77 u78 u79 u80 u81 u82 u83 u84 u85 u86 u87 u88 u89 u90 u91 u92 u93 u94 u95 u96 u97 u98 u99 u100 u101 u102 u103 u104 u105 u106 u107 u108 u109 u110 u111 u112 u113 : Value) (bb sb rb r0 q0 i0 : Nat) (s : ByteArray) (l0 : List UInt8) (a1 a2 : Addr) (w : World) (Q : Exit → Act → World → Prop)
    (hB : BR w bb sb rb s r0 q0 i0 .nilIface l0) (hg : w.cell? ⟨1, 0, none⟩ = some (.iface 70 (.pointer (some a1)))) (hn1 : ¬ Bs bb sb rb 1) (hg2 : w.cell? ⟨2, 0, none⟩ = some (.iface 70 (.pointer (some a2)))) (hn2 : ¬ Bs bb sb rb 2)
    (hexit : ∀ a' w'', (∃ (u7 u9 u10 u11 u12 u13 u14 u15 u16 u17 u18 u19 u20 u21 u22 u23 u24 u25 u26 u27 u28 u29 u30 u31 u32 u33 u34 u35 u36 u37 u38 u39 u40 u41 u42 u43 u44 u45 u46 u47 u48 u49 u50 u51 u52 u53 u54 u55 u56 u57 u58 u59 u60 u61 u62 u63 u64 u65 u66 u67 u68 u69 u70 u71 u72 u73 u74 u75 u76 u77 u78 u79 u80 u81 u82 u83 u84 u85 u86 u87 u88 u89 u90 u91 u92 u93 u94 u95 u96 u97 u98 u99 u100 u101 u102 u103 u104 u105 u106 u107 u108 u109 u110 u111 u112 u113 x4 x5 x6 : Value), a' = ⟨((.pointer (some ⟨bb, 0, none⟩)) :: (.int .u8 10) :: c2 :: c3 :: (x4) :: (x5) :: (x6) :: u7 :: c8 :: u9 :: u10 :: u11 :: u12 :: u13 :: u14 :: u15 :: u16 :: u17 :: u18 :: u19 :: u20 :: u21 :: u22 :: u23 :: u24 :: u25 :: u26 :: u27 :: u28 :: u29 :: u30 :: u31 :: u32 :: u33 :: u34 :: u35 :: u36 :: u37 :: u38 :: u39 :: u40 :: u41 :: u42 :: u43 :: u44 :: u45 :: u46 :: u47 :: u48 :: u49 :: u50 :: u51 :: u52 :: u53 :: u54 :: u55 :: u56 :: u57 :: u58 :: u59 :: u60 :: u61 :: u62 :: u63 :: u64 :: u65 :: u66 :: u67 :: u68 :: u69 :: u70 :: u71 :: u72 :: u73 :: u74 :: u75 :: u76 :: u77 :: u78 :: u79 :: u80 :: u81 :: u82 :: u83 :: u84 :: u85 :: u86 :: u87 :: u88 :: u89 :: u90 :: u91 :: u92 :: u93 :: u94 :: u95 :: u96 :: u97 :: u98 :: u99 :: u100 :: u101 :: u102 :: u103 :: u104 :: u105 :: u106 :: u107 :: u108 :: u109 :: u110 :: u111 :: u112 :: u113 :: c114 :: c115 :: c116 :: c117 :: c118 :: c119 :: c120 :: c121 :: c122 :: c123 :: c124 :: c125 :: c126 :: c127 :: c128 :: c129 :: []).toArray, []⟩ ∧ Hid (SlicePost bb sb rb s (.iface 70 (.pointer (some a1))) (.iface 70 (.pointer (some a2))) (remB l0 r0 q0 s i0) w x4 x5 w'')) → Q (.exit 0) a' w'') :
    Code.wp Tryd.prog (Code.loop rsB) Q ⟨((.pointer (some ⟨bb, 0, none⟩)) :: (.int .u8 10) :: c2 :: c3 :: (.slice none 0 0) :: (.nilIface) :: (.int .i64 0) :: u7 :: c8 :: u9 :: u10 :: u11 :: u12 :: u13 :: u14 :: u15 :: u16 :: u17 :: u18 :: u19 :: u20 :: u21 :: u22 :: u23 :: u24 :: u25 :: u26 :: u27 :: u28 :: u29 :: u30 :: u31 :: u32 :: u33 :: u34 :: u35 :: u36 :: u37 :: u38 :: u39 :: u40 :: u41 :: u42 :: u43 :: u44 :: u45 :: u46 :: u47 :: u48 :: u49 :: u50 :: u51 :: u52 :: u53 :: u54 :: u55 :: u56 :: u57 :: u58 :: u59 :: u60 :: u61 :: u62 :: u63 :: u64 :: u65 :: u66 :: u67 :: u68 :: u69 :: u70 :: u71 :: u72 :: u73 :: u74 :: u75 :: u76 :: u77 :: u78 :: u79 :: u80 :: u81 :: u82 :: u83 :: u84 :: u85 :: u86 :: u87 :: u88 :: u89 :: u90 :: u91 :: u92 :: u93 :: u94 :: u95 :: u96 :: u97 :: u98 :: u99 :: u100 :: u101 :: u102 :: u103 :: u104 :: u105 :: u106 :: u107 :: u108 :: u109 :: u110 :: u111 :: u112 :: u113 :: c114 :: c115 :: c116 :: c117 :: c118 :: c119 :: c120 :: c121 :: c122 :: c123 :: c124 :: c125 :: c126 :: c127 :: c128 :: c129 :: []).toArray, []⟩ w := by
  conv => arg 2; arg 1; whnf
  have HE : Hid _ := hexit
  have HG : Hid (w.cell? ⟨1, 0, none⟩ = some (.iface 70 (.pointer (some a1)))) := hg
  have HN1 : Hid (¬ Bs bb sb rb 1) := hn1
  have HG2 : Hid (w.cell? ⟨2, 0, none⟩ = some (.iface 70 (.pointer (some a2)))) := hg2
  have HN2 : Hid (¬ Bs bb sb rb 2) := hn2
  have HB0 : Hid (BR w bb sb rb s r0 q0 i0 .nilIface l0) := hB
  clear hB hexit hg hn1 hg2 hn2
  go_loopw [4, 5, 6] (fun x4 x5 x6 wr => ∃ (r q i sN : Nat) (e : Value) (l : List UInt8), x4 = .slice none 0 0 ∧ x5 = .nilIface ∧ x6 = .int .i64 sN ∧ Hid (BR wr bb sb rb s r q i e l) ∧ r + sN ≤ q ∧ Hid ((10 : UInt8) ∉ (l.drop r).take sN) ∧ Hid (e = .nilIface ∨ (e = .iface 70 (.pointer (some a1)) ∧ s.size ≤ i ∧ r + sN = q)) ∧ Hid (remB l r q s i = remB l0 r0 q0 s i0) ∧ Hid (Only (Bs bb sb rb) w wr)) (fun _ _ _ wr => meas bb wr)
  case atStart => exact ⟨r0, q0, i0, 0, .nilIface, l0, rfl, rfl, rfl, HB0, HB0.out.hrq, by rw [List.take_zero]; exact List.not_mem_nil, .inl rfl, rfl, Only.refl _ _⟩
  case round =>
    obtain ⟨r, q, i, sN, e, l, rfl, rfl, rfl, HB, hsq, HNO, HEE, HREM, HO⟩ := hrel
    clear HB0
    have hq4 := HB.out.hq
    have HNE : Hid (bb ≠ sb ∧ bb ≠ rb ∧ sb ≠ rb) := HB.out.nbs
    obtain ⟨x, y, hb⟩ := HB.out.hb
    have b0 : wr.cell? ⟨bb, 0, none⟩ = some (.slice (some ⟨rb, 0, none⟩) 4096 4096) := by rw [cell_of_row wr bb 0 _ _ _ hb]; rfl
    have b2 : wr.cell? ⟨bb, 2, none⟩ = some (.int .i64 r) := by rw [cell_of_row wr bb 2 _ _ _ hb]; rfl
    have b3 : wr.cell? ⟨bb, 3, none⟩ = some (.int .i64 q) := by rw [cell_of_row wr bb 3 _ _ _ hb]; rfl
    have b4 : wr.cell? ⟨bb, 4, none⟩ = some e := by rw [cell_of_row wr bb 4 _ _ _ hb]; rfl
    have f2 : wr.frozen? ⟨bb, 2, none⟩ = false := free_of_row hb
    have HBB : Hid (wr.heap[bb]? = some (.cells (cellsB sb rb r q e x y) 62 (0, 0))) := hb
    clear hb
    obtain ⟨off1, hif, hin⟩ := HB.out.inAt (r + sN) (by omega)
    obtain ⟨y1, hy1⟩ : ∃ y1, (l.drop (r + sN)).take (q - (r + sN)) = y1 := ⟨_, rfl⟩
    have hyl : y1.length = q - (r + sN) := by rw [← hy1, List.length_take, List.length_drop, HB.out.hl]; omega
    rw [hy1] at hin
    have HY : Hid ((l.drop (r + sN)).take (q - (r + sN)) = y1) := hy1
    have HROW : Hid (RowB wr (.slice (some ⟨rb, off1, none⟩) (q - (r + sN)) (4096 - (r + sN))) y1) := .inr ⟨rb, off1, _, by rw [hyl], by omega, hin⟩
    have hi0' : (0 : Int) ≤ (r : Int) + (sN : Int) := by omega
    have hi1' : (r : Int) + (sN : Int) ≤ (q : Int) := by omega
    have hi2' : (q : Int) ≤ 4096 := by omega
    have hwr : IntKind.i64.wrap ((r : Int) + (sN : Int)) = (r : Int) + (sN : Int) := by rw [IntKind.wrap_i64]; omega
    have htn : ((r : Int) + (sN : Int)).toNat = r + sN := by omega
    clear hin hy1
    rcases idx_cases y1 10 with ⟨hm, hno⟩ | ⟨o, hm, hol, hsp, hno⟩
    · have HIX : Hid (Calls Tryd.prog 20 #[.slice (some ⟨rb, off1, none⟩) (q - (r + sN)) (4096 - (r + sN)), .int .u8 10] wr.drew fun e w' => e = .returned (.int .i64 (-1)) ∧ wr.drew = w') := by rw [← hm]; exact idx_any _ y1 10 wr.drew HROW.out
      have HALL : Hid ((10 : UInt8) ∉ (l.drop r).take (q - r)) := none_plain HY.out.symm hsq HNO.out hno
      clear hm hno
      rcases HEE.out with he | ⟨he, hge, hrs⟩
      · subst he
        go_wp2_with fail
        go_region_held3 (fun w' => w'.cell? ⟨bb, 0, none⟩ = some (.slice (some ⟨rb, 0, none⟩) 4096 4096) ∧ w'.cell? ⟨bb, 2, none⟩ = some (.int .i64 r) ∧ w'.cell? ⟨bb, 3, none⟩ = some (.int .i64 q)) (first | exact ⟨by assumption, by assumption, by assumption⟩ | go_keep)
          (first
          | (go_at_call 20; refine Calls.mono HIX.out ?_; rintro e w' ⟨rfl, rfl⟩)
          | fail)
        go_wp2_with fail
        have hrq := HB.out.hrq
        have HBF : Hid (Calls Tryd.prog 27 #[.pointer (some ⟨bb, 0, none⟩)] wr.drew.drew fun e' w' => e' = .returned (.int .i64 (q - r : Nat)) ∧ ∃ n, wr.drew.drew.drewN n = w') := buffered_any bb sb rb r q .nilIface x y wr.drew.drew HBB.out hrq hq4
        go_region_held3 (fun w' => w'.cell? ⟨bb, 0, none⟩ = some (.slice (some ⟨rb, 0, none⟩) 4096 4096)) (first | assumption | go_keep)
          (first
          | (go_at_call 27; refine Calls.mono HBF.out ?_; rintro e w' ⟨rfl, nn, hw'⟩; have HW1 : Hid (w'.heap = wr.heap) := (by { rw [← hw']; exact rfl }); have HO1 : Hid (Only (Bs bb sb rb) w w') := (by { rw [← hw']; exact HO.out.drew.drew.drewN nn }); have k0 : w'.cell? ⟨bb, 0, none⟩ = some (.slice (some ⟨rb, 0, none⟩) 4096 4096) := (by { rw [← hw']; exact b0 }); clear hw')
          | fail)
        have HBB1 : Hid (w'.heap[bb]? = some (.cells (cellsB sb rb r q .nilIface x y) 62 (0, 0))) := by rw [HW1.out]; exact HBB.out
        have k2 : w'.cell? ⟨bb, 2, none⟩ = some (.int .i64 r) := by rw [cell_of_row w' bb 2 _ _ _ HBB1.out]; rfl
        have k3 : w'.cell? ⟨bb, 3, none⟩ = some (.int .i64 q) := by rw [cell_of_row w' bb 3 _ _ _ HBB1.out]; rfl
        clear b0 b2 b3 b4 f2
        have f2 : w'.frozen? ⟨bb, 2, none⟩ = false := free_of_row HBB1.out
        have g2 : w'.cell? ⟨2, 0, none⟩ = some (.iface 70 (.pointer (some a2))) := HO1.out.cell HG2.out HN2.out
        by_cases hfull : 4096 ≤ q - r
        · have hfi : (4096 : Int) ≤ ((q - r : Nat) : Int) := by omega
          have HR0 : Hid (r = 0 ∧ q = 4096) := ⟨by omega, by omega⟩
          go_wp2_with fail
          refine HE.out _ _ ⟨_, _, _, _, _, _, _, _, _, _, _, _, _, _, _, _, _, _, _, _, _, _, _, _, _, _, _, _, _, _, _, _, _, _, _, _, _, _, _, _, _, _, _, _, _, _, _, _, _, _, _, _, _, _, _, _, _, _, _, _, _, _, _, _, _, _, _, _, _, _, _, _, _, _, _, _, _, _, _, _, _, _, _, _, _, _, _, _, _, _, _, _, _, _, _, _, _, _, _, _, _, _, _, _, _, _, _, _, _, rfl, l, q, q, i, l, ?_, rfl, ?_, ⟨⟨x, y, ?_⟩, ?_, ?_, HB.out.hl, Nat.le_refl _, hq4, HB.out.hi, HB.out.hsz⟩, ⟨?_, .inr (.inl ⟨rfl, ?_, HB.out.hl⟩)⟩, HO1.out.setCell (p := ⟨bb, 2, none⟩) (.inl rfl) _⟩
          · refine .inr ⟨rb, 0, 4096, by rw [HB.out.hl], by rw [HB.out.hl]; omega, ?_⟩
            have h0 : In w' rb 0 l := ⟨_, _, by rw [HW1.out]; exact HB.out.hr, fun i hi => by simp [Lib.byteCells, hi]⟩
            exact h0.only ((Only.refl (fun k => k = bb) w').setCell (p := ⟨bb, 2, none⟩) rfl _) (fun e => HNE.out.2.1 e.symm)
          · rw [HB.out.hl]; omega
          · have h := heap_setCell_same w' bb 2 _ _ (.int .i64 q) HBB1.out
            simpa [cellsB] using h
          · obtain ⟨z, hz⟩ := HB.out.hs
            exact ⟨z, (Below.heap_setCell w' _ _ _ (fun e => HNE.out.1 e.symm)).trans (by rw [HW1.out]; exact hz)⟩
          · exact (Below.heap_setCell w' _ _ _ (fun e => HNE.out.2.1 e.symm)).trans (by rw [HW1.out]; exact HB.out.hr)
          · rw [← HREM.out]
            unfold remB
            rw [Nat.sub_self, List.take_zero, List.nil_append, HR0.out.1, List.drop_zero, Nat.sub_zero, List.take_of_length_le (by rw [HB.out.hl, HR0.out.2]; exact Nat.le_refl _)]
          · have h := HALL.out
            rw [HR0.out.1, List.drop_zero, Nat.sub_zero, List.take_of_length_le (by rw [HB.out.hl, HR0.out.2]; exact Nat.le_refl _)] at h
            exact h
        · have hfi : ¬ ((4096 : Int) ≤ ((q - r : Nat) : Int)) := by omega
          have e3 : ((q : Int) - (r : Int)) = ((q - r : Nat) : Int) := by omega
          go_wp2_with fail
          go_quiet (fail)
          obtain ⟨w1, hw1⟩ : ∃ w1, w'.drewN nq = w1 := ⟨_, rfl⟩
          rw [hw1]
          have HBR1 : Hid (BR w1 bb sb rb s r q i .nilIface l) := by
            rw [← hw1]
            refine ⟨⟨x, y, HBB1.out⟩, ?_, ?_, HB.out.hl, HB.out.hrq, HB.out.hq, HB.out.hi, HB.out.hsz⟩
            · obtain ⟨z, hz⟩ := HB.out.hs
              exact ⟨z, by show w'.heap[sb]? = _; rw [HW1.out]; exact hz⟩
            · show w'.heap[rb]? = _
              rw [HW1.out]; exact HB.out.hr
          have HO2 : Hid (Only (Bs bb sb rb) w w1) := by rw [← hw1]; exact HO1.out.drewN nq
          clear hw1 k0 k2 k3 f2 g2 HBB1 HO1 HW1
          go_wp2_with fail
          refine Calls.mono (fill_any bb sb rb r q i s l a1 w1 HBR1.out (by omega) (HO2.out.cell HG.out HN1.out) HN1.out) ?_
          rintro e' w2 ⟨rfl, lf, hlf, hfl⟩
          have HLF : Hid (lf.take (q - r) = (l.drop r).take (q - r)) := hlf
          have HFL : Hid (Filled w1 bb sb rb s (q - r) i (.iface 70 (.pointer (some a1))) lf w2) := hfl
          clear hlf hfl
          go_wp2_with fail
          rcases HFL.out with ⟨_, q', i', l', hqq, hbr, hrem, hon⟩ | ⟨hge, l', hbr, htk, hon⟩
          · go_roundw
            case rel =>
              refine ⟨0, q', i', q - r, .nilIface, l', rfl, rfl, rfl, hbr, by omega, ?_, .inl rfl, ?_, HO2.out.trans hon⟩
              · have h := congrArg (List.take (q - r)) hrem
                rw [List.take_append_of_le_length (by rw [List.length_take, hbr.hl]; have := hbr.hq; omega), List.take_append_of_le_length (by rw [HLF.out, List.length_take, List.length_drop, HB.out.hl]; omega), List.take_take, List.take_take, Nat.min_eq_left (by omega), Nat.min_self] at h
                rw [List.drop_zero, h, HLF.out]
                exact HALL.out
              · rw [← HREM.out]
                unfold remB
                rw [List.drop_zero, Nat.sub_zero, hrem, HLF.out]
                exact rfl
            case measure =>
              rw [hbr.meas, HB.out.meas]
              have := hbr.hq
              simp [nilN]
              omega
          · go_roundw
            case rel =>
              refine ⟨0, q - r, i, q - r, _, l', rfl, rfl, rfl, hbr, by omega, ?_, .inr ⟨rfl, hge, by omega⟩, ?_, HO2.out.trans hon⟩
              · rw [List.drop_zero, htk, HLF.out]
                exact HALL.out
              · rw [← HREM.out]
                unfold remB
                rw [List.drop_zero, Nat.sub_zero, htk, HLF.out]
                exact rfl
            case measure =>
              rw [hbr.meas, HB.out.meas]
              simp [nilN]
      · subst he
        have HGE : Hid (s.size ≤ i) := hge
        have HRS : Hid (r + sN = q) := hrs
        clear hrs
        obtain ⟨off2, hif2, hin2⟩ := HB.out.inAt r HB.out.hrq
        have hrq := HB.out.hrq
        have HIN2 : Hid (In wr rb off2 ((l.drop r).take (q - r))) := hin2
        clear hge hin2
        go_wp2_with fail
        go_region_held3 (fun w' => w'.cell? ⟨bb, 0, none⟩ = some (.slice (some ⟨rb, 0, none⟩) 4096 4096) ∧ w'.cell? ⟨bb, 2, none⟩ = some (.int .i64 r) ∧ w'.cell? ⟨bb, 3, none⟩ = some (.int .i64 q)) (first | exact ⟨by assumption, by assumption, by assumption⟩ | go_keep)
          (first
          | (go_at_call 20; refine Calls.mono HIX.out ?_; rintro e w' ⟨rfl, rfl⟩)
          | fail)
        have h5a : (0 : Int) ≤ (r : Int) := Int.natCast_nonneg _
        have h5b : (r : Int) ≤ (q : Int) := by omega
        go_wp2_with fail
        go_quiet (fail)
        obtain ⟨w1, hw1⟩ : ∃ w1, wr.drew.drewN nq = w1 := ⟨_, rfl⟩
        rw [hw1]
        have HH : Hid (w1.heap = wr.heap) := by rw [← hw1]; exact rfl
        have HO1 : Hid (Only (Bs bb sb rb) w w1) := by rw [← hw1]; exact HO.out.drew.drewN nq
        have HBB1 : Hid (w1.heap[bb]? = some (.cells (cellsB sb rb r q (.iface 70 (.pointer (some a1))) x y) 62 (0, 0))) := by rw [HH.out]; exact HBB.out
        clear hw1 b0 b2 b3 b4 f2
        have k2 : w1.cell? ⟨bb, 2, none⟩ = some (.int .i64 r) := by rw [cell_of_row w1 bb 2 _ _ _ HBB1.out]; rfl
        have k3 : w1.cell? ⟨bb, 3, none⟩ = some (.int .i64 q) := by rw [cell_of_row w1 bb 3 _ _ _ HBB1.out]; rfl
        have f2 : w1.frozen? ⟨bb, 2, none⟩ = false := free_of_row HBB1.out
        go_wp2_with fail
        obtain ⟨w2, hw2⟩ : ∃ w2, w1.setCell ⟨bb, 2, none⟩ (.int .i64 q) = w2 := ⟨_, rfl⟩
        rw [hw2]
        have HO2 : Hid (Only (Bs bb sb rb) w w2) := by rw [← hw2]; exact HO1.out.setCell (p := ⟨bb, 2, none⟩) (.inl rfl) _
        have HBB2 : Hid (w2.heap[bb]? = some (.cells (cellsB sb rb q q (.iface 70 (.pointer (some a1))) x y) 62 (0, 0))) := by
          have h := heap_setCell_same w1 bb 2 _ _ (.int .i64 q) HBB1.out
          have h2 : w2.heap[bb]? = some (.cells (cellsB sb rb q q (.iface 70 (.pointer (some a1))) x y) 62 (0, 0)) := by rw [← hw2]; simpa [cellsB] using h
          exact h2
        have HOT : Hid (∀ k, k ≠ bb → w2.heap[k]? = wr.heap[k]?) := fun k hk => by rw [← hw2, Below.heap_setCell w1 _ _ _ hk, HH.out]
        clear hw2 k2 k3 f2 HBB1 HO1 HH
        refine Calls.mono (readerr_any bb sb rb q q _ x y w2 HBB2.out) ?_
        rintro e' w3 ⟨rfl, hw3⟩
        have HW3 : Hid (w2.setCell ⟨bb, 4, none⟩ .nilIface = w3) := hw3
        clear hw3
        go_wp2_with fail
        refine HE.out _ _ ⟨_, _, _, _, _, _, _, _, _, _, _, _, _, _, _, _, _, _, _, _, _, _, _, _, _, _, _, _, _, _, _, _, _, _, _, _, _, _, _, _, _, _, _, _, _, _, _, _, _, _, _, _, _, _, _, _, _, _, _, _, _, _, _, _, _, _, _, _, _, _, _, _, _, _, _, _, _, _, _, _, _, _, _, _, _, _, _, _, _, _, _, _, _, _, _, _, _, _, _, _, _, _, _, _, _, _, _, _, _, rfl, (l.drop r).take (q - r), q, q, i, l, ?_, rfl, ?_, ⟨⟨x, y, ?_⟩, ?_, ?_, HB.out.hl, Nat.le_refl _, hq4, HB.out.hi, HB.out.hsz⟩, ⟨?_, .inr (.inr ⟨rfl, HALL.out, ?_⟩)⟩, ?_⟩
        · have hlen : ((l.drop r).take (q - r)).length = q - r := by rw [List.length_take, List.length_drop, HB.out.hl]; omega
          refine .inr ⟨rb, off2, 4096 - r, by rw [hlen], by rw [hlen]; omega, ?_⟩
          rw [← HW3.out]
          obtain ⟨cur, fr, g1, g2⟩ := HIN2.out
          refine ⟨cur, fr, ?_, g2⟩
          rw [Below.heap_setCell w2 _ _ _ (fun e => HNE.out.2.1 e.symm), HOT.out rb (fun e => HNE.out.2.1 e.symm)]
          exact g1
        · rw [List.length_take]; omega
        · rw [← HW3.out]
          have h := heap_setCell_same w2 bb 4 _ _ .nilIface HBB2.out
          simpa [cellsB] using h
        · obtain ⟨z, hz⟩ := HB.out.hs
          refine ⟨z, ?_⟩
          rw [← HW3.out, Below.heap_setCell w2 _ _ _ (fun e => HNE.out.1 e.symm), HOT.out sb (fun e => HNE.out.1 e.symm)]
          exact hz
        · rw [← HW3.out, Below.heap_setCell w2 _ _ _ (fun e => HNE.out.2.1 e.symm), HOT.out rb (fun e => HNE.out.2.1 e.symm)]
          exact HB.out.hr
        · rw [← HREM.out]
          unfold remB
          rw [Nat.sub_self, List.take_zero, List.nil_append]
        · unfold remB
          rw [Nat.sub_self, List.take_zero, List.nil_append, List.drop_eq_nil_of_le]
          rw [bytesOf_size]; exact HGE.out
        · rw [← HW3.out]; exact HO2.out.setCell (p := ⟨bb, 4, none⟩) (.inl rfl) _
    · have HIX : Hid (Calls Tryd.prog 20 #[.slice (some ⟨rb, off1, none⟩) (q - (r + sN)) (4096 - (r + sN)), .int .u8 10] wr.drew fun e w' => e = .returned (.int .i64 o) ∧ wr.drew = w') := by rw [← hm]; exact idx_any _ y1 10 wr.drew HROW.out
      clear hm
      have hoq : r + (o + sN) + 1 ≤ q := by omega
      have HOL : Hid (o < y1.length) := hol
      have HSP : Hid (y1 = y1.take o ++ 10 :: y1.drop (o + 1)) := hsp
      have HNO2 : Hid ((10 : UInt8) ∉ y1.take o) := hno
      clear hol hsp hno
      go_wp2_with fail
      go_region_held3 (fun w' => w'.cell? ⟨bb, 0, none⟩ = some (.slice (some ⟨rb, 0, none⟩) 4096 4096) ∧ w'.cell? ⟨bb, 2, none⟩ = some (.int .i64 r) ∧ w'.cell? ⟨bb, 3, none⟩ = some (.int .i64 q)) (first | exact ⟨by assumption, by assumption, by assumption⟩ | go_keep)
        (first
        | (go_at_call 20; refine Calls.mono HIX.out ?_; rintro e w' ⟨rfl, rfl⟩)
        | fail)

      have h5a : (0 : Int) ≤ (r : Int) := Int.natCast_nonneg _
      have h5b : (r : Int) ≤ (r : Int) + ((o : Int) + (sN : Int)) + 1 := by omega
      have h5c : (r : Int) + ((o : Int) + (sN : Int)) + 1 ≤ 4096 := by omega
      have htn5 : ((r : Int) + ((o : Int) + (sN : Int)) + 1).toNat = r + (o + sN) + 1 := by omega
      have hne4 : ¬ 4096 = r := by omega
      have hsub : r + (o + sN) + 1 - r = o + sN + 1 := by omega
      go_wp2_with fail
      go_quiet (fail)
      obtain ⟨w1, hw1⟩ : ∃ w1, wr.drew.drewN nq = w1 := ⟨_, rfl⟩
      rw [hw1]
      have HH : Hid (w1.heap = wr.heap) := by rw [← hw1]; exact rfl
      have HO1 : Hid (Only (Bs bb sb rb) w w1) := by rw [← hw1]; exact HO.out.drew.drewN nq
      have HBB1 : Hid (w1.heap[bb]? = some (.cells (cellsB sb rb r q e x y) 62 (0, 0))) := by rw [HH.out]; exact HBB.out
      clear hw1 b0 b2 b3 b4 f2
      have k2 : w1.cell? ⟨bb, 2, none⟩ = some (.int .i64 r) := by rw [cell_of_row w1 bb 2 _ _ _ HBB1.out]; rfl
      have f2 : w1.frozen? ⟨bb, 2, none⟩ = false := free_of_row HBB1.out
      go_wp2_with fail
      obtain ⟨p1, p2, p3⟩ := found_plain (l := l) (r := r) (sN := sN) (q := q) (o := o) HY.out.symm (by have := HOL.out; omega) HSP.out HNO.out HNO2.out hoq
      have HEN : Hid (e = .nilIface) := by
        rcases HEE.out with h | ⟨_, _, h⟩
        · exact h
        · exact absurd HOL.out (by omega)
      have he := HEN.out
      subst he
      refine HE.out _ _ ⟨_, _, _, _, _, _, _, _, _, _, _, _, _, _, _, _, _, _, _, _, _, _, _, _, _, _, _, _, _, _, _, _, _, _, _, _, _, _, _, _, _, _, _, _, _, _, _, _, _, _, _, _, _, _, _, _, _, _, _, _, _, _, _, _, _, _, _, _, _, _, _, _, _, _, _, _, _, _, _, _, _, _, _, _, _, _, _, _, _, _, _, _, _, _, _, _, _, _, _, _, _, _, _, _, _, _, _, _, _, rfl, (l.drop r).take (o + sN + 1), r + (o + sN) + 1, q, i, l, ?_, rfl, ?_, ⟨⟨x, y, ?_⟩, ?_, ?_, HB.out.hl, hoq, hq4, HB.out.hi, HB.out.hsz⟩, ⟨?_, .inl ⟨rfl, _, p1, p2⟩⟩, HO1.out.setCell (p := ⟨bb, 2, none⟩) (.inl rfl) _⟩
      · have hlen : ((l.drop r).take (o + sN + 1)).length = o + sN + 1 := by rw [List.length_take, List.length_drop, HB.out.hl]; omega
        refine .inr ⟨rb, r, 4096 - r, by rw [hlen], by rw [hlen]; omega, ?_⟩
        have h0 : In w1 rb 0 l := ⟨_, _, by rw [HH.out]; exact HB.out.hr, fun i hi => by simp [Lib.byteCells, hi]⟩
        have h1 := (h0.drop r).take (o + sN + 1)
        rw [Nat.zero_add] at h1
        exact h1.only ((Only.refl (fun k => k = bb) w1).setCell (p := ⟨bb, 2, none⟩) rfl _) (fun e => HNE.out.2.1 e.symm)
      · rw [List.length_take]; omega
      · have h := heap_setCell_same w1 bb 2 _ _ (.int .i64 (r + (o + sN) + 1 : Nat)) HBB1.out
        have e5 : ((r : Int) + ((o : Int) + (sN : Int) + 1)) = ((r + (o + sN) + 1 : Nat) : Int) := by omega
        rw [e5]
        simpa [cellsB] using h
      · obtain ⟨z, hz⟩ := HB.out.hs
        exact ⟨z, (Below.heap_setCell w1 _ _ _ (fun e => HNE.out.1 e.symm)).trans (by rw [HH.out]; exact hz)⟩
      · exact (Below.heap_setCell w1 _ _ _ (fun e => HNE.out.2.1 e.symm)).trans (by rw [HH.out]; exact HB.out.hr)
      · rw [← HREM.out]
        unfold remB
        rw [p3, List.append_assoc]
end Go.Proofs.Qxb6613468aDoor
