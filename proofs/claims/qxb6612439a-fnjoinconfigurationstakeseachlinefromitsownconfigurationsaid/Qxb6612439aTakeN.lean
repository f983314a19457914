/-
  The law TakesEachLine (3), at a nil slice.
-/
import Derived.Test.Qxb6612439aTake
namespace Go.Proofs.Qxb6612439a
open Go.RowKit Go.Shelf

set_option maxRecDepth 1000000 in
set_option maxHeartbeats 8000000 in
theorem take_nil  (a1 : Option Addr) (n1 cap1 : Nat) (ps : List (ByteArray × Int)) (w : World) 
    (hn1 : ps.length = n1) (h1 : RowP w w.heap.size (.slice a1 n1 cap1) ps) (hmax1 : n1 ≤ maxLen) (hsz1 : ∀ p ∈ ps, p.1.size ≤ maxLen) (hwf1 : ∀ p ∈ ps, (Lit.int .i64 p.2).wf = true)
    (m : Int) (hm : w.cell? ⟨0, 0, none⟩ = some (.int .i64 m)) :
    Calls Try.prog 3 #[(.slice none 0 0), .slice a1 n1 cap1] w fun e w' => e = .returned (.bool true) ∧ Below w.heap.size w w' := by
  have h : RowS w w.heap.size (.slice none 0 0) [] := ⟨none, 0, rfl, fun _ => rfl, .inl rfl⟩
  have hn : ([] : List ByteArray).length = 0 := rfl
  have hzb := zb5_any none 0 0 [] a1 n1 cap1 ps w hn h (Nat.zero_le _) (fun k => by simp) hn1 h1 hmax1 hsz1
  have HZ : Hid (Calls Try.prog 5 #[(.slice none 0 0), .slice a1 n1 cap1] w fun e w' => (e = .returned (.bool false) ∨ (e = .returned (.bool true) ∧ Bounded true (0 + sumS 0 [] + n1 + sumP 0 ps n1))) ∧ w = w') := hzb
  have HR : Hid (RowS w w.heap.size (.slice none 0 0) []) := h
  have HP : Hid (RowP w w.heap.size (.slice a1 n1 cap1) ps) := h1
  have HM : Hid (w.cell? ⟨0, 0, none⟩ = some (.int .i64 m)) := hm
  have HN : Hid (([] : List ByteArray).length = 0) := hn
  have HN1 : Hid (ps.length = n1) := hn1
  have HZ1 : Hid (∀ p ∈ ps, p.1.size ≤ maxLen) := hsz1
  have HF1 : Hid (∀ p ∈ ps, (Lit.int .i64 p.2).wf = true) := hwf1
  clear hzb h hm hn h1 hn1 hsz1 hwf1
  obtain ⟨i9, hi9, hz9, hs9, hb9⟩ := info_parts Try.info9
  obtain ⟨i0, hi0, hz0, hz1, hz2⟩ := info_parts Try.info30
  unfold maxLen at hmax1
  go_enter Try.func3, Try.ntmps3
  go_wp2_with fail
  refine Calls.mono HZ.out ?_
  rintro e w' ⟨rfl | ⟨rfl, hbd⟩, rfl⟩
  · go_wp2_with fail
    go_ret
    exact ⟨rfl, Below.refl _ _⟩
  · have hbd2 := hbd rfl
    clear hbd HZ
    by_cases h41 : n1 ≤ 4096
    · have HSS : Hid (sumS 0 [] ≤ 1048576) := by exact Nat.zero_le _
      have HSP : Hid (sumP 0 ps n1 ≤ 1048576) := Nat.le_trans (by omega) hbd2
      clear hbd2
      have hS2 : sumS 16 [] ≤ 2000000 := by
        have key : ∀ l : List ByteArray, sumS 16 l = sumS 0 l + 16 * l.length := by
          intro l; induction l with
          | nil => rfl
          | cons x l ih => simp [sumS, ih]; omega
        rw [key, HN.out]
        have := HSS.out
        omega
      have HB2 : Hid (Below w.heap.size w w) := Below.refl _ _
      have HR2 : Hid (RowS w w.heap.size (.slice none 0 0) []) := HR.out
      go_wp2_with fail
      have HC2 : Hid (w.cell? ⟨0, 0, none⟩ = some (.int .i64 m)) := (HB2.out.cell (p := ⟨0, 0, none⟩) (World.block_lt_of_cell? w _ HM.out)).trans HM.out
      have HP2 : Hid (RowP w w.heap.size (.slice a1 n1 cap1) ps) := HP.out.below HB2.out (Nat.le_refl _)
      have hw2 : w.heap.size ≤ w.heap.size := HB2.out.size
      refine Calls.mono (jbytes_any none 0 0 [] w HN.out HR2.out (by omega) HSS.out) ?_
      rintro e w' ⟨rfl, rfl⟩
      obtain ⟨S, hS⟩ : ∃ S, sumS 16 [] = S := ⟨_, rfl⟩
      rw [hS] at hS2 ⊢
      clear hS
      go_wp2_with fail
      refine loop1 _ _ _ _ _ _ _ _ _ _ _ _ _ _ _ _ _ _ _ _ _ _ _ _ _ _ _ _ _ _ _ _ _ _ _ _ _ _ _ _ _ _ _ _ _ _ _ _ _ _ _ _ _ _ _ _ _ _ _ _ _ _ _ _ _ _ _ _ _ _ _ _ _ _ _ _ _ _ _ _ _ _ _ _ _ _ _ _ _ _ _ _ _ _ _ _ _ _ _ _ _ _ _ _ _ _ _ _ _ _ _ _ _ _ _ _ _ _ _ _ _ _ _ _ _ _ _ _ _ _ _ _ _ _ _ _ _ _ _ _ _ _ _ _ _ _ _ _ _ _ _ _ _ _ _ _ _ _ _ _ _ _ _ _ _ _ _ _ _ _ _ _ _ _ _ _ _ _ _ _ _ _ _ _ _ _ _ _ a1 n1 cap1 S w.heap.size ps w _ HP2.out HN1.out h41 hS2 HSP.out ?_
      rintro a' w'' ⟨y43, y44, y45, y46, y47, y48, y49, y50, y51, y52, y53, y54, y55, y56, y57, y7, rfl, rfl⟩
      obtain ⟨S2, hS3⟩ : ∃ S2, S + sumP 16 ps n1 = S2 := ⟨_, rfl⟩
      rw [hS3]
      clear hS3 hS2
      by_cases htot : S2 ≤ 1048576
      · have hmm := make_map (n1 : Int) w
        go_wp2_with fail
        clear hmm
        refine loop2 _ _ _ _ _ _ _ _ _ _ _ _ _ _ _ _ _ _ _ _ _ _ _ _ _ _ _ _ _ _ _ _ _ _ _ _ _ _ _ _ _ _ _ _ _ _ _ _ _ _ _ _ _ _ _ _ _ _ _ _ _ _ _ _ _ _ _ _ _ _ _ _ _ _ _ _ _ _ _ _ _ _ _ _ _ _ _ _ _ _ _ _ _ _ _ _ _ _ _ _ _ _ _ _ _ _ _ _ _ _ _ _ _ _ _ _ _ _ _ _ _ _ _ _ _ _ _ _ _ _ _ _ _ _ _ _ _ _ _ _ _ _ _ _ _ _ _ _ _ _ _ _ _ _ _ _ _ _ _ _ _ _ _ _ _ _ _ _ _ _ _ _ _ _ _ _ _ _ _ _ _ _ _ _ _ _ _ _ a1 n1 cap1 w.heap.size w.heap.size ps (w.alloc (.map #[] 0)) _ (HP2.out.below ((Below.refl _ w).alloc hw2 _) (Nat.le_refl _)) hw2 (by simp) HN1.out h41 HZ1.out HF1.out (World.ownsMap_made w Try.prog 9 (plainElem Try.prog 3)) ?_
        rintro a' w3 ⟨y63, y64, y65, y66, y67, y68, y69, y70, y71, y72, y73, y74, y75, y76, y77, y78, y79, y9, D, rfl, HMD, HB3⟩
        have HB23 : Hid (Below w.heap.size w w3) := ((Below.refl _ w).alloc (Nat.le_refl _) _).trans HB3.out
        have hw3 : w.heap.size < w3.heap.size := by have := HB3.out.size; simp at this; omega
        have HR3 : Hid (RowS w3 w3.heap.size (.slice none 0 0) []) := (HR2.out.below HB23.out (Nat.le_refl _)).mono (Nat.le_of_lt hw3)
        clear HB3
        go_wp2_with (refine wpList_make_own _ rfl _ _ 29 rfl w3.heap.size 30 i0 _ 1 Try.underlying29 hi0 hz0 hz1 .i64 .i64 _ 0 rfl rfl rfl (by rw [hz2]; omega) (by unfold maxLen; omega) (Nat.le_refl _) ?_; intro w4 hom hgm; have HB4 : Hid (Below w3.heap.size w3 w4) := ⟨hgm.os, hgm.tape, hgm.output, hgm.size, fun k hk => hgm.block k hk (by simp)⟩; have HRm : Hid (Runs w4 w3.heap.size (.slice (some ⟨w3.heap.size, 0, none⟩) 0 0) [] []) := Runs.start hom; clear hom hgm)
        have hM4 : OwnM w4 w.heap.size n1 D := HMD.out.below HB4.out hw3
        refine loop3 _ _ _ _ _ _ _ _ _ _ _ _ _ _ _ _ _ _ _ _ _ _ _ _ _ _ _ _ _ _ _ _ _ _ _ _ _ _ _ _ _ _ _ _ _ _ _ _ _ _ _ _ _ _ _ _ _ _ _ _ _ _ _ _ _ _ _ _ _ _ _ _ _ _ _ _ _ _ _ _ _ _ _ _ _ _ _ _ _ _ _ _ _ _ _ _ _ _ _ _ _ _ _ _ _ _ _ _ _ _ _ _ _ _ _ _ _ _ _ _ _ _ _ _ _ _ _ _ _ _ _ _ _ _ _ _ _ _ _ _ _ _ _ _ _ _ _ _ _ _ _ _ _ _ _ _ _ _ _ _ _ _ _ _ _ _ _ _ _ _ _ _ _ _ _ _ _ _ _ _ _ _ _ _ _ _ _ none (some ⟨w3.heap.size, 0, none⟩) 0 0 0 w.heap.size n1 w3.heap.size D [] w4 _ HB4.out.size (HR3.out.below HB4.out (Nat.le_refl _)) HN.out (by omega) HSS.out hM4 hw3 HRm.out ?_ ?_
        · rintro a' w5 ⟨y4, y12, y13, y14, y83, y84, y85, y86, y87, y88, y89, y90, y91, y92, y93, y94, y95, y96, y97, y98, y99, y100, y101, y102, y103, y104, y105, y106, y107, y108, y109, y110, y111, y112, y113, y114, y115, y116, y117, y118, y119, y120, y121, y122, x10, x11, lss, rfl, ⟨a2, cap2, vs, rfl, hll, hruns⟩, HK, HB5⟩
          have HRN : Hid (Runs w5 w3.heap.size (.slice a2 0 cap2) vs lss) := hruns
          have HLL : Hid (lss.length = 0) := hll
          have HB35 : Hid (Below w3.heap.size w3 w5) := HB4.out.trans HB5.out
          clear hruns hll hM4 HB4 HRm HB5
          go_wp2_with fail
          refine loop5 _ _ _ _ _ _ _ _ _ _ _ _ _ _ _ _ _ _ _ _ _ _ _ _ _ _ _ _ _ _ _ _ _ _ _ _ _ _ _ _ _ _ _ _ _ _ _ _ _ _ _ _ _ _ _ _ _ _ _ _ _ _ _ _ _ _ _ _ _ _ _ _ _ _ _ _ _ _ _ _ _ _ _ _ _ _ _ _ _ _ _ _ _ _ _ _ _ _ _ _ _ _ _ _ _ _ _ _ _ _ _ _ _ _ _ _ _ _ _ _ _ _ _ _ _ _ _ _ _ _ _ _ _ _ _ _ _ _ _ _ _ _ _ _ _ _ _ _ _ _ _ _ _ _ _ _ _ _ _ _ _ _ _ _ _ _ _ _ _ _ _ _ _ _ _ _ _ _ _ _ _ _ _ _ _ _ _ _ _ _ a2 0 cap2 w3.heap.size vs lss w5 _ HRN.out HLL.out (by omega) HK.out.good (Nat.le_trans (pick_len HK.out) HSS.out) ?_
          rintro a' w6 ⟨y15, y16, y123, y124, y125, y126, y127, y128, y129, y130, y131, y132, y133, y134, y135, y136, y137, y138, y139, y140, y141, y142, y143, y144, y145, y146, y147, y148, y149, y150, y151, y152, y153, y154, y155, y156, y157, y158, y159, y160, y161, y162, x10, vs', fin, rfl, ⟨a3, n3, cap3, B3, rfl, hfl, hn3, hruns⟩, HPM, HGD, HB6⟩
          have HRF : Hid (Runs w6 B3 (.slice a3 n3 cap3) vs' fin) := hruns
          have HFL : Hid (fin.length = n3) := hfl
          have HB36 : Hid (Below w3.heap.size w3 w6) := HB35.out.trans (HB6.out.mono HB35.out.size)
          have HTL : Hid ((fin.flatten.map fun p => bytesOf p.2).flatten.length ≤ 1048576) := Nat.le_trans (texts_len HK.out HPM.out) HSS.out
          have HFN : Hid (fin.flatten.length ≤ 1048576) := by rw [HPM.out.length_eq]; exact Nat.le_trans (pick_len HK.out) HSS.out
          clear hruns hfl HB6 HB35 HRN
          by_cases hn31 : n3 = 1
          · subst hn31
            obtain ⟨l, hl⟩ : ∃ l, fin = [l] := List.length_eq_one_iff.1 HFL.out
            subst hl
            have hll : l.length ≤ 1048576 := by simpa using HFN.out
            have htt : (textsTo l l.length).length ≤ 1048576 := by rw [textsTo_all]; simpa using HTL.out
            go_wp2_with fail
            refine loop7 _ _ _ _ _ _ _ _ _ _ _ _ _ _ _ _ _ _ _ _ _ _ _ _ _ _ _ _ _ _ _ _ _ _ _ _ _ _ _ _ _ _ _ _ _ _ _ _ _ _ _ _ _ _ _ _ _ _ _ _ _ _ _ _ _ _ _ _ _ _ _ _ _ _ _ _ _ _ _ _ _ _ _ _ _ _ _ _ _ _ _ _ _ _ _ _ _ _ _ _ _ _ _ _ _ _ _ _ _ _ _ _ _ _ _ _ _ _ _ _ _ _ _ _ _ _ _ _ _ _ _ _ _ _ _ _ _ _ _ _ _ _ _ _ _ _ _ _ _ _ _ _ _ _ _ _ _ _ _ _ _ _ _ _ _ _ _ _ _ _ _ _ _ _ _ _ _ _ _ _ _ _ _ _ _ _ _ _ a3 cap3 B3 vs' l w6 _ HRF.out hll htt ?_
            rintro a' w7 ⟨y166, y167, y168, y169, y170, y171, y172, y173, y174, y175, y176, y177, y178, y179, y180, y181, y182, x17, x18, rfl, ⟨a4, N, cap4, rfl, hbytes⟩, HB7⟩
            have HBY : Hid (w7.ownsRow w6.heap.size 5 1 (.slice a4 N cap4) N (Lib.byteCells (textsTo l l.length))) := hbytes
            have HB37 : Hid (Below w3.heap.size w3 w7) := HB36.out.trans (HB7.out.mono HB36.out.size)
            have htx0 : (([l] : List (List Line)).flatten.map fun p => bytesOf p.2).flatten = textsTo l l.length := by rw [textsTo_all]; simp
            have HTX : Hid ((([l] : List (List Line)).flatten.map fun p => bytesOf p.2).flatten = textsTo l l.length) := htx0
            clear htx0
            obtain ⟨TX, hTX⟩ : ∃ TX, textsTo l l.length = TX := ⟨_, rfl⟩
            rw [hTX] at HBY HTX
            clear hbytes HB7 hTX htt hll
            have HR7 : Hid (RowS w7 w7.heap.size (.slice none 0 0) []) := (HR3.out.below HB37.out (Nat.le_refl _)).mono HB37.out.size
            have HM7 : Hid (OwnM w7 w.heap.size n1 D) := HMD.out.below HB37.out hw3
            have HC7 : Hid (w7.cell? ⟨0, 0, none⟩ = some (.int .i64 m)) := ((HB23.out.trans (HB37.out.mono (Nat.le_of_lt hw3))).cell (p := ⟨0, 0, none⟩) (World.block_lt_of_cell? w _ HC2.out)).trans HC2.out
            go_wp2_with fail
            refine Calls.mono (from_any w.heap.size w7) ?_
            rintro e w8 ⟨rfl, hw8⟩
            subst hw8
            go_wp2_with fail
            refine Calls.mono (join_map none 0 0 [] w7 w.heap.size n1 D HN.out HR7.out (by omega) HSS.out m HC7.out HM7.out) ?_
            rintro e w9 ⟨r, rfl, hj, hb9⟩
            have hcv : (convert 36 9 (.slice a4 N cap4)).run Try.prog w9 = .ok (.string ⟨(TX : List UInt8).toArray⟩) w9 := conv_own (owns_below HBY.out (hb9))
            have hr : r = ⟨(TX : List UInt8).toArray⟩ := bytesOf_inj (by rw [take_plain HK.out hj HPM.out HGD.out (by simp), HTX.out]; simp [bytesOf])
            have HBF : Hid (Below w.heap.size w w9) := HB2.out.trans ((HB23.out.trans ((HB37.out.trans (hb9.mono HB37.out.size)).mono (Nat.le_of_lt hw3))).mono hw2)
            subst hr
            clear hj hb9
            go_wp2_with fail
            go_ret
            exact ⟨rfl, HBF.out⟩
          · have hn0 : n3 = 0 := by omega
            subst hn0
            have hf0 : fin = [] := List.length_eq_zero_iff.1 HFL.out
            subst hf0
            have HBY : Hid (w6.ownsRow w6.heap.size 5 1 (.slice none 0 0) 0 (Lib.byteCells [])) := World.ownsRow_nil _ _ _ _
            have HTX : Hid ((([] : List (List Line)).flatten.map fun p => bytesOf p.2).flatten = []) := rfl
            have HR7 : Hid (RowS w6 w6.heap.size (.slice none 0 0) []) := (HR3.out.below HB36.out (Nat.le_refl _)).mono HB36.out.size
            have HM7 : Hid (OwnM w6 w.heap.size n1 D) := HMD.out.below HB36.out hw3
            have HC7 : Hid (w6.cell? ⟨0, 0, none⟩ = some (.int .i64 m)) := ((HB23.out.trans (HB36.out.mono (Nat.le_of_lt hw3))).cell (p := ⟨0, 0, none⟩) (World.block_lt_of_cell? w _ HC2.out)).trans HC2.out
            go_wp2_with fail
            refine Calls.mono (from_any w.heap.size w6) ?_
            rintro e w8 ⟨rfl, hw8⟩
            subst hw8
            go_wp2_with fail
            refine Calls.mono (join_map none 0 0 [] w6 w.heap.size n1 D HN.out HR7.out (by omega) HSS.out m HC7.out HM7.out) ?_
            rintro e w9 ⟨r, rfl, hj, hb9⟩
            have hcv : (convert 36 9 (.slice none 0 0)).run Try.prog w9 = .ok (.string ⟨([] : List UInt8).toArray⟩) w9 := conv_own (owns_below HBY.out (hb9))
            have hr : r = ⟨([] : List UInt8).toArray⟩ := bytesOf_inj (by rw [take_plain HK.out hj HPM.out HGD.out (by simp), HTX.out]; simp [bytesOf])
            have HBF : Hid (Below w.heap.size w w9) := HB2.out.trans ((HB23.out.trans ((HB36.out.trans (hb9.mono HB36.out.size)).mono (Nat.le_of_lt hw3))).mono hw2)
            subst hr
            clear hj hb9
            go_wp2_with fail
            go_ret
            exact ⟨rfl, HBF.out⟩
        · rintro a' w5 ⟨y12, y13, y14, y83, y84, y85, y86, y87, y88, y89, y90, y91, y92, y93, y94, y95, y96, y97, y98, y99, y100, y101, y102, y103, y104, y105, y106, y107, y108, y109, y110, y111, y112, y113, y114, y115, y116, y117, y118, y119, y120, y121, y122, x10, x11, rfl, HB5⟩
          have HBF : Hid (Below w.heap.size w w5) := HB2.out.trans ((HB23.out.trans ((HB4.out.trans HB5.out).mono (Nat.le_of_lt hw3))).mono hw2)
          go_ret
          exact ⟨rfl, HBF.out⟩
      · go_wp2_with fail
        go_ret
        exact ⟨rfl, HB2.out⟩
    · go_wp2_with fail
      go_ret
      exact ⟨rfl, Below.refl _ _⟩

end Go.Proofs.Qxb6612439a
