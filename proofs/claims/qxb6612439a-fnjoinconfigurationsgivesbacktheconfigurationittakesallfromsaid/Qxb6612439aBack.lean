/-
  The law GivesBack (4).
-/
import Derived.Test.Qxb6612439aGive
import Derived.Laws.OwnMore
namespace Go.Proofs.Qxb6612439a
open Go.RowKit Go.Shelf

set_option maxHeartbeats 400000 in
theorem const_any (k : Int) (w : World) :
    Calls Try.prog 13 #[.int .i64 k] w fun e w' => e = .returned (.func (.func 23) #[] #[.pointer (some ⟨w.heap.size, 0, none⟩)]) ∧ w.alloc (.cells #[.int .i64 k] 3) = w' := by
  go_enter Try.func13, Try.ntmps13
  go_wp2
  go_ret
  exact ⟨rfl, rfl⟩

set_option maxHeartbeats 400000 in
theorem const1_any (k : Int) (nm : ByteArray) (b : Nat) (w : World) (h : w.cell? ⟨b, 0, none⟩ = some (.int .i64 k)) :
    Calls Try.prog 23 (#[.string nm] ++ #[.pointer (some ⟨b, 0, none⟩)]) w fun e w' => e = .returned (.int .i64 k) ∧ w = w' := by
  show Calls Try.prog 23 #[.string nm, .pointer (some ⟨b, 0, none⟩)] w _
  go_enter Try.func23, Try.ntmps23
  go_wp2
  go_ret
  exact ⟨rfl, rfl⟩

theorem join_const (k0 : Int) (a : Option Addr) (n cap : Nat) (ss : List ByteArray) (w : World) (hn : ss.length = n) (h : RowS w w.heap.size (.slice a n cap) ss) (hmax : n ≤ 1048576)
    (hsum : sumS 0 ss ≤ 1048576) (m : Int) (hm : w.cell? ⟨0, 0, none⟩ = some (.int .i64 m)) :
    Calls Try.prog 10 #[.slice a n cap, .func (.func 23) #[] #[.pointer (some ⟨w.heap.size, 0, none⟩)]] (w.alloc (.cells #[.int .i64 k0] 3)) fun e w' => ∃ r, e = .returned (.string r) ∧ Joined (fun _ => k0) ss r ∧ Below w.heap.size w w' := by
  have hb : Below w.heap.size w (w.alloc (.cells #[.int .i64 k0] 3)) := (Below.refl _ w).alloc (Nat.le_refl _) _
  have hc : (w.alloc (.cells #[.int .i64 k0] 3)).cell? ⟨w.heap.size, 0, none⟩ = some (.int .i64 k0) := by
    have h := World.alloc_heap_new w (.cells #[.int .i64 k0] 3)
    unfold World.cell?
    simp only [h]
    rfl
  refine (join_any 23 #[.pointer (some ⟨w.heap.size, 0, none⟩)] (fun _ => k0) a n cap ss _ hn ((h.below hb (Nat.le_refl _)).mono (by simp)) hmax hsum m ((hb.cell (p := ⟨0, 0, none⟩) (World.block_lt_of_cell? w _ hm)).trans hm)
    (enters_of Try.func23 (by kernel_rfl) rfl) (fun nm W hW => const1_any k0 nm w.heap.size W ((hW.cell (p := ⟨w.heap.size, 0, none⟩) (by simp)).trans hc))).mono ?_
  rintro e w' ⟨r, rfl, hj, hb2⟩
  exact ⟨r, rfl, hj, hb.trans (hb2.mono (by simp))⟩

theorem row_cell {w2 : World} {B b n cap k : Nat} {ss : List ByteArray} {c : ByteArray} (h : RowS w2 B (.slice (some ⟨b, 0, none⟩) n cap) ss) (hn : ss.length = n) (hk : k < n) (hc : ss[k]?.getD ByteArray.empty = c) : w2.cell? ⟨b, k, none⟩ = some (.string c) := by
  obtain ⟨b2, off, hbo, _, hcell⟩ := h.at hn hk
  simp only [Option.some.injEq, Addr.mk.injEq] at hbo
  obtain ⟨rfl, rfl, _⟩ := hbo
  rw [Nat.zero_add, hc] at hcell
  exact hcell

theorem Try.info9 : (Try.prog.info? 9).map (fun i => (i.zero, i.size, i.bytes)) = some (some (.string ⟨#[]⟩), 1, 16) := by kernel_rfl

set_option maxRecDepth 100000 in
set_option maxHeartbeats 2000000 in
theorem back_some (ad : Addr) (n cap : Nat) (ss : List ByteArray) (k0 : Int) (w : World) (hn : ss.length = n) (h : RowS w w.heap.size (.slice (some ad) n cap) ss) (hmax : n ≤ maxLen) (hsz : ∀ k : Nat, (ss[k]?.getD ByteArray.empty).size ≤ maxLen)
    (m : Int) (hm : w.cell? ⟨0, 0, none⟩ = some (.int .i64 m)) :
    Calls Try.prog 4 #[.slice (some ad) n cap, .int .i64 k0] w fun e w' => e = .returned (.bool true) ∧ Below w.heap.size w w' := by
  have hzb := zb12_any (some ad) n cap ss k0 w hn h hmax hsz
  have HZ : Hid (Calls Try.prog 12 #[.slice (some ad) n cap, .int .i64 k0] w fun e w' => (e = .returned (.bool false) ∨ (e = .returned (.bool true) ∧ Bounded true (n + sumS 0 ss))) ∧ w = w') := hzb
  have HR : Hid (RowS w w.heap.size (.slice (some ad) n cap) ss) := h
  have HM : Hid (w.cell? ⟨0, 0, none⟩ = some (.int .i64 m)) := hm
  have HN : Hid (ss.length = n) := hn
  clear hzb h hm hsz hn
  obtain ⟨i9, hi9, hz9, hs9, hb9⟩ := info_parts Try.info9
  unfold maxLen at hmax
  go_enter Try.func4, Try.ntmps4
  go_wp2_with fail
  refine Calls.mono HZ.out ?_
  rintro e w' ⟨rfl | ⟨rfl, hbd⟩, rfl⟩
  · go_wp2_with fail
    go_ret
    exact ⟨rfl, Below.refl _ _⟩
  · have hbd2 := hbd rfl
    clear hbd
    by_cases h4 : n ≤ 4096
    · have hsm : sumS 0 ss ≤ 1048576 := by omega
      have hjb := jbytes_any (some ad) n cap ss w HN.out HR.out (by omega) hsm
      have HJ : Hid (Calls Try.prog 6 #[.slice (some ad) n cap] w fun e w' => e = .returned (.int .i64 (sumS 16 ss : Nat)) ∧ w = w') := hjb
      clear hjb
      obtain ⟨S, hS⟩ : ∃ S, sumS 16 ss = S := ⟨_, rfl⟩
      rw [hS] at HJ
      have HSS : Hid (sumS 0 ss ≤ 1048576) := hsm
      clear hsm hbd2 hS HZ
      go_wp2_with fail
      refine Calls.mono HJ.out ?_
      rintro e w' ⟨rfl, rfl⟩
      by_cases hS2 : S ≤ 1048576
      · obtain ⟨w1, hmk, how, hgr⟩ := run_makeSlice_full (P := Try.prog) w w.heap.size 22 9 i9 _ 1 Try.underlying22 hi9 hz9 hs9 .i64 .i64 n (by omega) (by rw [hb9]; omega) (by unfold maxLen; omega) (Nat.le_refl _)
        obtain ⟨cur, hcur, hcl⟩ : ∃ cur : List Value, w1.heap[w.heap.size]? = some (.cells cur.toArray 9 (0, 0)) ∧ cur.length = n := by
          rcases how.2 with ⟨h1, _⟩ | ⟨g, c, cur, h1, _, h3, _, _, h6, _⟩
          · cases h1
          · simp only [Value.slice.injEq, Option.some.injEq, Addr.mk.injEq] at h1
            obtain ⟨⟨rfl, _, _⟩, _, rfl⟩ := h1
            exact ⟨cur.toList, h3, by simp [h6]⟩
        have hb1 : Below w.heap.size w w1 := ⟨hgr.os, hgr.tape, hgr.output, hgr.size, fun k hk => hgr.block k hk (by simp)⟩
        obtain ⟨CS, hCS⟩ : ∃ CS, CS = ss.map Value.string := ⟨_, rfl⟩
        have HCS : Hid (CS = ss.map Value.string) := hCS
        have hCl : CS.length = n := by rw [hCS, List.length_map]; exact HN.out
        have hC1 : ∀ v ∈ CS, v.oneCell' = true := by
          intro v hv; rw [hCS] at hv; obtain ⟨x, _, rfl⟩ := List.mem_map.1 hv; rfl
        have hCc : ∀ j v, CS[j]? = some v → w1.cell? (ad.add j) = some v := by
          intro j v hv
          have hj : j < n := by rw [← hCl]; exact (List.getElem?_eq_some_iff.1 hv).1
          obtain ⟨b, off, hbo, hbl, hcell⟩ := HR.out.at HN.out hj
          cases hbo
          have hadd : (⟨b, off, none⟩ : Addr).add j = ⟨b, off + j, none⟩ := by simp [Addr.add]
          rw [hadd]
          refine (hb1.cell (p := ⟨b, off + j, none⟩) hbl).trans (hcell.trans ?_)
          rw [hCS, List.getElem?_map] at hv
          cases hsj : ss[j]? with
          | none => rw [hsj] at hv; cases hv
          | some x => rw [hsj] at hv; exact hv
        have HCU : Hid (w1.heap[w.heap.size]? = some (.cells cur.toArray 9 (0, 0))) := hcur
        have HB1 : Hid (Below w.heap.size w w1) := hb1
        have HCl : Hid (CS.length = n) := hCl
        have HC1 : Hid (∀ v ∈ CS, v.oneCell' = true) := hC1
        have HCc : Hid (∀ j v, CS[j]? = some v → w1.cell? (ad.add j) = some v) := hCc
        have HCL : Hid (cur.length = n) := hcl
        clear hcur hb1 hCl hC1 hCc hcl how hgr hCS HJ
        by_cases hk : 0 ≤ k0 ∧ k0 < n
        · obtain ⟨kk, rfl⟩ := Int.eq_ofNat_of_zero_le hk.1
          have hkn : kk < n := by omega
          clear hk
          obtain ⟨c, hc⟩ : ∃ c, ss[kk]?.getD ByteArray.empty = c := ⟨_, rfl⟩
          have HSC : Hid (ss[kk]?.getD ByteArray.empty = c) := hc
          have hcs : c.size ≤ 1048576 := by
            rw [← hc]
            have h1 := sumS_take 0 ss kk (by rw [HN.out]; exact hkn)
            have h2 := sumS_le 0 ss (kk + 1)
            have := HSS.out
            omega
          clear hc
          go_wp2_with ((refine wpList_copy_splice rfl _ _ 22 22 rfl 9 Try.underlying22 (by kernel_rfl) (some ⟨w.heap.size, 0, none⟩) (some ad) n n n cap rfl rfl w.heap.size 0 cur 9 HCU.out CS (by rw [HCl.out]; exact (Nat.min_self n).symm) (fun _ => ⟨rfl, ad, rfl, HCc.out⟩) (by rw [HCl.out, HCL.out]; omega) HC1.out w.heap.size w HB1.out (Nat.le_refl _) ?_; intro w2 HG2 hB2; have HB2 : Hid (Below w.heap.size w w2) := hB2; clear hB2; have HR2 : Hid (RowS w2 w2.heap.size (.slice (some ⟨w.heap.size, 0, none⟩) n n) ss) := copied_row HN.out HCL.out (by have := (Array.getElem?_eq_some_iff.1 HG2.out).1; exact this) (by rw [← HCS.out]; exact HG2.out); have HM2 : Hid (w2.cell? ⟨0, 0, none⟩ = some (.int .i64 m)) := (HB2.out.cell (p := ⟨0, 0, none⟩) (World.block_lt_of_cell? w _ HM.out)).trans HM.out; have hcc : w2.cell? ⟨w.heap.size, kk, none⟩ = some (.string c) := row_cell HR2.out HN.out hkn HSC.out))
          refine Calls.mono (jsplit_any c w2 hcs) ?_
          rintro e w3 ⟨v, ls, rfl, hown, hsp, hb3⟩
          obtain ⟨va, vc, rfl⟩ := ownsRow_slice hown
          have hll : ls.length ≤ 1048576 := Nat.le_trans hsp.2.1 hcs
          have HO : Hid (w3.ownsRow w2.heap.size 34 2 (.slice va ls.length vc) ls.length (cellsL ls)) := hown
          have HSP : Hid (Split (bytesOf c) c.size ls) := hsp
          have HB3 : Hid (Below w2.heap.size w2 w3) := hb3
          clear hown hsp hb3
          go_wp2_with fail
          refine Calls.mono (jstrict_any w2.heap.size ls.length vc va ls w3 rfl HO.out hll) ?_
          rintro e w4 ⟨hres, q, hq⟩
          have hb4 : Below w.heap.size w w4 := by rw [← hq]; exact (HB2.out.trans (HB3.out.mono HB2.out.size)).grown (grown_drewN w3 q) (by have := HB2.out.size; have := HB3.out.size; omega) (fun k e => by cases e)
          have HB4 : Hid (Below w.heap.size w w4) := hb4
          have hb24 : Below w2.heap.size w2 w4 := by rw [← hq]; exact HB3.out.grown (grown_drewN w3 q) HB3.out.size (fun k e => by cases e)
          have HB24 : Hid (Below w2.heap.size w2 w4) := hb24
          have HR4 : Hid (RowS w4 w4.heap.size (.slice (some ⟨w.heap.size, 0, none⟩) n n) ss) := (HR2.out.below hb24 (Nat.le_refl _)).mono hb24.size
          have HM4 : Hid (w4.cell? ⟨0, 0, none⟩ = some (.int .i64 m)) := (hb24.cell (p := ⟨0, 0, none⟩) (World.block_lt_of_cell? w2 _ HM2.out)).trans HM2.out
          have hcc4 : w4.cell? ⟨w.heap.size, kk, none⟩ = some (.string c) := row_cell HR4.out HN.out hkn HSC.out
          clear hq hb4 hb24 hcc
          rcases hres with rfl | ⟨rfl, hris⟩
          · go_wp2_with fail
            go_ret
            exact ⟨rfl, HB4.out⟩
          · have HRI : Hid (Rises ls) := hris
            clear hris
            go_wp2_with fail
            refine Calls.mono (const_any (kk : Int) w4) ?_
            rintro e w5 ⟨rfl, hw5⟩
            subst hw5
            go_wp2_with fail
            refine Calls.mono (join_const (kk : Int) _ n n ss w4 HN.out HR4.out (by omega) HSS.out m HM4.out) ?_
            rintro e w6 ⟨r, rfl, hj, hb6⟩
            have hr := back_plain (by rw [HN.out]; exact hkn) HSC.out hj HSP.out HRI.out
            subst hr
            have HBf : Hid (Below w.heap.size w w6) := HB4.out.trans (hb6.mono HB4.out.size)
            clear hj hb6
            go_wp2_with fail
            go_ret
            exact ⟨rfl, HBf.out⟩
        · have hk1 : k0 < 0 ∨ (ss.length : Int) ≤ k0 := by rw [HN.out]; omega
          have HK : Hid (k0 < 0 ∨ (ss.length : Int) ≤ k0) := hk1
          clear hk1
          rcases Int.lt_or_le k0 0 with hk0 | hk0
          · clear hk
            go_wp2_with ((refine wpList_copy_splice rfl _ _ 22 22 rfl 9 Try.underlying22 (by kernel_rfl) (some ⟨w.heap.size, 0, none⟩) (some ad) n n n cap rfl rfl w.heap.size 0 cur 9 HCU.out CS (by rw [HCl.out]; exact (Nat.min_self n).symm) (fun _ => ⟨rfl, ad, rfl, HCc.out⟩) (by rw [HCl.out, HCL.out]; omega) HC1.out w.heap.size w HB1.out (Nat.le_refl _) ?_; intro w2 HG2 hB2; have HB2 : Hid (Below w.heap.size w w2) := hB2; clear hB2; have HR2 : Hid (RowS w2 w2.heap.size (.slice (some ⟨w.heap.size, 0, none⟩) n n) ss) := copied_row HN.out HCL.out (by have := (Array.getElem?_eq_some_iff.1 HG2.out).1; exact this) (by rw [← HCS.out]; exact HG2.out); have HM2 : Hid (w2.cell? ⟨0, 0, none⟩ = some (.int .i64 m)) := (HB2.out.cell (p := ⟨0, 0, none⟩) (World.block_lt_of_cell? w _ HM.out)).trans HM.out))
            refine Calls.mono (const_any k0 w2) ?_
            rintro e w3 ⟨rfl, hw3⟩
            subst hw3
            go_wp2_with fail
            refine Calls.mono (join_const k0 _ n n ss w2 HN.out HR2.out (by omega) HSS.out m HM2.out) ?_
            rintro e w4 ⟨r, rfl, hj, hb4⟩
            have hr := back_none HK.out hj
            subst hr
            have HBf : Hid (Below w.heap.size w w4) := HB2.out.trans (hb4.mono HB2.out.size)
            clear hj hb4
            go_wp2_with fail
            go_ret
            exact ⟨rfl, HBf.out⟩
          · have hkn : (n : Int) ≤ k0 := by omega
            clear hk
            go_wp2_with ((refine wpList_copy_splice rfl _ _ 22 22 rfl 9 Try.underlying22 (by kernel_rfl) (some ⟨w.heap.size, 0, none⟩) (some ad) n n n cap rfl rfl w.heap.size 0 cur 9 HCU.out CS (by rw [HCl.out]; exact (Nat.min_self n).symm) (fun _ => ⟨rfl, ad, rfl, HCc.out⟩) (by rw [HCl.out, HCL.out]; omega) HC1.out w.heap.size w HB1.out (Nat.le_refl _) ?_; intro w2 HG2 hB2; have HB2 : Hid (Below w.heap.size w w2) := hB2; clear hB2; have HR2 : Hid (RowS w2 w2.heap.size (.slice (some ⟨w.heap.size, 0, none⟩) n n) ss) := copied_row HN.out HCL.out (by have := (Array.getElem?_eq_some_iff.1 HG2.out).1; exact this) (by rw [← HCS.out]; exact HG2.out); have HM2 : Hid (w2.cell? ⟨0, 0, none⟩ = some (.int .i64 m)) := (HB2.out.cell (p := ⟨0, 0, none⟩) (World.block_lt_of_cell? w _ HM.out)).trans HM.out))
            refine Calls.mono (const_any k0 w2) ?_
            rintro e w3 ⟨rfl, hw3⟩
            subst hw3
            go_wp2_with fail
            refine Calls.mono (join_const k0 _ n n ss w2 HN.out HR2.out (by omega) HSS.out m HM2.out) ?_
            rintro e w4 ⟨r, rfl, hj, hb4⟩
            have hr := back_none HK.out hj
            subst hr
            have HBf : Hid (Below w.heap.size w w4) := HB2.out.trans (hb4.mono HB2.out.size)
            clear hj hb4
            go_wp2_with fail
            go_ret
            exact ⟨rfl, HBf.out⟩
      · go_wp2_with fail
        go_ret
        exact ⟨rfl, Below.refl _ _⟩
    · go_wp2_with fail
      go_ret
      exact ⟨rfl, Below.refl _ _⟩
end Go.Proofs.Qxb6612439a
