/-
  The walk of the law FnWriteUnescapedCutAndModel (6): the builder closed, something written.
-/
import Derived.Test.Qxb6613957aLaw
namespace Go.Proofs.Qxb6613957a
open Go.RowKit

set_option maxRecDepth 100000 in
set_option maxHeartbeats 2000000 in
theorem law_begin (a : Option Addr) (cap : Nat) (xs : List UInt8) (st : Int) (lit : ByteArray) (cut : Nat) (q : Bool) (w : World)
    (hrow : RowAt w w.heap.size (.slice a xs.length cap) xs) (hx : xs.length ≤ 524288) (hl : lit.size ≤ 524288) (h0 : 0 ≤ st) (h1 : st ≤ (xs.length : Int)) (hc : cut ≤ lit.size) (hz : 0 < lit.size) :
    Calls Try.prog 6 #[.slice a xs.length cap, .bool false, .int .i64 st, .string lit, .int .i64 cut, .bool q] w fun e w' => e = .returned (.bool true) ∧ Below w.heap.size w w' := by
  obtain ⟨i0, hi0, hz0, hz1, hz2⟩ := info_parts Try.info5
  have HWO : Hid (opAft false lit.size = true) := by show opAft false lit.size = true; simp [opAft, hz]
  have HWS : Hid (stAft false st xs.length lit.size = (xs.length : Int)) := by show stAft false st xs.length lit.size = (xs.length : Int); simp [stAft, startOf, hz]
  have R0 : Hid (RowAt w w.heap.size (.slice a xs.length cap) xs) := hrow
  clear hrow
  go_enter Try.func6, Try.ntmps6
  go_wp2_with (go_at_call 16; refine (zb16_yes _ _ _ _ _ _ _ _ _ (by omega)).mono ?_; rintro e w' ⟨rfl, rfl⟩)
  -- prior = zzCloneBytes(prior)
  refine (clone_any _ xs w R0.out (by omega)).mono ?_
  rintro e w1 ⟨v1, rfl, ho1, hb1⟩
  have R1 : Hid (RowAt w1 w1.heap.size v1 xs) := owns_rowAt ho1
  have B1 : Hid (Below w.heap.size w w1) := hb1
  obtain ⟨a1, cap1, rfl⟩ := ownsRow_slice ho1
  clear ho1 hb1 R0
  go_wp2_with fail
  refine (clone_any _ xs w1 R1.out (by omega)).mono ?_
  rintro e w2 ⟨v2, rfl, ho2, hb2⟩
  obtain ⟨a2, cap2, rfl⟩ := ownsRow_slice ho2
  have O2 : Hid (w2.ownsRow w1.heap.size 5 1 (.slice a2 xs.length cap2) xs.length (xs.map byteV)) := ho2
  have B2 : Hid (Below w1.heap.size w1 w2) := hb2
  clear ho2 hb2
  go_wp2_with fail
  -- whole := ZZnewTextBuilder(..)
  refine (new_any w1.heap.size _ xs false st w2 O2.out B2.out.size).mono ?_
  rintro e w3 ⟨C, T, rfl, hbl3, hC3, hT3, hb3⟩
  have L3 : Hid (Bld w3 w1.heap.size C T (.slice a2 xs.length cap2) xs false st) := hbl3
  have B3 : Hid (Below w1.heap.size w1 w3) := B2.out.trans (hb3.mono B2.out.size)
  clear hbl3 hb3 hC3 hT3 O2 B2
  go_wp2_with fail
  -- ZZwriteUnescaped(whole, lit, quoted)
  obtain ⟨U, hU⟩ : ∃ U, unesc q (bytesOf lit) = U := ⟨_, rfl⟩
  have hUl : U.length ≤ lit.size := by rw [← hU, ← bytesOf_size]; exact unesc_length q _ _ (Nat.le_refl _)
  have HU : Hid (unesc q (bytesOf lit) = U) := hU
  clear hU
  refine (zzwrite_any _ C T _ xs false st lit q w3 L3.out (by omega) (by omega)).mono ?_
  rintro e w4 ⟨rfl, v4, hbl4, hb4⟩
  rw [HU.out, HWO.out, HWS.out] at hbl4
  have L4 : Hid (Bld w4 w1.heap.size C T v4 (xs ++ U) true (xs.length : Int)) := hbl4
  have B4 : Hid (Below w1.heap.size w1 w4) := B3.out.trans hb4
  have R4 : Hid (RowAt w4 w4.heap.size (.slice a1 xs.length cap1) xs) := (R1.out.below B4.out (Nat.le_refl _)).mono B4.out.size
  clear hbl4 hb4 B3 L3 R1
  go_wp2_with fail
  -- want := append(zzCloneBytes(prior), zzUnescapeModel(lit, quoted)...)
  refine (clone_any _ xs w4 R4.out (by omega)).mono ?_
  rintro e w5 ⟨v5, rfl, ho5, hb5⟩
  obtain ⟨a5, cap5, rfl⟩ := ownsRow_slice ho5
  have O5 : Hid (w5.ownsRow w4.heap.size 5 1 (.slice a5 xs.length cap5) xs.length (xs.map byteV)) := ho5
  have B5 : Hid (Below w4.heap.size w4 w5) := hb5
  clear ho5 hb5
  go_wp2_with fail
  refine (model_any lit q w5 (by omega)).mono ?_
  rintro e w6 ⟨v6, rfl, ho6, hn6, hb6⟩
  rw [HU.out] at ho6
  obtain ⟨g6, cap6, rfl⟩ : ∃ g cap, v6 = .slice (some ⟨g, 0, none⟩) U.length cap := by
    rcases ownsRow_form ho6 with ⟨h, _⟩ | ⟨g, c, h, _, _⟩
    · exact absurd h hn6
    · exact ⟨g, c, h⟩
  have O6 : Hid (w6.ownsRow w4.heap.size 5 1 (.slice a5 xs.length cap5) xs.length (xs.map byteV)) := owns_below O5.out hb6
  have N6 : Hid (∀ j u, (U.map byteV)[j]? = some u → w6.cell? ((⟨g6, 0, none⟩ : Addr).add j) = some u) := fun j u h => ho6.cells rfl j u h
  have B6 : Hid (Below w4.heap.size w4 w6) := B5.out.trans (hb6.mono B5.out.size)
  have hs6 : w4.heap.size ≤ w6.heap.size := B6.out.size
  clear ho6 hn6 hb6 O5 B5
  go_wp2_with (at_builtin; refine wpList_append_own _ rfl _ _ 27 rfl w4.heap.size 5 i0 (.int .u8 0) 1 1 Try.underlying27 hi0 hz0 hz1 hz2 rfl (by decide) (.slice a5 xs.length cap5) xs.length (xs.map byteV) rfl O6.out ⟨g6, 0, none⟩ U.length cap6 (U.map byteV) rfl (by simp) N6.out (by intro u hu; obtain ⟨c, _, rfl⟩ := List.mem_map.1 hu; rfl) (by unfold maxLen; omega) (by omega) hs6 ?_; intro v7 w7 ho7 hg7 _)
  have hb7 : Below w4.heap.size w4 w7 := B6.out.grown hg7 hs6 (fun k hk => (O6.out.lt k hk).1)
  rw [← List.map_append, ← List.length_append] at ho7
  have R7 : Hid (RowAt w7 w7.heap.size v7 (xs ++ U)) := owns_rowAt ho7
  have L7 : Hid (Bld w7 w1.heap.size C T v4 (xs ++ U) true (xs.length : Int)) := L4.out.below hb7
  have R7p : Hid (RowAt w7 w7.heap.size (.slice a1 xs.length cap1) xs) := (R4.out.below hb7 (Nat.le_refl _)).mono hb7.size
  have B7 : Hid (Below w.heap.size w w7) := B1.out.trans ((B4.out.trans (hb7.mono B4.out.size)).mono B1.out.size)
  clear ho7 hg7 hb7 O6 N6 B6 hs6 L4 R4 B4 B1
  refine (bytes_any _ C T v4 _ true (xs.length : Int) w7 L7.out).mono ?_
  rintro e w' ⟨rfl, rfl⟩
  go_wp2_with fail
  refine (same_any w7.heap.size v4 v7 (xs ++ U) w7 (owns_rowAt L7.out.own) R7.out (by rw [List.length_append]; omega)).mono ?_
  rintro e w8 ⟨rfl, nq, rfl⟩
  have L8 : Hid (Bld (w7.drewN nq) w1.heap.size C T v4 (xs ++ U) true (xs.length : Int)) := L7.out.below (below_drewN (Below.refl _ _) nq)
  go_wp2_with fail
  refine (open_any _ C T v4 _ true (xs.length : Int) (w7.drewN nq) L8.out).mono ?_
  rintro e w' ⟨rfl, rfl⟩
  go_wp2_with fail
  refine (start_any _ C T v4 _ true (xs.length : Int) (w7.drewN nq) L8.out).mono ?_
  rintro e w' ⟨rfl, rfl⟩
  go_wp2_with fail
  refine (spans_any _ C T v4 _ true (xs.length : Int) (w7.drewN nq) L8.out).mono ?_
  rintro e w' ⟨rfl, rfl⟩
  clear L7 L8
  have R8 : Hid (RowAt (w7.drewN nq) w7.heap.size v7 (xs ++ U)) := R7.out.below (below_drewN (Below.refl _ _) nq) (Nat.le_refl _)
  have R8p : Hid (RowAt (w7.drewN nq) w7.heap.size (.slice a1 xs.length cap1) xs) := R7p.out.below (below_drewN (Below.refl _ _) nq) (Nat.le_refl _)
  have B8 : Hid (Below w.heap.size w (w7.drewN nq)) := below_drewN B7.out nq
  clear R7 R7p B7
  rcases Nat.eq_zero_or_pos cut with hcz | hcz
  · have HZ : Hid (cut = 0) := hcz
    have hcz' : ¬ (0 : Int) < (cut : Int) := by omega
    clear hcz
    have CB : Hid (unesc q ((bytesOf lit).take cut) ++ unesc q ((bytesOf lit).drop cut) = U) := by rw [cut_bytes q lit cut hc (fun h => absurd HZ.out (by omega))]; exact HU.out
    go_wp2_with fail
    refine (clone_any _ xs (w7.drewN nq) (R8p.out.mono (Nat.le_refl _)) (by omega)).mono ?_
    rintro e w9 ⟨v9, rfl, ho9, hb9⟩
    obtain ⟨a9, cap9, rfl⟩ := ownsRow_slice ho9
    have O9 : Hid (w9.ownsRow w7.heap.size 5 1 (.slice a9 xs.length cap9) xs.length (xs.map byteV)) := ho9
    have B9 : Hid (Below w7.heap.size (w7.drewN nq) w9) := hb9
    clear ho9 hb9
    go_wp2_with fail
    refine (new_any w7.heap.size _ xs false st w9 O9.out B9.out.size).mono ?_
    rintro e w10 ⟨C2, T2, rfl, hbl10, _, _, hb10⟩
    have L10 : Hid (Bld w10 w7.heap.size C2 T2 (.slice a9 xs.length cap9) xs false st) := hbl10
    have B10 : Hid (Below w7.heap.size (w7.drewN nq) w10) := B9.out.trans (hb10.mono B9.out.size)
    clear hbl10 hb10 O9 B9
    go_wp2_with fail
    refine (zzwrite_any _ C2 T2 _ xs false st (lit.extract 0 cut) q w10 L10.out (by omega) (by rw [ByteArray.size_extract]; omega)).mono ?_
    rintro e w11 ⟨rfl, v11, hbl11, hb11⟩
    have hzA : (lit.extract 0 cut).size = cut := by rw [ByteArray.size_extract]; omega
    rw [hzA, bytes_take] at hbl11
    have hU1 : (unesc q ((bytesOf lit).take cut)).length ≤ cut := Nat.le_trans (unesc_length q _ _ (Nat.le_refl _)) (by rw [List.length_take]; omega)
    have L11 : Hid (Bld w11 w7.heap.size C2 T2 v11 (xs ++ unesc q ((bytesOf lit).take cut)) (opAft false cut) (stAft false st xs.length cut)) := hbl11
    have B11 : Hid (Below w7.heap.size (w7.drewN nq) w11) := B10.out.trans hb11
    clear hbl11 hb11 L10 B10 hzA
    go_wp2_with fail
    refine (zzwrite_any _ C2 T2 v11 _ _ _ (lit.extract cut lit.size) q w11 L11.out (by rw [List.length_append]; omega) (by rw [ByteArray.size_extract]; omega)).mono ?_
    rintro e w12 ⟨rfl, v12, hbl12, hb12⟩
    have hzB : (lit.extract cut lit.size).size = lit.size - cut := by rw [ByteArray.size_extract]; omega
    rw [hzB, bytes_drop, List.append_assoc, CB.out, List.length_append, op_two, st_two _ _ _ _ _ _ (fun h => by omega), show cut + (lit.size - cut) = lit.size by omega, HWO.out, HWS.out] at hbl12
    have L12 : Hid (Bld w12 w7.heap.size C2 T2 v12 (xs ++ U) true (xs.length : Int)) := hbl12
    have hb12' : Below w7.heap.size (w7.drewN nq) w12 := B11.out.trans hb12
    have R12 : Hid (RowAt w12 w12.heap.size v7 (xs ++ U)) := (R8.out.below hb12' (Nat.le_refl _)).mono hb12'.size
    have B12 : Hid (Below w.heap.size w w12) := B8.out.trans (hb12'.mono B8.out.size)
    clear hbl12 hb12 hb12' hzB L11 B11 R8 R8p B8
    go_wp2_with fail
    refine (bytes_any _ C2 T2 v12 _ true (xs.length : Int) w12 L12.out).mono ?_
    rintro e w' ⟨rfl, rfl⟩
    go_wp2_with fail
    refine (same_any w12.heap.size v12 v7 (xs ++ U) w12 (owns_rowAt L12.out.own) R12.out (by rw [List.length_append]; omega)).mono ?_
    rintro e w13 ⟨rfl, nq2, rfl⟩
    have L13 : Hid (Bld (w12.drewN nq2) w7.heap.size C2 T2 v12 (xs ++ U) true (xs.length : Int)) := L12.out.below (below_drewN (Below.refl _ _) nq2)
    go_wp2_with fail
    refine (open_any _ C2 T2 v12 _ true (xs.length : Int) (w12.drewN nq2) L13.out).mono ?_
    rintro e w' ⟨rfl, rfl⟩
    go_wp2_with fail
    refine (start_any _ C2 T2 v12 _ true (xs.length : Int) (w12.drewN nq2) L13.out).mono ?_
    rintro e w' ⟨rfl, rfl⟩
    go_wp2_with fail
    refine (spans_any _ C2 T2 v12 _ true (xs.length : Int) (w12.drewN nq2) L13.out).mono ?_
    rintro e w' ⟨rfl, rfl⟩
    go_wp2_with fail
    go_ret
    exact ⟨rfl, below_drewN B12.out nq2⟩
  · obtain ⟨c, rfl⟩ : ∃ c, cut = c + 1 := ⟨cut - 1, by omega⟩
    obtain ⟨d, hd⟩ : ∃ d, lit[c] = d := ⟨_, rfl⟩
    by_cases h92 : d = 92
    · have he : (((d.toNat : Nat) : Int) == 92) = true := c92.2 h92
      clear h92
      go_wp2_with fail
      go_ret
      exact ⟨rfl, B8.out⟩
    · have he : (((d.toNat : Nat) : Int) == 92) = false := by
        cases e : (((d.toNat : Nat) : Int) == 92)
        · rfl
        · exact absurd (c92.1 e) h92
      have CB : Hid (unesc q ((bytesOf lit).take (c + 1)) ++ unesc q ((bytesOf lit).drop (c + 1)) = U) := by
        rw [cut_bytes q lit (c + 1) hc (fun _ => by show lit[c + 1 - 1] ≠ 92; simp only [Nat.add_sub_cancel]; rw [hd]; exact h92)]; exact HU.out
      clear h92
      go_wp2_with fail
      refine (clone_any _ xs (w7.drewN nq) (R8p.out.mono (Nat.le_refl _)) (by omega)).mono ?_
      rintro e w9 ⟨v9, rfl, ho9, hb9⟩
      obtain ⟨a9, cap9, rfl⟩ := ownsRow_slice ho9
      have O9 : Hid (w9.ownsRow w7.heap.size 5 1 (.slice a9 xs.length cap9) xs.length (xs.map byteV)) := ho9
      have B9 : Hid (Below w7.heap.size (w7.drewN nq) w9) := hb9
      clear ho9 hb9
      go_wp2_with fail
      refine (new_any w7.heap.size _ xs false st w9 O9.out B9.out.size).mono ?_
      rintro e w10 ⟨C2, T2, rfl, hbl10, _, _, hb10⟩
      have L10 : Hid (Bld w10 w7.heap.size C2 T2 (.slice a9 xs.length cap9) xs false st) := hbl10
      have B10 : Hid (Below w7.heap.size (w7.drewN nq) w10) := B9.out.trans (hb10.mono B9.out.size)
      clear hbl10 hb10 O9 B9
      go_wp2_with fail
      refine (zzwrite_any _ C2 T2 _ xs false st (lit.extract 0 (c + 1)) q w10 L10.out (by omega) (by rw [ByteArray.size_extract]; omega)).mono ?_
      rintro e w11 ⟨rfl, v11, hbl11, hb11⟩
      have hzA : (lit.extract 0 (c + 1)).size = (c + 1) := by rw [ByteArray.size_extract]; omega
      rw [hzA, bytes_take] at hbl11
      have hU1 : (unesc q ((bytesOf lit).take (c + 1))).length ≤ (c + 1) := Nat.le_trans (unesc_length q _ _ (Nat.le_refl _)) (by rw [List.length_take]; omega)
      have L11 : Hid (Bld w11 w7.heap.size C2 T2 v11 (xs ++ unesc q ((bytesOf lit).take (c + 1))) (opAft false (c + 1)) (stAft false st xs.length (c + 1))) := hbl11
      have B11 : Hid (Below w7.heap.size (w7.drewN nq) w11) := B10.out.trans hb11
      clear hbl11 hb11 L10 B10 hzA
      go_wp2_with fail
      refine (zzwrite_any _ C2 T2 v11 _ _ _ (lit.extract (c + 1) lit.size) q w11 L11.out (by rw [List.length_append]; omega) (by rw [ByteArray.size_extract]; omega)).mono ?_
      rintro e w12 ⟨rfl, v12, hbl12, hb12⟩
      have hzB : (lit.extract (c + 1) lit.size).size = lit.size - (c + 1) := by rw [ByteArray.size_extract]; omega
      rw [hzB, bytes_drop, List.append_assoc, CB.out, List.length_append, op_two, st_two _ _ _ _ _ _ (fun h => by omega), show (c + 1) + (lit.size - (c + 1)) = lit.size by omega, HWO.out, HWS.out] at hbl12
      have L12 : Hid (Bld w12 w7.heap.size C2 T2 v12 (xs ++ U) true (xs.length : Int)) := hbl12
      have hb12' : Below w7.heap.size (w7.drewN nq) w12 := B11.out.trans hb12
      have R12 : Hid (RowAt w12 w12.heap.size v7 (xs ++ U)) := (R8.out.below hb12' (Nat.le_refl _)).mono hb12'.size
      have B12 : Hid (Below w.heap.size w w12) := B8.out.trans (hb12'.mono B8.out.size)
      clear hbl12 hb12 hb12' hzB L11 B11 R8 R8p B8
      go_wp2_with fail
      refine (bytes_any _ C2 T2 v12 _ true (xs.length : Int) w12 L12.out).mono ?_
      rintro e w' ⟨rfl, rfl⟩
      go_wp2_with fail
      refine (same_any w12.heap.size v12 v7 (xs ++ U) w12 (owns_rowAt L12.out.own) R12.out (by rw [List.length_append]; omega)).mono ?_
      rintro e w13 ⟨rfl, nq2, rfl⟩
      have L13 : Hid (Bld (w12.drewN nq2) w7.heap.size C2 T2 v12 (xs ++ U) true (xs.length : Int)) := L12.out.below (below_drewN (Below.refl _ _) nq2)
      go_wp2_with fail
      refine (open_any _ C2 T2 v12 _ true (xs.length : Int) (w12.drewN nq2) L13.out).mono ?_
      rintro e w' ⟨rfl, rfl⟩
      go_wp2_with fail
      refine (start_any _ C2 T2 v12 _ true (xs.length : Int) (w12.drewN nq2) L13.out).mono ?_
      rintro e w' ⟨rfl, rfl⟩
      go_wp2_with fail
      refine (spans_any _ C2 T2 v12 _ true (xs.length : Int) (w12.drewN nq2) L13.out).mono ?_
      rintro e w' ⟨rfl, rfl⟩
      go_wp2_with fail
      go_ret
      exact ⟨rfl, below_drewN B12.out nq2⟩

end Go.Proofs.Qxb6613957a
