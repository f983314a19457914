/-
  The walk of the law FnPostgresDollarTokenShape (function 5): the case of a placeholder.
-/
import Derived.Test.Qxb6000792aShapeA
namespace Go.Proofs.Qxb6000792a
open Go.RowKit
open Go.PlainAid (bt get_bt bt_nonneg bt_le)

set_option maxRecDepth 100000 in
set_option maxHeartbeats 1000000 in
theorem shape_ph_none (t : ByteArray) (i j : Nat) (m : Int) (w : World) (ht : t.size ≤ 1048576) (hi : i < t.size) (h36 : (bt t i != 36) = false)
    (hm : w.cell? ⟨0, 0, none⟩ = some (.int .i64 m)) (h0 : 0 < w.heap.size) (hP : DigTo (bt t) t.size i j) (hij : i + 1 < j) (hF : NoFirst (bt t) t.size i) :
    Calls Try.prog 5 #[.string t, .int .i64 i] w fun e w' => e = .returned (.bool true) ∧ Below w.heap.size w w' := by
  have hb := get_bt t
  have hc := zz_at t i m 3 j w ht hi hm h0 (.inl ⟨rfl, j, hij, hP, rfl⟩)
  have HC : Hid _ := hc
  clear hc hm h0
  have D : Hid (DigTo (bt t) t.size i j) := hP
  have hjn := hP.2.1
  have hdd : decide (t.size < j) = false := by simp; omega
  clear hP
  have F : Hid (NoFirst (bt t) t.size i) := hF
  clear hF
  go_enter Try.func5, Try.ntmps5
  go_wp2_with (go_at_call 17; refine (zb17_yes _ _ _ ht).mono ?_; rintro e w' ⟨rfl, rfl⟩)
  refine Calls.mono HC.out ?_
  rintro e w1 ⟨rfl, hbl⟩
  have HB : Hid (Below w.heap.size w w1) := hbl
  clear HC hbl h36
  go_wp2_with fail
  go_loop [7, 8] (fun u v => ∃ x : Nat, v = .int .i64 x ∧ u = .int .i64 (-1) ∧ i + 1 ≤ x ∧ x ≤ t.size) (fun _ v => t.size - (intOf v).toNat)
  case atStart => exact ⟨i + 1, by go_num, rfl, by omega, by omega⟩
  case round =>
    obtain ⟨x, rfl, rfl, h1, h2⟩ := hrel
    by_cases hlt : x < t.size
    · have hne : (bt t x == 36) = false := by have := F.out x h1 hlt; simpa using this
      go_wp2_with fail
      go_round
      case rel => exact ⟨x + 1, by go_num, rfl, by omega, by omega⟩
      case measure => simp [intOf]; omega
    · 
      have hd := D.out.2.2.1 (i + 1) (Nat.le_refl _) hij
      have hdb : digB (bt t (i + 1)) = true := (digB_iff _).2 hd
      clear hd
      go_wp2_with (go_at_call 20; refine (isDig_any _ _).mono ?_; rintro e w' ⟨rfl, rfl⟩)
      go_loop [4, 12] (fun r v => ∃ x : Nat, v = .int .i64 x ∧ r = .bool false ∧ i + 1 ≤ x ∧ x ≤ j) (fun _ v => t.size - (intOf v).toNat)
      case atStart => exact ⟨i + 1, by go_num, rfl, by omega, by omega⟩
      case round =>
        obtain ⟨x, rfl, rfl, h5, h6⟩ := hrel
        by_cases hlt : x < j
        · have hdx : digB (bt t x) = true := (digB_iff _).2 (D.out.2.2.1 x h5 hlt)
          go_wp2_with (go_at_call 20; refine (isDig_any _ _).mono ?_; rintro e w' ⟨rfl, rfl⟩)
          go_round
          case rel => exact ⟨x + 1, by go_num, rfl, by omega, by omega⟩
          case measure => simp [intOf]; omega
        · obtain rfl : x = j := by omega
          clear hlt
          by_cases hend : x < t.size
          · have hdx : digB (bt t x) = false := by
              cases e : digB (bt t x)
              · rfl
              · exact absurd ((digB_iff _).1 e) (D.out.2.2.2 hend)
            have hne : ((x : Int) == (t.size : Int)) = false := by rw [beq_eq_false_iff_ne]; omega
            go_wp2_with (go_at_call 20; refine (isDig_any _ _).mono ?_; rintro e w' ⟨rfl, rfl⟩)
            go_ret
            exact ⟨rfl, HB.out⟩
          · have hne : ((x : Int) == (t.size : Int)) = true := by rw [beq_iff_eq]; omega
            go_wp2_with fail
            go_ret
            exact ⟨rfl, HB.out⟩

set_option maxRecDepth 100000 in
set_option maxHeartbeats 1000000 in
theorem shape_ph_all (t : ByteArray) (i j q : Nat) (m : Int) (w : World) (ht : t.size ≤ 1048576) (hi : i < t.size) (h36 : (bt t i != 36) = false)
    (hm : w.cell? ⟨0, 0, none⟩ = some (.int .i64 m)) (h0 : 0 < w.heap.size) (hP : DigTo (bt t) t.size i j) (hij : i + 1 < j) (hF : First (bt t) t.size i q) (hA : AllN (bt t) i q) :
    Calls Try.prog 5 #[.string t, .int .i64 i] w fun e w' => e = .returned (.bool true) ∧ Below w.heap.size w w' := by
  have hb := get_bt t
  have hc := zz_at t i m 3 j w ht hi hm h0 (.inl ⟨rfl, j, hij, hP, rfl⟩)
  have HC : Hid _ := hc
  clear hc hm h0
  have D : Hid (DigTo (bt t) t.size i j) := hP
  have hjn := hP.2.1
  have hdd : decide (t.size < j) = false := by simp; omega
  clear hP
  have F : Hid (First (bt t) t.size i q) := hF
  have hq1 := hF.1
  have hq2 := hF.2.1
  clear hF
  have A : Hid (AllN (bt t) i q) := hA
  clear hA
  go_enter Try.func5, Try.ntmps5
  go_wp2_with (go_at_call 17; refine (zb17_yes _ _ _ ht).mono ?_; rintro e w' ⟨rfl, rfl⟩)
  refine Calls.mono HC.out ?_
  rintro e w1 ⟨rfl, hbl⟩
  have HB : Hid (Below w.heap.size w w1) := hbl
  clear HC hbl h36
  go_wp2_with fail
  go_loop [7, 8] (fun u v => ∃ x : Nat, v = .int .i64 x ∧ u = .int .i64 (-1) ∧ i + 1 ≤ x ∧ x ≤ q) (fun _ v => t.size - (intOf v).toNat)
  case atStart => exact ⟨i + 1, by go_num, rfl, by omega, by omega⟩
  case round =>
    obtain ⟨x, rfl, rfl, h1, h2⟩ := hrel
    by_cases hlt : x < q
    · have hne : (bt t x == 36) = false := by have := F.out.2.2.2 x h1 hlt; simpa using this
      go_wp2_with fail
      go_round
      case rel => exact ⟨x + 1, by go_num, rfl, by omega, by omega⟩
      case measure => simp [intOf]; omega
    · obtain rfl : q = x := by omega
      have heq : (bt t q == 36) = true := by have := F.out.2.2.1; simpa using this
      clear hlt
      go_wp2_with fail
      go_loop [9, 10] (fun b v => ∃ x : Nat, v = .int .i64 x ∧ b = .bool true ∧ i + 1 ≤ x ∧ x ≤ q) (fun _ v => t.size - (intOf v).toNat)
      case atStart => exact ⟨i + 1, by go_num, rfl, by omega, by omega⟩
      case round =>
        obtain ⟨x, rfl, rfl, h3, h4⟩ := hrel
        by_cases hlt : x < q
        · have hn := A.out x h3 hlt
          go_wp2_with (go_at_call 19; refine (nameByte_any _ _).mono ?_; rintro e w' ⟨rfl, rfl⟩)
          go_round
          case rel => exact ⟨x + 1, by go_num, rfl, by omega, by omega⟩
          case measure => simp [intOf]; omega
        · obtain rfl : x = q := by omega
          clear hlt
          have hd := D.out.2.2.1 (i + 1) (Nat.le_refl _) hij
          have hdb : digB (bt t (i + 1)) = true := (digB_iff _).2 hd
          clear hd
          go_wp2_with (go_at_call 20; refine (isDig_any _ _).mono ?_; rintro e w' ⟨rfl, rfl⟩)
          go_loop [4, 12] (fun r v => ∃ x : Nat, v = .int .i64 x ∧ r = .bool false ∧ i + 1 ≤ x ∧ x ≤ j) (fun _ v => t.size - (intOf v).toNat)
          case atStart => exact ⟨i + 1, by go_num, rfl, by omega, by omega⟩
          case round =>
            obtain ⟨x, rfl, rfl, h5, h6⟩ := hrel
            by_cases hlt : x < j
            · have hdx : digB (bt t x) = true := (digB_iff _).2 (D.out.2.2.1 x h5 hlt)
              go_wp2_with (go_at_call 20; refine (isDig_any _ _).mono ?_; rintro e w' ⟨rfl, rfl⟩)
              go_round
              case rel => exact ⟨x + 1, by go_num, rfl, by omega, by omega⟩
              case measure => simp [intOf]; omega
            · obtain rfl : x = j := by omega
              clear hlt
              by_cases hend : x < t.size
              · have hdx : digB (bt t x) = false := by
                  cases e : digB (bt t x)
                  · rfl
                  · exact absurd ((digB_iff _).1 e) (D.out.2.2.2 hend)
                have hne : ((x : Int) == (t.size : Int)) = false := by rw [beq_eq_false_iff_ne]; omega
                go_wp2_with (go_at_call 20; refine (isDig_any _ _).mono ?_; rintro e w' ⟨rfl, rfl⟩)
                go_ret
                exact ⟨rfl, HB.out⟩
              · have hne : ((x : Int) == (t.size : Int)) = true := by rw [beq_iff_eq]; omega
                go_wp2_with fail
                go_ret
                exact ⟨rfl, HB.out⟩

set_option maxRecDepth 100000 in
set_option maxHeartbeats 1000000 in
theorem shape_ph_bad (t : ByteArray) (i j q b0 : Nat) (m : Int) (w : World) (ht : t.size ≤ 1048576) (hi : i < t.size) (h36 : (bt t i != 36) = false)
    (hm : w.cell? ⟨0, 0, none⟩ = some (.int .i64 m)) (h0 : 0 < w.heap.size) (hP : DigTo (bt t) t.size i j) (hij : i + 1 < j) (hF : First (bt t) t.size i q) (hA : FirstBad (bt t) i q b0) :
    Calls Try.prog 5 #[.string t, .int .i64 i] w fun e w' => e = .returned (.bool true) ∧ Below w.heap.size w w' := by
  have hb := get_bt t
  have hc := zz_at t i m 3 j w ht hi hm h0 (.inl ⟨rfl, j, hij, hP, rfl⟩)
  have HC : Hid _ := hc
  clear hc hm h0
  have D : Hid (DigTo (bt t) t.size i j) := hP
  have hjn := hP.2.1
  have hdd : decide (t.size < j) = false := by simp; omega
  clear hP
  have F : Hid (First (bt t) t.size i q) := hF
  have hq1 := hF.1
  have hq2 := hF.2.1
  clear hF
  have A : Hid (FirstBad (bt t) i q b0) := hA
  have hb1 := hA.1
  have hb2 := hA.2.1
  clear hA
  go_enter Try.func5, Try.ntmps5
  go_wp2_with (go_at_call 17; refine (zb17_yes _ _ _ ht).mono ?_; rintro e w' ⟨rfl, rfl⟩)
  refine Calls.mono HC.out ?_
  rintro e w1 ⟨rfl, hbl⟩
  have HB : Hid (Below w.heap.size w w1) := hbl
  clear HC hbl h36
  go_wp2_with fail
  go_loop [7, 8] (fun u v => ∃ x : Nat, v = .int .i64 x ∧ u = .int .i64 (-1) ∧ i + 1 ≤ x ∧ x ≤ q) (fun _ v => t.size - (intOf v).toNat)
  case atStart => exact ⟨i + 1, by go_num, rfl, by omega, by omega⟩
  case round =>
    obtain ⟨x, rfl, rfl, h1, h2⟩ := hrel
    by_cases hlt : x < q
    · have hne : (bt t x == 36) = false := by have := F.out.2.2.2 x h1 hlt; simpa using this
      go_wp2_with fail
      go_round
      case rel => exact ⟨x + 1, by go_num, rfl, by omega, by omega⟩
      case measure => simp [intOf]; omega
    · obtain rfl : q = x := by omega
      have heq : (bt t q == 36) = true := by have := F.out.2.2.1; simpa using this
      clear hlt
      go_wp2_with fail
      go_loop [9, 10] (fun b v => ∃ x : Nat, v = .int .i64 x ∧ b = .bool true ∧ i + 1 ≤ x ∧ x ≤ b0) (fun _ v => t.size - (intOf v).toNat)
      case atStart => exact ⟨i + 1, by go_num, rfl, by omega, by omega⟩
      case round =>
        obtain ⟨x, rfl, rfl, h3, h4⟩ := hrel
        by_cases hlt : x < b0
        · have hn := A.out.2.2.2 x h3 hlt
          go_wp2_with (go_at_call 19; refine (nameByte_any _ _).mono ?_; rintro e w' ⟨rfl, rfl⟩)
          go_round
          case rel => exact ⟨x + 1, by go_num, rfl, by omega, by omega⟩
          case measure => simp [intOf]; omega
        · obtain rfl : x = b0 := by omega
          clear hlt
          have hn := A.out.2.2.1
          go_wp2_with (go_at_call 19; refine (nameByte_any _ _).mono ?_; rintro e w' ⟨rfl, rfl⟩)
          have hd := D.out.2.2.1 (i + 1) (Nat.le_refl _) hij
          have hdb : digB (bt t (i + 1)) = true := (digB_iff _).2 hd
          clear hd
          go_wp2_with (go_at_call 20; refine (isDig_any _ _).mono ?_; rintro e w' ⟨rfl, rfl⟩)
          go_loop [4, 12] (fun r v => ∃ x : Nat, v = .int .i64 x ∧ r = .bool false ∧ i + 1 ≤ x ∧ x ≤ j) (fun _ v => t.size - (intOf v).toNat)
          case atStart => exact ⟨i + 1, by go_num, rfl, by omega, by omega⟩
          case round =>
            obtain ⟨x, rfl, rfl, h5, h6⟩ := hrel
            by_cases hlt : x < j
            · have hdx : digB (bt t x) = true := (digB_iff _).2 (D.out.2.2.1 x h5 hlt)
              go_wp2_with (go_at_call 20; refine (isDig_any _ _).mono ?_; rintro e w' ⟨rfl, rfl⟩)
              go_round
              case rel => exact ⟨x + 1, by go_num, rfl, by omega, by omega⟩
              case measure => simp [intOf]; omega
            · obtain rfl : x = j := by omega
              clear hlt
              by_cases hend : x < t.size
              · have hdx : digB (bt t x) = false := by
                  cases e : digB (bt t x)
                  · rfl
                  · exact absurd ((digB_iff _).1 e) (D.out.2.2.2 hend)
                have hne : ((x : Int) == (t.size : Int)) = false := by rw [beq_eq_false_iff_ne]; omega
                go_wp2_with (go_at_call 20; refine (isDig_any _ _).mono ?_; rintro e w' ⟨rfl, rfl⟩)
                go_ret
                exact ⟨rfl, HB.out⟩
              · have hne : ((x : Int) == (t.size : Int)) = true := by rw [beq_iff_eq]; omega
                go_wp2_with fail
                go_ret
                exact ⟨rfl, HB.out⟩

end Go.Proofs.Qxb6000792a
