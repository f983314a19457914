/-
  The walk of the law FnPostgresDollarTokenShape (function 5): the case of a quoted token.
-/
import Derived.Test.Qxb6000792aShapeA
namespace Go.Proofs.Qxb6000792a
open Go.RowKit
open Go.PlainAid (bt get_bt bt_nonneg bt_le)

set_option maxRecDepth 100000 in
set_option maxHeartbeats 1000000 in
theorem shape_quo (t : ByteArray) (i j p en : Nat) (m : Int) (w : World) (ht : t.size ≤ 1048576) (hi : i < t.size) (h36 : (bt t i != 36) = false)
    (hm : w.cell? ⟨0, 0, none⟩ = some (.int .i64 m)) (h0 : 0 < w.heap.size) (hU : Quo (bt t) t.size i j p) (hen : p + (j + 1 - i) = en) :
    Calls Try.prog 5 #[.string t, .int .i64 i] w fun e w' => e = .returned (.bool true) ∧ Below w.heap.size w w' := by
  have hb := get_bt t
  have hc := zz_at t i m 1 en w ht hi hm h0 (.inr (.inr (.inl ⟨rfl, j, p, hU, by rw [hen]⟩)))
  have HC : Hid _ := hc
  have hij := hU.1.2.2.1.1
  have hjn := hU.1.2.1
  obtain ⟨hF, hA⟩ := tag_first hU.1
  have F : Hid (First (bt t) t.size i j) := hF
  have A : Hid (AllN (bt t) i j) := hA
  have U : Hid (Quo (bt t) t.size i j p) := hU
  have hp1 := hU.2.1
  have hp2 := hU.2.2.1
  have HE : Hid _ := hen
  have g1 : i + 2 * (j + 1 - i) ≤ en := by omega
  have g2 : en ≤ t.size := by omega
  clear hc hF hA hU hm h0 hen hp1 hp2
  go_enter Try.func5, Try.ntmps5
  go_wp2_with (go_at_call 17; refine (zb17_yes _ _ _ ht).mono ?_; rintro e w' ⟨rfl, rfl⟩)
  refine Calls.mono HC.out ?_
  rintro e w1 ⟨rfl, hbl⟩
  have HB : Hid (Below w.heap.size w w1) := hbl
  clear HC hbl h36
  go_wp2_with fail
  go_loop [7, 8] (fun q v => ∃ k : Nat, v = .int .i64 k ∧ q = .int .i64 (-1) ∧ i + 1 ≤ k ∧ k ≤ j) (fun _ v => t.size - (intOf v).toNat)
  case atStart => exact ⟨i + 1, by go_num, rfl, by omega, by omega⟩
  case round =>
    obtain ⟨k, rfl, rfl, h1, h2⟩ := hrel
    by_cases hlt : k < j
    · have hne : (bt t k == 36) = false := by have := F.out.2.2.2 k h1 hlt; simpa using this
      go_wp2_with fail
      go_round
      case rel => exact ⟨k + 1, by go_num, rfl, by omega, by omega⟩
      case measure => simp [intOf]; omega
    · obtain rfl : k = j := by omega
      have heq : (bt t k == 36) = true := by have := F.out.2.2.1; simpa using this
      clear hlt
      go_wp2_with fail
      go_loop [9, 10] (fun b v => ∃ q : Nat, v = .int .i64 q ∧ b = .bool true ∧ i + 1 ≤ q ∧ q ≤ k) (fun _ v => t.size - (intOf v).toNat)
      case atStart => exact ⟨i + 1, by go_num, rfl, by omega, by omega⟩
      case round =>
        obtain ⟨q, rfl, rfl, h3, h4⟩ := hrel
        by_cases hlt : q < k
        · have hn := A.out q h3 hlt
          go_wp2_with (go_at_call 19; refine (nameByte_any _ _).mono ?_; rintro e w' ⟨rfl, rfl⟩)
          go_round
          case rel => exact ⟨q + 1, by go_num, rfl, by omega, by omega⟩
          case measure => simp [intOf]; omega
        · obtain rfl : q = k := by omega
          clear hlt
          by_cases hnx : i + 1 < t.size
          · have hnd := nodig_bool U.out.1.1 hnx
            have hx : ((t.extract (en - (min (q + 1) t.size - i)) en).toList == (t.extract i (q + 1)).toList) = true := by
              have he := HE.out
              have hx := ext_eq (t := t) (p := p) (i := i) (L := q + 1 - i) (by omega) (by omega) U.out.2.2.2.1
              rw [show en - (min (q + 1) t.size - i) = p from by omega, show en = p + (q + 1 - i) from by omega, hx, show i + (q + 1 - i) = q + 1 from by omega]
              simp
            go_wp2_with (go_at_call 20; refine (isDig_any _ _).mono ?_; rintro e w' ⟨rfl, rfl⟩)
            refine (indexOf_any _ _ _ (by rw [ByteArray.size_extract]; omega) (by rw [ByteArray.size_extract]; omega) (by rw [ByteArray.size_extract]; omega)).mono ?_
            rintro e w2 ⟨rfl, rfl⟩
            rw [idx_quo U.out]
            have hfin : ((p : Int) - ((q : Int) + 1) == (en : Int) - ((min (q + 1) t.size - i : Nat) : Int) - ((i : Int) + ((min (q + 1) t.size - i : Nat) : Int))) = true := by
              have he := HE.out
              rw [beq_iff_eq]
              omega
            go_wp2_with fail
            go_ret
            exact ⟨rfl, HB.out⟩
          · omega

end Go.Proofs.Qxb6000792a
