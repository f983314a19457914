/-
  The walk of the law FnPostgresDollarTokenShape (function 5), whole.
-/
import Derived.Test.Qxb6000792aShapeA
import Derived.Test.Qxb6000792aShapeB
import Derived.Test.Qxb6000792aShapeC
import Derived.Test.Qxb6000792aShapeD
namespace Go.Proofs.Qxb6000792a
open Go.RowKit
open Go.PlainAid (bt get_bt bt_nonneg bt_le)

set_option maxRecDepth 100000 in
set_option maxHeartbeats 1000000 in
theorem out5 (t : ByteArray) (i : Int) (w : World) (h : t.size ≤ 1048576) (hi : i < 0 ∨ (t.size : Int) ≤ i) :
    Calls Try.prog 5 #[.string t, .int .i64 i] w fun e w' => e = .returned (.bool true) ∧ Below w.heap.size w w' := by
  rcases hi with hi | hi
  · go_enter Try.func5, Try.ntmps5
    go_wp2_with (go_at_call 17; refine (zb17_yes _ _ _ h).mono ?_; rintro e w' ⟨rfl, rfl⟩)
    go_ret
    exact ⟨rfl, Below.refl _ _⟩
  · have hge : ¬ i < 0 := by omega
    go_enter Try.func5, Try.ntmps5
    go_wp2_with (go_at_call 17; refine (zb17_yes _ _ _ h).mono ?_; rintro e w' ⟨rfl, rfl⟩)
    go_ret
    exact ⟨rfl, Below.refl _ _⟩

set_option maxRecDepth 100000 in
set_option maxHeartbeats 1000000 in
theorem no36_5 (t : ByteArray) (i : Nat) (w : World) (h : t.size ≤ 1048576) (hi : i < t.size) (h36 : (bt t i != 36) = true) :
    Calls Try.prog 5 #[.string t, .int .i64 i] w fun e w' => e = .returned (.bool true) ∧ Below w.heap.size w w' := by
  have hb := get_bt t
  go_enter Try.func5, Try.ntmps5
  go_wp2_with (go_at_call 17; refine (zb17_yes _ _ _ h).mono ?_; rintro e w' ⟨rfl, rfl⟩)
  go_ret
  exact ⟨rfl, Below.refl _ _⟩

set_option maxRecDepth 100000 in
set_option maxHeartbeats 1000000 in
theorem big5 (t : ByteArray) (i : Int) (w : World) (h : 1048576 < t.size) (ht : t.size ≤ maxLen) :
    Calls Try.prog 5 #[.string t, .int .i64 i] w fun e w' => e = .returned (.bool true) ∧ Below w.heap.size w w' := by
  have hc := zb17_no t i w h ht
  have HC : Hid _ := hc
  clear hc h ht
  go_enter Try.func5, Try.ntmps5
  go_wp2_with fail
  refine Calls.mono HC.out ?_
  rintro e w' ⟨rfl, rfl⟩
  go_wp2_with fail
  go_ret
  exact ⟨rfl, Below.refl _ _⟩

theorem walk5 (t : ByteArray) (i m : Int) (w : World) (ht : t.size ≤ maxLen)
    (hm : w.cell? ⟨0, 0, none⟩ = some (.int .i64 m)) (h0 : 0 < w.heap.size) :
    Calls Try.prog 5 #[.string t, .int .i64 i] w fun e w' => e = .returned (.bool true) ∧ Below w.heap.size w w' := by
  rcases Nat.lt_or_ge 1048576 t.size with h | h
  · exact big5 t i w h ht
  · by_cases hi : i < 0 ∨ (t.size : Int) ≤ i
    · exact out5 t i w h hi
    · obtain ⟨k, rfl⟩ := Int.eq_ofNat_of_zero_le (show 0 ≤ i by omega)
      have hk : k < t.size := by omega
      cases h36 : (bt t k != 36)
      · obtain ⟨kind, e, htok⟩ := tok_some t k m w h hk hm h0
        rcases htok with ⟨_, j, hj, hD, _⟩ | ⟨_, _, j, hP⟩ | ⟨_, j, p, hQ, _⟩ | ⟨_, _, j, hU⟩
        · rcases first_or (bt t) k t.size with hF | ⟨q, hF⟩
          · exact shape_ph_none t k j m w h hk h36 hm h0 hD hj hF
          · rcases all_or (bt t) k q with hA | ⟨b, hA⟩
            · exact shape_ph_all t k j q m w h hk h36 hm h0 hD hj hF hA
            · exact shape_ph_bad t k j q b m w h hk h36 hm h0 hD hj hF hA
        · rcases first_or (bt t) k t.size with hF | ⟨q, hF⟩
          · exact shape_pln_none t k j m w h hk h36 hm h0 hP hF
          · rcases all_or (bt t) k q with hA | ⟨b, hA⟩
            · exact (pln_tag hP (first_tag hF hA hP.1)).elim
            · exact shape_pln_bad t k j q b m w h hk h36 hm h0 hP hF hA
        · exact shape_quo t k j p _ m w h hk h36 hm h0 hQ rfl
        · exact shape_unt t k j m w h hk h36 hm h0 hU
      · exact no36_5 t k w h hk h36

end Go.Proofs.Qxb6000792a
