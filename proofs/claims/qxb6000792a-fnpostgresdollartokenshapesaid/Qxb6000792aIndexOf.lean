/-
  The walk of indexOf (function 21): it hands back the first place of sub in s.
-/
import Derived.Test.Qxb6000792aDollar
namespace Go.Proofs.Qxb6000792a
open Go.RowKit

set_option maxHeartbeats 400000 in
theorem indexOf_any (s sub : ByteArray) (w : World) (hs : s.size ≤ 1048576) (h1 : 1 ≤ sub.size) (hb : sub.size ≤ 1048576) :
    Calls Try.prog 21 #[.string s, .string sub] w fun e w' => e = .returned (.int .i64 (Lib.indexB s sub)) ∧ w = w' := by
  go_enter Try.func21, Try.ntmps21
  go_wp2
  go_loop [6] (fun v => ∃ k : Nat, v = .int .i64 k ∧ k ≤ s.size + 1 ∧ Hid (Lib.NoOccB s sub k)) (fun v => s.size + 1 - (intOf v).toNat)
  case atStart => exact ⟨0, by go_num, by omega, Lib.NoOcc.zero _ _⟩
  case round =>
    obtain ⟨k, rfl, hk, H⟩ := hrel
    by_cases hlt : k + sub.size ≤ s.size
    · go_wp2
      · have hp : ((s.extract k (k + sub.size)).toList == sub.toList) = true := by assumption
        go_ret
        exact ⟨by rw [Lib.hit s sub k H.out hlt hp]; rfl, rfl⟩
      · have hp : ((s.extract k (k + sub.size)).toList == sub.toList) = false := by assumption
        go_round
        case rel => exact ⟨k + 1, by go_num, by omega, Lib.miss_piece s sub k H.out hlt hp⟩
        case measure => simp [intOf]; omega
    · go_wp2
      go_ret
      exact ⟨by rw [Lib.past s sub k H.out h1 (by omega)]; rfl, rfl⟩

end Go.Proofs.Qxb6000792a
