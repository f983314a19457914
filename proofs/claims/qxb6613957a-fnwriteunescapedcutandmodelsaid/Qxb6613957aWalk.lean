/-
  The walk of the law FnWriteUnescapedCutAndModel (6), whole.
-/
import Derived.Test.Qxb6613957aLawA
import Derived.Test.Qxb6613957aLawB
import Derived.Test.Qxb6613957aLawC
namespace Go.Proofs.Qxb6613957a
open Go.RowKit

set_option maxRecDepth 100000 in
set_option maxHeartbeats 1000000 in
theorem law_big (a : Option Addr) (n cap : Nat) (op : Bool) (st : Int) (lit : ByteArray) (cut : Int) (q : Bool) (w : World) (h : 1048576 < n + lit.size) (hn : n ≤ maxLen) (hl : lit.size ≤ maxLen) :
    Calls Try.prog 6 #[.slice a n cap, .bool op, .int .i64 st, .string lit, .int .i64 cut, .bool q] w fun e w' => e = .returned (.bool true) ∧ Below w.heap.size w w' := by
  have hc := zb16_no a n cap op st lit cut q w h hn hl
  have HC : Hid _ := hc
  clear hc h hn hl
  go_enter Try.func6, Try.ntmps6
  go_wp2_with fail
  refine Calls.mono HC.out ?_
  rintro e w' ⟨rfl, rfl⟩
  go_wp2_with fail
  go_ret
  exact ⟨rfl, Below.refl _ _⟩

set_option maxRecDepth 100000 in
set_option maxHeartbeats 1000000 in
theorem law_out (a : Option Addr) (n cap : Nat) (op : Bool) (st : Int) (lit : ByteArray) (cut : Int) (q : Bool) (w : World) (h : n + lit.size ≤ 1048576)
    (ho : 524288 < n ∨ 524288 < lit.size ∨ st < 0 ∨ (n : Int) < st ∨ cut < 0 ∨ (lit.size : Int) < cut) :
    Calls Try.prog 6 #[.slice a n cap, .bool op, .int .i64 st, .string lit, .int .i64 cut, .bool q] w fun e w' => e = .returned (.bool true) ∧ Below w.heap.size w w' := by
  by_cases h1 : 524288 < n
  · clear ho
    go_enter Try.func6, Try.ntmps6
    go_wp2_with (go_at_call 16; refine (zb16_yes _ _ _ _ _ _ _ _ _ (by omega)).mono ?_; rintro e w' ⟨rfl, rfl⟩)
    go_ret
    exact ⟨rfl, Below.refl _ _⟩
  by_cases h2 : 524288 < lit.size
  · clear ho
    go_enter Try.func6, Try.ntmps6
    go_wp2_with (go_at_call 16; refine (zb16_yes _ _ _ _ _ _ _ _ _ (by omega)).mono ?_; rintro e w' ⟨rfl, rfl⟩)
    go_ret
    exact ⟨rfl, Below.refl _ _⟩
  by_cases h3 : st < 0
  · clear ho
    go_enter Try.func6, Try.ntmps6
    go_wp2_with (go_at_call 16; refine (zb16_yes _ _ _ _ _ _ _ _ _ (by omega)).mono ?_; rintro e w' ⟨rfl, rfl⟩)
    go_ret
    exact ⟨rfl, Below.refl _ _⟩
  by_cases h4 : (n : Int) < st
  · clear ho
    go_enter Try.func6, Try.ntmps6
    go_wp2_with (go_at_call 16; refine (zb16_yes _ _ _ _ _ _ _ _ _ (by omega)).mono ?_; rintro e w' ⟨rfl, rfl⟩)
    go_ret
    exact ⟨rfl, Below.refl _ _⟩
  by_cases h5 : cut < 0
  · clear ho
    go_enter Try.func6, Try.ntmps6
    go_wp2_with (go_at_call 16; refine (zb16_yes _ _ _ _ _ _ _ _ _ (by omega)).mono ?_; rintro e w' ⟨rfl, rfl⟩)
    go_ret
    exact ⟨rfl, Below.refl _ _⟩
  have h6 : (lit.size : Int) < cut := by omega
  clear ho
  go_enter Try.func6, Try.ntmps6
  go_wp2_with (go_at_call 16; refine (zb16_yes _ _ _ _ _ _ _ _ _ (by omega)).mono ?_; rintro e w' ⟨rfl, rfl⟩)
  go_ret
  exact ⟨rfl, Below.refl _ _⟩

theorem walk6 (a : Option Addr) (n cap : Nat) (xs : List UInt8) (op : Bool) (st : Int) (lit : ByteArray) (cut : Int) (q : Bool) (w : World) (hxn : xs.length = n) (hrow : RowAt w w.heap.size (.slice a n cap) xs) (hn : n ≤ maxLen) (hl : lit.size ≤ maxLen) :
    Calls Try.prog 6 #[.slice a n cap, .bool op, .int .i64 st, .string lit, .int .i64 cut, .bool q] w fun e w' => e = .returned (.bool true) ∧ Below w.heap.size w w' := by
  rcases Nat.lt_or_ge 1048576 (n + lit.size) with h | h
  · exact law_big a n cap op st lit cut q w h hn hl
  · by_cases ho : 524288 < n ∨ 524288 < lit.size ∨ st < 0 ∨ (n : Int) < st ∨ cut < 0 ∨ (lit.size : Int) < cut
    · exact law_out a n cap op st lit cut q w h ho
    · subst hxn
      obtain ⟨c, rfl⟩ := Int.eq_ofNat_of_zero_le (show 0 ≤ cut by omega)
      cases op with
      | true => exact law_open a cap xs st lit c q w hrow (by omega) (by omega) (by omega) (by omega) (by omega)
      | false =>
        by_cases hz : 0 < lit.size
        · exact law_begin a cap xs st lit c q w hrow (by omega) (by omega) (by omega) (by omega) (by omega) hz
        · exact law_empty a cap xs st lit c q w hrow (by omega) (by omega) (by omega) (by omega) (by omega) hz

end Go.Proofs.Qxb6613957a
