/-
  The law GivesBack (4) at a nil slice; and at any.
-/
import Derived.Test.Qxb6612439aBack
namespace Go.Proofs.Qxb6612439a
open Go.RowKit Go.Shelf

set_option maxRecDepth 100000 in
set_option maxHeartbeats 2000000 in
theorem back_nil (k0 : Int) (w : World) (m : Int) (hm : w.cell? ⟨0, 0, none⟩ = some (.int .i64 m)) :
    Calls Try.prog 4 #[.slice none 0 0, .int .i64 k0] w fun e w' => e = .returned (.bool true) ∧ Below w.heap.size w w' := by
  have hr : RowS w w.heap.size (.slice none 0 0) [] := ⟨none, 0, rfl, fun _ => rfl, .inl rfl⟩
  have hzb := zb12_any none 0 0 [] k0 w rfl hr (Nat.zero_le _) (fun k => by simp)
  have HZ : Hid (Calls Try.prog 12 #[.slice none 0 0, .int .i64 k0] w fun e w' => (e = .returned (.bool false) ∨ (e = .returned (.bool true) ∧ Bounded true (0 + sumS 0 []))) ∧ w = w') := hzb
  have HR : Hid (RowS w w.heap.size (.slice none 0 0) []) := hr
  have HM : Hid (w.cell? ⟨0, 0, none⟩ = some (.int .i64 m)) := hm
  have hjb := jbytes_any none 0 0 [] w rfl hr (Nat.zero_le _) (Nat.zero_le _)
  have HJ : Hid (Calls Try.prog 6 #[.slice none 0 0] w fun e w' => e = .returned (.int .i64 0) ∧ w = w') := hjb
  clear hzb hr hm hjb
  go_enter Try.func4, Try.ntmps4
  go_wp2_with fail
  refine Calls.mono HZ.out ?_
  rintro e w' ⟨rfl | ⟨rfl, hbd⟩, rfl⟩
  · go_wp2_with fail
    go_ret
    exact ⟨rfl, Below.refl _ _⟩
  · clear hbd HZ
    go_wp2_with fail
    refine Calls.mono HJ.out ?_
    rintro e w' ⟨rfl, rfl⟩
    have HK : Hid (k0 < 0 ∨ ((([] : List ByteArray).length : Nat) : Int) ≤ k0) := by
      rcases Int.lt_or_le k0 0 with h | h
      · exact .inl h
      · exact .inr (by simpa using h)
    rcases Int.lt_or_le k0 0 with hk0 | hk0
    · go_wp2_with fail
      refine Calls.mono (const_any k0 w) ?_
      rintro e w3 ⟨rfl, hw3⟩
      subst hw3
      go_wp2_with fail
      refine Calls.mono (join_const k0 none 0 0 [] w rfl HR.out (Nat.zero_le _) (Nat.zero_le _) m HM.out) ?_
      rintro e w4 ⟨r, rfl, hj, hb4⟩
      have hr := back_none HK.out hj
      subst hr
      have HBf : Hid (Below w.heap.size w w4) := hb4
      clear hj hb4
      go_wp2_with fail
      go_ret
      exact ⟨rfl, HBf.out⟩
    · have hk1 : ¬ k0 < 0 := by omega
      go_wp2_with fail
      refine Calls.mono (const_any k0 w) ?_
      rintro e w3 ⟨rfl, hw3⟩
      subst hw3
      go_wp2_with fail
      refine Calls.mono (join_const k0 none 0 0 [] w rfl HR.out (Nat.zero_le _) (Nat.zero_le _) m HM.out) ?_
      rintro e w4 ⟨r, rfl, hj, hb4⟩
      have hr := back_none HK.out hj
      subst hr
      have HBf : Hid (Below w.heap.size w w4) := hb4
      clear hj hb4
      go_wp2_with fail
      go_ret
      exact ⟨rfl, HBf.out⟩

theorem back_any (a : Option Addr) (n cap : Nat) (ss : List ByteArray) (k0 : Int) (w : World) (hn : ss.length = n) (h : RowS w w.heap.size (.slice a n cap) ss) (hmax : n ≤ maxLen) (hsz : ∀ k : Nat, (ss[k]?.getD ByteArray.empty).size ≤ maxLen)
    (m : Int) (hm : w.cell? ⟨0, 0, none⟩ = some (.int .i64 m)) :
    Calls Try.prog 4 #[.slice a n cap, .int .i64 k0] w fun e w' => e = .returned (.bool true) ∧ Below w.heap.size w w' := by
  cases a with
  | some ad => exact back_some ad n cap ss k0 w hn h hmax hsz m hm
  | none =>
    obtain ⟨a', cap', h1, h2, h3⟩ := h
    simp only [Value.slice.injEq] at h1
    obtain ⟨rfl, rfl, rfl⟩ := h1
    rcases h3 with h3 | ⟨b, off, h4, _⟩
    · subst h3
      have := h2 rfl
      subst this
      exact back_nil k0 w m hm
    · cases h4

end Go.Proofs.Qxb6612439a
