/-
  The walk of the law FnPostgresDollarTokenShape (function 5): its callees at a known token, and the case of an unterminated one.
-/
import Derived.Test.Qxb6000792aIndexOf
import Derived.Test.Qxb6000792aFirst
namespace Go.Proofs.Qxb6000792a
open Go.RowKit
open Go.PlainAid (bt get_bt bt_nonneg bt_le)

set_option maxHeartbeats 400000 in
theorem zb17_yes (t : ByteArray) (i : Int) (w : World) (h : t.size ≤ 1048576) :
    Calls Try.prog 17 #[.string t, .int .i64 i] w fun e w' => e = .returned (.bool true) ∧ w = w' := by
  go_enter Try.func17, Try.ntmps17
  go_wp2
  go_ret
  exact ⟨rfl, rfl⟩

set_option maxHeartbeats 400000 in
theorem zb17_no (t : ByteArray) (i : Int) (w : World) (h : 1048576 < t.size) (ht : t.size ≤ maxLen) :
    Calls Try.prog 17 #[.string t, .int .i64 i] w fun e w' => e = .returned (.bool false) ∧ w = w' := by
  unfold maxLen at ht
  go_enter Try.func17, Try.ntmps17
  go_wp2
  all_goals
    go_ret
    exact ⟨rfl, rfl⟩

theorem idx_unt {t : ByteArray} {i j : Nat} (h : Unt (bt t) t.size i j) : Lib.indexB (t.extract (i + (min (j + 1) t.size - i)) t.size) (t.extract i (j + 1)) = -1 := by
  have hij := h.1.2.2.1.1
  have hj := h.1.2.1
  show Lib.index (t.extract (i + (min (j + 1) t.size - i)) t.size).data.toList (t.extract i (j + 1)).data.toList = -1
  rw [Lib.extract_to_end, show i + (min (j + 1) t.size - i) = j + 1 from by omega]
  have hs := index_says t i j h.1 _ rfl
  have hge := Lib.index_ge (t.data.toList.drop (j + 1)) (t.extract i (j + 1)).data.toList
  generalize Lib.index (t.data.toList.drop (j + 1)) (t.extract i (j + 1)).data.toList = r at hs hge
  rcases Int.lt_or_le r 0 with c | c
  · omega
  · obtain ⟨p, _, hq⟩ := hs.2.2 c
    exact (quo_unt hq h).elim

theorem idx_quo {t : ByteArray} {i j p : Nat} (h : Quo (bt t) t.size i j p) : Lib.indexB (t.extract (i + (min (j + 1) t.size - i)) t.size) (t.extract i (j + 1)) = (p : Int) - ((j : Int) + 1) := by
  have hij := h.1.2.2.1.1
  have hj := h.1.2.1
  show Lib.index (t.extract (i + (min (j + 1) t.size - i)) t.size).data.toList (t.extract i (j + 1)).data.toList = _
  rw [Lib.extract_to_end, show i + (min (j + 1) t.size - i) = j + 1 from by omega]
  have hs := index_says t i j h.1 _ rfl
  generalize Lib.index (t.data.toList.drop (j + 1)) (t.extract i (j + 1)).data.toList = r at hs
  rcases Int.lt_or_le r 0 with c | c
  · exact (quo_unt h (hs.2.1 c)).elim
  · obtain ⟨p', hp, hq⟩ := hs.2.2 c
    obtain ⟨_, rfl⟩ := quo_unique hq h
    omega

theorem tok_some (t : ByteArray) (i : Nat) (m : Int) (w : World) (ht : t.size ≤ 1048576) (hi : i < t.size)
    (hm : w.cell? ⟨0, 0, none⟩ = some (.int .i64 m)) (h0 : 0 < w.heap.size) : ∃ k e', Tok (bt t) t.size i k e' := by
  obtain ⟨_, _, _, ⟨k, e', _, h, _⟩, _⟩ := zz_any t i m w ht hi hm h0 []
  exact ⟨k, e', h⟩

theorem zz_at (t : ByteArray) (i : Nat) (m k e' : Int) (w : World) (ht : t.size ≤ 1048576) (hi : i < t.size)
    (hm : w.cell? ⟨0, 0, none⟩ = some (.int .i64 m)) (h0 : 0 < w.heap.size) (h : Tok (bt t) t.size i k e') :
    Calls Try.prog 18 #[.string t, .int .i64 i] w fun e w' => e = .returned (.tuple #[.int .i64 k, .int .i64 e']) ∧ Below w.heap.size w w' := by
  refine (zz_any t i m w ht hi hm h0).mono ?_
  rintro e w' ⟨k1, e1, rfl, h1, hb⟩
  obtain ⟨rfl, rfl⟩ := tok_unique h1 h
  exact ⟨rfl, hb⟩

set_option maxRecDepth 100000 in
set_option maxHeartbeats 1000000 in
theorem shape_unt (t : ByteArray) (i j : Nat) (m : Int) (w : World) (ht : t.size ≤ 1048576) (hi : i < t.size) (h36 : (bt t i != 36) = false)
    (hm : w.cell? ⟨0, 0, none⟩ = some (.int .i64 m)) (h0 : 0 < w.heap.size) (hU : Unt (bt t) t.size i j) :
    Calls Try.prog 5 #[.string t, .int .i64 i] w fun e w' => e = .returned (.bool true) ∧ Below w.heap.size w w' := by
  have hb := get_bt t
  have hc := zz_at t i m 4 0 w ht hi hm h0 (.inr (.inr (.inr ⟨rfl, rfl, j, hU⟩)))
  have HC : Hid _ := hc
  have hij := hU.1.2.2.1.1
  have hjn := hU.1.2.1
  obtain ⟨hF, hA⟩ := tag_first hU.1
  have F : Hid (First (bt t) t.size i j) := hF
  have A : Hid (AllN (bt t) i j) := hA
  have U : Hid (Unt (bt t) t.size i j) := hU
  clear hc hF hA hU hm h0
  go_enter Try.func5, Try.ntmps5
  go_wp2_with (go_at_call 17; refine (zb17_yes _ _ _ ht).mono ?_; rintro e w' ⟨rfl, rfl⟩)
  refine Calls.mono HC.out ?_
  rintro e w1 ⟨rfl, hbl⟩
  have HB : Hid (Below w.heap.size w w1) := hbl
  clear HC hbl h36
  go_wp2_with fail
  go_loop [7, 8] (fun q v => ∃ k : Nat, v = .int .i64 k ∧ q = .int .i64 (-1) ∧ i + 1 ≤ k ∧ k ≤ j) (fun _ v => t.size - (intOf v).toNat)
  case atStart => exact ⟨i + 1, by go_num, rfl, by omega, by omega⟩
  case round =>
    obtain ⟨k, rfl, rfl, h1, h2⟩ := hrel
    by_cases hlt : k < j
    · have hne : (bt t k == 36) = false := by have := F.out.2.2.2 k h1 hlt; simpa using this
      go_wp2_with fail
      go_round
      case rel => exact ⟨k + 1, by go_num, rfl, by omega, by omega⟩
      case measure => simp [intOf]; omega
    · obtain rfl : k = j := by omega
      have heq : (bt t k == 36) = true := by have := F.out.2.2.1; simpa using this
      clear hlt
      go_wp2_with fail
      go_loop [9, 10] (fun b v => ∃ q : Nat, v = .int .i64 q ∧ b = .bool true ∧ i + 1 ≤ q ∧ q ≤ k) (fun _ v => t.size - (intOf v).toNat)
      case atStart => exact ⟨i + 1, by go_num, rfl, by omega, by omega⟩
      case round =>
        obtain ⟨q, rfl, rfl, h3, h4⟩ := hrel
        by_cases hlt : q < k
        · have hn := A.out q h3 hlt
          go_wp2_with (go_at_call 19; refine (nameByte_any _ _).mono ?_; rintro e w' ⟨rfl, rfl⟩)
          go_round
          case rel => exact ⟨q + 1, by go_num, rfl, by omega, by omega⟩
          case measure => simp [intOf]; omega
        · obtain rfl : q = k := by omega
          clear hlt
          by_cases hnx : i + 1 < t.size
          · have hnd := nodig_bool U.out.1.1 hnx
            go_wp2_with (go_at_call 20; refine (isDig_any _ _).mono ?_; rintro e w' ⟨rfl, rfl⟩)
            refine (indexOf_any _ _ _ (by rw [ByteArray.size_extract]; omega) (by rw [ByteArray.size_extract]; omega) (by rw [ByteArray.size_extract]; omega)).mono ?_
            rintro e w2 ⟨rfl, rfl⟩
            rw [idx_unt U.out]
            go_wp2_with fail
            go_ret
            exact ⟨rfl, HB.out⟩
          · omega

end Go.Proofs.Qxb6000792a
