/-
  The walk of the law FnPostgresDollarShiftAndCut (function 6).
-/
import Derived.Test.Qxb6000792aDollar
namespace Go.Proofs.Qxb6000792a
open Go.RowKit
open Go.PlainAid (bt get_bt bt_nonneg bt_le)

set_option maxHeartbeats 400000 in
theorem zb22_yes (p t s : ByteArray) (i : Int) (w : World) (h : p.size + t.size + s.size ≤ 1048576) :
    Calls Try.prog 22 #[.string p, .string t, .string s, .int .i64 i] w fun e w' => e = .returned (.bool true) ∧ w = w' := by
  go_enter Try.func22, Try.ntmps22
  go_wp2
  go_ret
  exact ⟨rfl, rfl⟩

set_option maxHeartbeats 400000 in
theorem zb22_no (p t s : ByteArray) (i : Int) (w : World) (h : 1048576 < p.size + t.size + s.size) (hp : p.size ≤ maxLen) (ht : t.size ≤ maxLen) (hs : s.size ≤ maxLen) :
    Calls Try.prog 22 #[.string p, .string t, .string s, .int .i64 i] w fun e w' => e = .returned (.bool false) ∧ w = w' := by
  unfold maxLen at hp ht hs
  go_enter Try.func22, Try.ntmps22
  go_wp2
  all_goals
    go_ret
    exact ⟨rfl, rfl⟩

theorem bt_app_right (p t : ByteArray) (k : Nat) : bt (p ++ t) (p.size + k) = bt t k := by
  rw [bt_list, bt_list]
  have e : (p ++ t).data.toList = p.data.toList ++ t.data.toList := by simp
  rw [e, Lib.size_eq p, List.getElem?_append_right (by omega)]
  rw [show p.data.toList.length + k - p.data.toList.length = k from by omega]
theorem bt_app_left (p t : ByteArray) (k : Nat) (h : k < p.size) : bt (p ++ t) k = bt p k := by
  rw [bt_list, bt_list]
  have e : (p ++ t).data.toList = p.data.toList ++ t.data.toList := by simp
  rw [e, List.getElem?_append_left (by rw [← Lib.size_eq]; exact h)]
theorem bt_take (t : ByteArray) (n k : Nat) (h : k < n) : bt (t.extract 0 n) k = bt t k := by
  rw [bt_list, bt_list, Lib.extract_data]
  simp [h]

/-- The second call's answer is the first one's, shifted. -/
theorem second {p t : ByteArray} {i : Nat} {k e k2 e2 : Int} (h : Tok (bt t) t.size i k e) (h2 : Tok (bt (p ++ t)) (p ++ t).size (p.size + i) k2 e2) : k2 = k ∧ e2 = if k = 4 then 0 else e + (p.size : Int) := by
  have hs := h.shift (g := bt (p ++ t)) (a := p.size) (fun q _ => bt_app_right p t q)
  rw [← ByteArray.size_append] at hs
  exact tok_unique h2 hs

/-- The third call's answer, behind a quoted token. -/
theorem third {t s : ByteArray} {i en : Nat} {k3 e3 : Int} (h : Tok (bt t) t.size i 1 (en : Int)) (hen : en ≤ t.size) (h3 : Tok (bt (t.extract 0 en ++ s)) (t.extract 0 en ++ s).size i k3 e3) : k3 = 1 ∧ e3 = (en : Int) := by
  have hz : (t.extract 0 en).size = en := by rw [ByteArray.size_extract]; omega
  refine tok_unique h3 (h.cut (by rw [ByteArray.size_append, hz]; omega) (fun q hq => ?_))
  rw [bt_app_left _ _ _ (by rw [hz]; omega), bt_take _ _ _ (by omega)]

set_option maxHeartbeats 1000000 in
theorem main6 (p t s : ByteArray) (i : Nat) (m : Int) (w : World) (h : p.size + t.size + s.size ≤ 1048576) (hi : i < t.size) (h36 : (bt t i != 36) = false)
    (hm : w.cell? ⟨0, 0, none⟩ = some (.int .i64 m)) (h0 : 0 < w.heap.size) :
    Calls Try.prog 6 #[.string p, .string t, .string s, .int .i64 i] w fun e w' => e = .returned (.bool true) ∧ Below w.heap.size w w' := by
  have hb := get_bt t
  have hc := zz_any t i m w (by omega) hi hm h0
  have HC : Hid _ := hc
  clear hc
  go_enter Try.func6, Try.ntmps6
  go_wp2_with (go_at_call 22; refine (zb22_yes _ _ _ _ _ h).mono ?_; rintro e w' ⟨rfl, rfl⟩)
  refine Calls.mono HC.out ?_
  rintro e w1 ⟨k, e', rfl, htok, hbl⟩
  have hm1 : w1.cell? ⟨0, 0, none⟩ = some (.int .i64 m) := (hbl.cell (p := ⟨0, 0, none⟩) h0).trans hm
  have h1 : 0 < w1.heap.size := Nat.lt_of_lt_of_le h0 hbl.size
  have HT : Hid (Tok (bt t) t.size i k e') := htok
  have HB : Hid (Below w.heap.size w w1) := hbl
  obtain ⟨e0, e1⟩ := htok.bounds hi
  obtain ⟨en, rfl⟩ := Int.eq_ofNat_of_zero_le e0
  clear htok hbl HC
  go_wp2_with fail
  have hpt : (p ++ t).size = p.size + t.size := ByteArray.size_append ..
  have hc2 := zz_any (p ++ t) (p.size + i) m w1 (by omega) (by omega) hm1 h1
  rw [show ((p.size : Int) + (i : Int)) = ((p.size + i : Nat) : Int) from by omega]
  clear hpt
  refine Calls.mono hc2 ?_
  clear hc2
  rintro e w2 ⟨k2, e2, rfl, htok2, hbl2⟩
  obtain ⟨hk2, he2⟩ := second HT.out htok2
  have hm2 : w2.cell? ⟨0, 0, none⟩ = some (.int .i64 m) := (hbl2.cell (p := ⟨0, 0, none⟩) h1).trans hm1
  have h2 : 0 < w2.heap.size := Nat.lt_of_lt_of_le h1 hbl2.size
  have HB2 : Hid (Below w.heap.size w w2) := HB.out.trans (hbl2.mono HB.out.size)
  clear htok2 hbl2 HB hm1 h1
  subst hk2
  by_cases h4 : k2 = 4
  · subst h4
    simp only [if_true] at he2
    subst he2
    go_wp2_with fail
    go_ret
    exact ⟨rfl, HB2.out⟩
  · rw [if_neg h4] at he2
    subst he2
    have hk4 : (k2 == 4) = false := by simpa using h4
    clear h4
    by_cases hk1 : k2 = 1
    · subst hk1
      go_wp2_with fail
      have hz : (t.extract 0 en).size = en := by rw [ByteArray.size_extract]; omega
      have hpt : (t.extract 0 en ++ s).size = en + s.size := by rw [ByteArray.size_append, hz]
      have hin : i < en := by
        rcases HT.out with ⟨hx, _⟩ | ⟨hx, _⟩ | ⟨_, j, q, hq, hx⟩ | ⟨hx, _⟩
        · exact absurd hx (by decide)
        · exact absurd hx (by decide)
        · have := hq.2.1; have := hq.1.2.2.1.1; omega
        · exact absurd hx (by decide)
      have hc3 := zz_any (t.extract 0 en ++ s) i m w2 (by omega) (by omega) hm2 h2
      clear hpt hz
      refine Calls.mono hc3 ?_
      clear hc3
      rintro e w3 ⟨k3, e3, rfl, htok3, hbl3⟩
      obtain ⟨hk3, he3⟩ := third HT.out (by omega) htok3
      have HB3 : Hid (Below w.heap.size w w3) := HB2.out.trans (hbl3.mono HB2.out.size)
      clear htok3 hbl3 HB2 hm2 h2
      subst hk3
      subst he3
      go_wp2_with fail
      go_ret
      exact ⟨rfl, HB3.out⟩
    · have hk1' : (k2 == 1) = false := by simpa using hk1
      clear hk1
      go_wp2_with fail
      go_ret
      exact ⟨rfl, HB2.out⟩

set_option maxHeartbeats 1000000 in
theorem out6 (p t s : ByteArray) (i : Int) (w : World) (h : p.size + t.size + s.size ≤ 1048576) (hi : i < 0 ∨ (t.size : Int) ≤ i) :
    Calls Try.prog 6 #[.string p, .string t, .string s, .int .i64 i] w fun e w' => e = .returned (.bool true) ∧ Below w.heap.size w w' := by
  rcases hi with hi | hi
  · go_enter Try.func6, Try.ntmps6
    go_wp2_with (go_at_call 22; refine (zb22_yes _ _ _ _ _ h).mono ?_; rintro e w' ⟨rfl, rfl⟩)
    go_ret
    exact ⟨rfl, Below.refl _ _⟩
  · have hge : ¬ i < 0 := by omega
    go_enter Try.func6, Try.ntmps6
    go_wp2_with (go_at_call 22; refine (zb22_yes _ _ _ _ _ h).mono ?_; rintro e w' ⟨rfl, rfl⟩)
    go_ret
    exact ⟨rfl, Below.refl _ _⟩

set_option maxHeartbeats 1000000 in
theorem no36_6 (p t s : ByteArray) (i : Nat) (w : World) (h : p.size + t.size + s.size ≤ 1048576) (hi : i < t.size) (h36 : (bt t i != 36) = true) :
    Calls Try.prog 6 #[.string p, .string t, .string s, .int .i64 i] w fun e w' => e = .returned (.bool true) ∧ Below w.heap.size w w' := by
  have hb := get_bt t
  go_enter Try.func6, Try.ntmps6
  go_wp2_with (go_at_call 22; refine (zb22_yes _ _ _ _ _ h).mono ?_; rintro e w' ⟨rfl, rfl⟩)
  go_ret
  exact ⟨rfl, Below.refl _ _⟩

set_option maxHeartbeats 1000000 in
theorem big6 (p t s : ByteArray) (i : Int) (w : World) (h : 1048576 < p.size + t.size + s.size) (hp : p.size ≤ maxLen) (ht : t.size ≤ maxLen) (hs : s.size ≤ maxLen) :
    Calls Try.prog 6 #[.string p, .string t, .string s, .int .i64 i] w fun e w' => e = .returned (.bool true) ∧ Below w.heap.size w w' := by
  have hc := zb22_no p t s i w h hp ht hs
  have HC : Hid _ := hc
  clear hc h hp ht hs
  go_enter Try.func6, Try.ntmps6
  go_wp2_with fail
  refine Calls.mono HC.out ?_
  rintro e w' ⟨rfl, rfl⟩
  go_wp2_with fail
  go_ret
  exact ⟨rfl, Below.refl _ _⟩

/-- The law's whole walk. -/
theorem walk6 (p t s : ByteArray) (i m : Int) (w : World) (hp : p.size ≤ maxLen) (ht : t.size ≤ maxLen) (hs : s.size ≤ maxLen)
    (hm : w.cell? ⟨0, 0, none⟩ = some (.int .i64 m)) (h0 : 0 < w.heap.size) :
    Calls Try.prog 6 #[.string p, .string t, .string s, .int .i64 i] w fun e w' => e = .returned (.bool true) ∧ Below w.heap.size w w' := by
  rcases Nat.lt_or_ge 1048576 (p.size + t.size + s.size) with h | h
  · exact big6 p t s i w h hp ht hs
  · by_cases hi : i < 0 ∨ (t.size : Int) ≤ i
    · exact out6 p t s i w h hi
    · obtain ⟨k, rfl⟩ := Int.eq_ofNat_of_zero_le (show 0 ≤ i by omega)
      have hk : k < t.size := by omega
      cases h36 : (bt t k != 36)
      · exact main6 p t s k m w h hk h36 hm h0
      · exact no36_6 p t s k w h hk h36

end Go.Proofs.Qxb6000792a
