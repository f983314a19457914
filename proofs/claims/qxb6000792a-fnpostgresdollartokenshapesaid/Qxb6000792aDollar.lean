/-
  The walks of delimitedToken, postgresDollar, ZZPostgresDollar: what token they hand back.
-/
import Derived.Test.Qxb6000792aBytes
import Derived.Test.Qxb6000792aTok
import Derived.Test.Qxb6000792aIndex
import Derived.Test.Qxb6000792aShelf
import Derived.BigQuiet
namespace Go.Proofs.Qxb6000792a
open Go.RowKit

theorem bcell {W w1 : World} (hb : Below W.heap.size W w1) : (∀ b o, b < W.heap.size → w1.cell? ⟨b, o, none⟩ = W.cell? ⟨b, o, none⟩) ∧ (∀ b o, b < W.heap.size → w1.frozen? ⟨b, o, none⟩ = W.frozen? ⟨b, o, none⟩) :=
  ⟨fun b o h => hb.cell (p := ⟨b, o, none⟩) h, fun b o h => hb.frozen (p := ⟨b, o, none⟩) h⟩

set_option maxHeartbeats 400000 in
theorem delim_any (t tag : ByteArray) (i o : Nat) (m r : Int) (w : World) (ht : t.size ≤ 1048576) (hio : i + o ≤ t.size) (hto : tag.size ≤ 1048576)
    (hm : w.cell? ⟨0, 0, none⟩ = some (.int .i64 m)) (h0 : 0 < w.heap.size)
    (hr : Hid (Lib.index (t.data.toList.drop (i + o)) tag.data.toList = r)) (hrl : r ≤ 1048576) :
    Calls Try.prog 34 #[.string t, .int .i64 i, .int .i64 o, .string tag, .int .i64 1] w fun e w' =>
      ((r < 0 ∧ e = .returned (.agg #[.int .i64 4, .int .i64 0])) ∨ (0 ≤ r ∧ e = .returned (.agg #[.int .i64 1, .int .i64 (i + o + r + tag.size)]))) ∧ Below w.heap.size w w' := by
  have hm1 : ∀ o, (w.alloc o).cell? ⟨0, 0, none⟩ = some (.int .i64 m) := fun o => by rw [← hm]; exact ((Below.refl w.heap.size w).alloc (Nat.le_refl _) o).cell (p := ⟨0, 0, none⟩) h0
  have hs : (t.extract (i + o) t.size).size < 4294967281 := by rw [ByteArray.size_extract]; omega
  have hc := fun W hm => Try.strings_Index (t.extract (i + o) t.size) tag m W hs hm
  rw [Lib.extract_to_end, hr.out] at hc
  have HC : Hid _ := hc
  clear hc hs hr
  by_cases hlt : r < 0
  · go_enter Try.func34, Try.ntmps34
    go_wp2_with (go_at_call 39; refine (HC.out _ (hm1 _)).mono ?_; rintro e w' ⟨rfl, rfl⟩)
    exact bodyPost_ret (v := .agg #[.int .i64 4, .int .i64 0]) (by simp [results, Try.results34, go_sem]) rfl ⟨.inl ⟨hlt, rfl⟩, (Below.refl _ _).alloc (Nat.le_refl _) _⟩
  · go_enter Try.func34, Try.ntmps34
    go_wp2_with (go_at_call 39; refine (HC.out _ (hm1 _)).mono ?_; rintro e w' ⟨rfl, rfl⟩)
    exact bodyPost_ret (v := .agg #[.int .i64 1, .int .i64 (i + o + r + tag.size)]) (by simp [results, Try.results34, go_sem]) rfl ⟨.inr ⟨by omega, rfl⟩, (Below.refl _ _).alloc (Nat.le_refl _) _⟩

open Go.PlainAid (bt get_bt bt_nonneg bt_le)

theorem isD_of {c : Int} (h : digB c = true) : isD c := (digB_iff c).1 h
theorem notD_of {c : Int} (h : digB c = false) : ¬ isD c := fun x => by rw [(digB_iff c).2 x] at h; cases h
theorem isN_of {c : Int} (h : nameB c = true) : isN c := (nameB_iff c).1 h
theorem notN_of {c : Int} (h : nameB c = false) : ¬ isN c := fun x => by rw [(nameB_iff c).2 x] at h; cases h

set_option maxHeartbeats 1000000 in
theorem dollar_any (t : ByteArray) (i : Nat) (m : Int) (w : World) (ht : t.size ≤ 1048576) (hi : i < t.size) 
    (hm : w.cell? ⟨0, 0, none⟩ = some (.int .i64 m)) (h0 : 0 < w.heap.size) :
    Calls Try.prog 26 #[.string t, .int .i64 i] w fun e w' => ∃ k e', e = .returned (.agg #[.int .i64 k, .int .i64 e']) ∧ Tok (bt t) t.size i k e' ∧ Below w.heap.size w w' := by
  have hb := get_bt t
  go_enter Try.func26, Try.ntmps26
  go_wp2
  go_loop [5] (fun v => ∃ j : Nat, v = .int .i64 j ∧ i + 1 ≤ j ∧ j ≤ t.size ∧ Hid (∀ k, i + 1 ≤ k → k < j → digB (bt t k) = true)) (fun v => t.size - (intOf v).toNat)
  case atStart => exact ⟨i + 1, by go_num, by omega, by omega, fun k h1 h2 => by omega⟩
  case round =>
    obtain ⟨j, rfl, h1, h2, H⟩ := hrel
    by_cases hlt : j < t.size
    · cases hd : digB (bt t j)
      · have E : Hid (j < t.size → digB (bt t j) = false) := fun _ => hd
        by_cases hgt : i + 1 < j
        · go_wp2_with (go_at_call 32; refine (isDigit_any _ _).mono ?_; rintro e w' ⟨rfl, rfl⟩)
          exact bodyPost_ret (v := .agg #[.int .i64 3, .int .i64 j]) (by simp [results, Try.results26, go_sem]) rfl ⟨_, _, rfl, .inl ⟨rfl, j, hgt, ⟨h1, h2, fun k g1 g2 => isD_of (H.out k g1 g2), fun hj => notD_of (E.out hj)⟩, rfl⟩, (Below.refl _ _).alloc (Nat.le_refl _) _⟩
        · obtain rfl : j = i + 1 := by omega
          clear H
          go_wp2_with (go_at_call 32; refine (isDigit_any _ _).mono ?_; rintro e w' ⟨rfl, rfl⟩)
          go_loop [5] (fun v => ∃ j : Nat, v = .int .i64 j ∧ i + 1 ≤ j ∧ j ≤ t.size ∧ Hid (∀ k, i + 1 ≤ k → k < j → bt t k ≠ 36 ∧ nameB (bt t k) = true)) (fun v => t.size - (intOf v).toNat)
          case atStart => exact ⟨i + 1, by go_num, by omega, by omega, fun k h1 h2 => by omega⟩
          case round =>
            obtain ⟨j, rfl, h3, h4, H⟩ := hrel
            have c0 := bt_nonneg t j
            have c1 := bt_le t j
            by_cases hlt : j < t.size
            · by_cases h36 : bt t j = 36
              · have X : Hid (bt t j = 36) := h36
                have hne : (bt t j != 36) = false := by simpa using h36
                have heq : ((j : Int) == (t.size : Int)) = false := by simp; omega
                clear h36
                have htag : Tag (bt t) t.size i j := ⟨fun _ => notD_of hd, hlt, ⟨h3, fun k g1 g2 => ⟨(H.out k g1 g2).1, isN_of (H.out k g1 g2).2⟩⟩, X.out⟩
                obtain ⟨r, hr⟩ : ∃ r, Lib.index (t.data.toList.drop (j + 1)) (t.extract i (j + 1)).data.toList = r := ⟨_, rfl⟩
                obtain ⟨r1, r2, r3⟩ := index_says t i j htag r hr
                have hmin : i + (min (j + 1) t.size - i) = j + 1 := by omega
                have HR : Hid (Lib.index (t.data.toList.drop (i + (min (j + 1) t.size - i))) (t.extract i (j + 1)).data.toList = r) := by rw [hmin]; exact hr
                have R2 : Hid _ := r2
                have R3 : Hid _ := r3
                have hsz : (t.extract i (j + 1)).size = j + 1 - i := by rw [ByteArray.size_extract]; omega
                have HS : Hid _ := hsz
                have hlen : (t.extract i (j + 1)).size ≤ 1048576 := by omega
                have hm1 : (w.alloc (.cells #[.int .i64 0, .int .i64 0] 41)).cell? ⟨0, 0, none⟩ = some (.int .i64 m) := by rw [← hm]; exact ((Below.refl w.heap.size w).alloc (Nat.le_refl _) _).cell (p := ⟨0, 0, none⟩) h0
                have HT : Hid _ := htag
                have hc := delim_any t (t.extract i (j + 1)) i (min (j + 1) t.size - i) m r (w.alloc (.cells #[.int .i64 0, .int .i64 0] 41)) ht (by omega) hlen hm1 (by simp) HR (by omega)
                have HC : Hid _ := hc
                clear hc hr r2 r3 hsz hlen hmin HR htag H
                go_wp2_with fail
                refine Calls.mono HC.out ?_
                rintro e w' ⟨⟨hlt, rfl⟩ | ⟨hge, rfl⟩, hbl⟩
                · obtain ⟨hc1, hf1⟩ := bcell hbl
                  have HB : Hid _ := hbl
                  have hz : w.heap.size < w'.heap.size := by have := hbl.size; simp at this; omega
                  clear hbl
                  go_wp2_with fail
                  refine bodyPost_ret (v := .agg #[.int .i64 4, .int .i64 0]) (by simp [results, Try.results26, go_sem, hc1]) rfl ⟨_, _, rfl, .inr (.inr (.inr ⟨rfl, rfl, j, R2.out hlt⟩)), ?_⟩
                  have B0 := ((Below.refl _ w).alloc (Nat.le_refl _) (.cells #[.int .i64 0, .int .i64 0] 41)).trans (HB.out.mono (by simp))
                  exact (B0.setCell (by simp) _).setCell (by simp) _
                · obtain ⟨hc1, hf1⟩ := bcell hbl
                  have HB : Hid _ := hbl
                  have hz : w.heap.size < w'.heap.size := by have := hbl.size; simp at this; omega
                  clear hbl
                  go_wp2_with fail
                  obtain ⟨p, hp, hq⟩ := R3.out hge
                  have hpe : ((i : Int) + ((min (j + 1) t.size - i : Nat) : Int) + r + ((min (j + 1) t.size - i : Nat) : Int)) = ((p + (j + 1 - i) : Nat) : Int) := by omega
                  refine bodyPost_ret (v := .agg #[.int .i64 1, .int .i64 (i + ((min (j + 1) t.size - i : Nat) : Int) + r + ((min (j + 1) t.size - i : Nat) : Int))]) (by simp [results, Try.results26, go_sem, hc1]) rfl ⟨_, _, rfl, .inr (.inr (.inl ⟨rfl, j, p, hq, hpe⟩)), ?_⟩
                  have B0 := ((Below.refl _ w).alloc (Nat.le_refl _) (.cells #[.int .i64 0, .int .i64 0] 41)).trans (HB.out.mono (by simp))
                  exact (B0.setCell (by simp) _).setCell (by simp) _
              · have X : Hid (bt t j ≠ 36) := h36
                have hne : (bt t j != 36) = true := by simpa using h36
                clear h36
                have hpn : pnB (bt t j) = nameB (bt t j) := by rw [Bool.eq_iff_iff, pnB_iff]; have := X.out; simp [this]
                cases hn : nameB (bt t j)
                · rw [hn] at hpn
                  have heq : ((j : Int) == (t.size : Int)) = false := by simp; omega
                  go_wp2_with (go_at_call 33; refine (pname_any _ _ c0 c1).mono ?_; rintro e w' ⟨rfl, rfl⟩)
                  exact bodyPost_ret (v := .agg #[.int .i64 0, .int .i64 (i + 1)]) (by simp [results, Try.results26, go_sem]) rfl ⟨_, _, rfl, .inr (.inl ⟨rfl, rfl, j, fun _ => notD_of hd, h4, ⟨h3, fun k g1 g2 => ⟨(H.out k g1 g2).1, isN_of (H.out k g1 g2).2⟩⟩, fun _ => ⟨X.out, notN_of hn⟩⟩), (Below.refl _ _).alloc (Nat.le_refl _) _⟩
                · rw [hn] at hpn
                  go_wp2_with (go_at_call 33; refine (pname_any _ _ c0 c1).mono ?_; rintro e w' ⟨rfl, rfl⟩)
                  go_round
                  case rel => exact ⟨j + 1, by go_num, by omega, by omega, fun k g1 g2 => by
                    rcases Nat.lt_or_ge k j with c | c
                    · exact H.out k g1 c
                    · obtain rfl : k = j := by omega
                      exact ⟨X.out, hn⟩⟩
                  case measure => simp [intOf]; omega
            · obtain rfl : j = t.size := by omega
              clear hlt
              have hlt : ¬ (t.size : Int) < (t.size : Int) := by omega
              go_wp2_with fail
              exact bodyPost_ret (v := .agg #[.int .i64 0, .int .i64 (i + 1)]) (by simp [results, Try.results26, go_sem]) rfl ⟨_, _, rfl, .inr (.inl ⟨rfl, rfl, t.size, fun _ => notD_of hd, h4, ⟨h3, fun k g1 g2 => ⟨(H.out k g1 g2).1, isN_of (H.out k g1 g2).2⟩⟩, fun hx => absurd hx (Nat.lt_irrefl _)⟩), (Below.refl _ _).alloc (Nat.le_refl _) _⟩
      · go_wp2_with (go_at_call 32; refine (isDigit_any _ _).mono ?_; rintro e w' ⟨rfl, rfl⟩)
        go_round
        case rel => exact ⟨j + 1, by go_num, by omega, by omega, fun k g1 g2 => by
          rcases Nat.lt_or_ge k j with c | c
          · exact H.out k g1 c
          · obtain rfl : k = j := by omega
            exact hd⟩
        case measure => simp [intOf]; omega
    · obtain rfl : j = t.size := by omega
      by_cases hgt : i + 1 < t.size
      · have hlt' : ¬ (t.size : Int) < (t.size : Int) := by omega
        go_wp2_with fail
        exact bodyPost_ret (v := .agg #[.int .i64 3, .int .i64 t.size]) (by simp [results, Try.results26, go_sem]) rfl ⟨_, _, rfl, .inl ⟨rfl, t.size, hgt, ⟨h1, h2, fun k g1 g2 => isD_of (H.out k g1 g2), fun hj => absurd hj (Nat.lt_irrefl _)⟩, rfl⟩, (Below.refl _ _).alloc (Nat.le_refl _) _⟩
      · have hsz : (t.size : Int) = (i : Int) + 1 := by omega
        have hlt' : ¬ (t.size : Int) < (t.size : Int) := by omega
        have HS : Hid _ := hsz
        clear hsz H
        go_wp2_with fail
        go_loop [5] (fun v => v = .int .i64 t.size) (fun _ => 0)
        case atStart => rfl
        case round =>
          subst hrel
          go_wp2_with fail
          exact bodyPost_ret (v := .agg #[.int .i64 0, .int .i64 (i + 1)]) (by simp [results, Try.results26, go_sem]) rfl ⟨_, _, rfl, .inr (.inl ⟨rfl, rfl, t.size, fun hx => absurd hx hgt, Nat.le_refl _, ⟨h1, fun k g1 g2 => absurd g1 (by omega)⟩, fun hx => absurd hx (Nat.lt_irrefl _)⟩), (Below.refl _ _).alloc (Nat.le_refl _) _⟩

set_option maxHeartbeats 400000 in
theorem zz_any (t : ByteArray) (i : Nat) (m : Int) (w : World) (ht : t.size ≤ 1048576) (hi : i < t.size) 
    (hm : w.cell? ⟨0, 0, none⟩ = some (.int .i64 m)) (h0 : 0 < w.heap.size) :
    Calls Try.prog 18 #[.string t, .int .i64 i] w fun e w' => ∃ k e', e = .returned (.tuple #[.int .i64 k, .int .i64 e']) ∧ Tok (bt t) t.size i k e' ∧ Below w.heap.size w w' := by
  have hc := dollar_any t i m w ht hi hm h0
  have HC : Hid _ := hc
  clear hc
  go_enter Try.func18, Try.ntmps18
  go_wp2_with fail
  refine Calls.mono HC.out ?_
  rintro e w' ⟨k, e', rfl, htok, hbl⟩
  have HT : Hid _ := htok
  have HB : Hid _ := hbl
  clear htok hbl
  go_wp2_with fail
  go_quiet (fail)
  go_wp2_with fail
  go_ret2
  exact ⟨k, e', rfl, HT.out, below_drewN (HB.out.alloc HB.out.size _) nq⟩

end Go.Proofs.Qxb6000792a
