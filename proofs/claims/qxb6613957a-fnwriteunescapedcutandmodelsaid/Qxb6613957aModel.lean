/-
  The walks of zzIsSpecial (31) and zzUnescapeModel (20): the run model gives the unescaped literal.
-/
import Derived.Test.Qxb6613957aWrite
import Derived.Test.Qxb6613957aClone
namespace Go.Proofs.Qxb6613957a
open Go.RowKit

theorem byte_is {c : UInt8} {n : Nat} (hn : n < 256) : (((c.toNat : Nat) : Int) == (n : Int)) = (c == UInt8.ofNat n) := by
  rw [Bool.eq_iff_iff, beq_iff_eq, beq_iff_eq]
  constructor
  · intro h; exact UInt8.toNat_inj.1 (by simp; omega)
  · rintro rfl; simp; omega

theorem spec_bool (c : UInt8) : (((c.toNat : Nat) : Int) == 36 || ((c.toNat : Nat) : Int) == 96 || ((c.toNat : Nat) : Int) == 34 || ((c.toNat : Nat) : Int) == 92) = special c := by
  unfold special
  rw [show (((c.toNat : Nat) : Int) == 36) = (c == 36) from byte_is (n := 36) (by omega), show (((c.toNat : Nat) : Int) == 96) = (c == 96) from byte_is (n := 96) (by omega),
    show (((c.toNat : Nat) : Int) == 34) = (c == 34) from byte_is (n := 34) (by omega), show (((c.toNat : Nat) : Int) == 92) = (c == 92) from byte_is (n := 92) (by omega)]

set_option maxHeartbeats 400000 in
theorem special_any (c : UInt8) (w : World) : Calls Try.prog 31 #[.int .u8 ((c.toNat : Nat) : Int)] w fun e w' => e = .returned (.bool (special c)) ∧ w = w' := by
  have hs := spec_bool c
  generalize special c = s at hs
  generalize ((c.toNat : Nat) : Int) = n at hs
  have HS : Hid _ := hs
  clear hs
  cases h1 : n == 36 <;> cases h2 : n == 96 <;> cases h3 : n == 34 <;> cases h4 : n == 92
  all_goals
    go_enter Try.func31, Try.ntmps31
    go_wp2
    go_ret
    exact ⟨by have := HS.out; simp [h1, h2, h3, h4] at this; rw [← this]; rfl, rfl⟩

theorem drop_run (lit : ByteArray) (k : Nat) : ∀ r, k + r ≤ lit.size → (∀ m (h : m < lit.size), k ≤ m → m < k + r → lit[m] = 92) → (bytesOf lit).drop k = List.replicate r 92 ++ (bytesOf lit).drop (k + r)
  | 0, _, _ => rfl
  | r + 1, hr, h => by
    rw [drop_run lit k r (by omega) (fun m hm a b => h m hm a (by omega)), drop_cons lit (k + r) (by omega), h (k + r) (by omega) (by omega) (by omega), List.replicate_succ', List.append_assoc]
    rfl

theorem Done.run {q : Bool} {lit : ByteArray} {k r j : Nat} {done : List UInt8} (h : Done q lit k done) (hj : k + r = j) (hn : j ≤ lit.size) (hall : ∀ m (h : m < lit.size), k ≤ m → m < j → lit[m] = 92)
    (hend : ∀ h : j < lit.size, lit[j] ≠ 92) : Done q lit j (done ++ List.replicate (r / 2) 92 ++ (if r % 2 = 1 then oddLeft q ((bytesOf lit).drop j) else [])) := by
  subst hj
  have hd := drop_run lit k r hn hall
  have hh : ((bytesOf lit).drop (k + r)).head? ≠ some 92 := by
    by_cases hlt : k + r < lit.size
    · rw [drop_cons lit (k + r) hlt]; simpa using hend hlt
    · rw [drop_end lit (k + r) (by omega)]; simp
  refine ⟨?_, ?_⟩
  · rw [← h.1, hd, unesc_run q r _ hh]
    simp [List.append_assoc]
  · have h2 := h.2
    have ho : ∀ l, (oddLeft q l).length ≤ 1 := by
      intro l; unfold oddLeft; split
      · simp
      · split <;> simp
    have := ho ((bytesOf lit).drop (k + r))
    simp only [List.length_append, List.length_replicate]
    split
    · omega
    · simp; omega

theorem app_step {w wr w2 : World} {g cap g' cap' : Nat} {done : List UInt8} {c : UInt8} {o : Obj}
    (HW : wr.ownsRow w.heap.size 5 1 (.slice (some ⟨g, 0, none⟩) done.length cap) done.length (done.map byteV)) (HL : Below w.heap.size w wr)
    (hown2 : w2.ownsRow w.heap.size 5 1 (.slice (some ⟨g', 0, none⟩) (done.length + 1) cap') (done.length + 1) (done.map byteV ++ [.int .u8 ((c.toNat : Nat) : Int)]))
    (hgrow2 : (wr.alloc o).grownBy w2 (Value.slice (some ⟨g, 0, none⟩) done.length cap).ownBlock) :
    w2.ownsRow w.heap.size 5 1 (.slice (some ⟨g', 0, none⟩) (done ++ [c]).length cap') (done ++ [c]).length ((done ++ [c]).map byteV) ∧ Below w.heap.size w w2 := by
  refine ⟨by rw [map_snoc, List.length_append]; exact hown2, ?_⟩
  exact (HL.alloc HL.size o).grown hgrow2 (by have := HL.size; simp; omega) (fun k hk => (HW.lt k hk).1)

set_option maxHeartbeats 2000000 in
theorem model_any (lit : ByteArray) (q : Bool) (w : World) (hl : lit.size ≤ 1048576) :
    Calls Try.prog 20 #[.string lit, .bool q] w fun e w' => ∃ v', e = .returned v' ∧ w'.ownsRow w.heap.size 5 1 v' (unesc q (bytesOf lit)).length ((unesc q (bytesOf lit)).map byteV) ∧ v' ≠ .slice none 0 0 ∧ Below w.heap.size w w' := by
  obtain ⟨i0, hi0, hz0, hz1, hz2⟩ := info_parts Try.info5
  go_enter Try.func20, Try.ntmps20
  go_wp2_with (at_make; refine wpList_make_own _ rfl _ _ 27 rfl w.heap.size 5 i0 (.int .u8 0) 1 Try.underlying27 hi0 hz0 hz1 .i64 .i64 _ lit.size rfl rfl rfl (by rw [hz2]; omega) (by unfold maxLen; omega) (Nat.le_refl _) ?_; intro w1 hown hgrow)
  have hb1 : Below w.heap.size w w1 := (Below.refl _ w).grown hgrow (Nat.le_refl _) (fun k e => by cases e)
  have HO : Hid _ := hown
  have HB1 : Hid _ := hb1
  clear hown hgrow hb1
  go_loopw [5, 6] (fun out i wr => ∃ (k g cap : Nat) (done : List UInt8), out = .slice (some ⟨g, 0, none⟩) done.length cap ∧ i = .int .i64 k ∧ k ≤ lit.size ∧ Hid (wr.ownsRow w.heap.size 5 1 (.slice (some ⟨g, 0, none⟩) done.length cap) done.length (done.map byteV)) ∧ Hid (Done q lit k done) ∧ Hid (Below w.heap.size w wr))
    (fun _ i _ => lit.size - (intOf i).toNat)
  case atStart => exact ⟨0, w.heap.size, lit.size, [], rfl, rfl, Nat.zero_le _, HO.out, ⟨rfl, Nat.le_refl _⟩, HB1.out⟩
  case round =>
    obtain ⟨k, g, cap, done, rfl, rfl, hk, HW, HD, HL⟩ := hrel
    have hdl := HD.out.2
    by_cases hlt : k < lit.size
    · obtain ⟨c, hc⟩ : ∃ c, lit[k] = c := ⟨_, rfl⟩
      by_cases h92 : c = 92
      · have heq : (((c.toNat : Nat) : Int) != 92) = false := by
          rw [bne_eq_false_iff_eq]; exact beq_iff_eq.1 (c92.2 h92)
        have X : Hid (lit[k] = 92) := hc.trans h92
        clear h92
        have hsB : w.heap.size ≤ wr.heap.size := HL.out.size
        go_wp2_with fail
        clear heq
        go_loop [7] (fun u => ∃ j : Nat, u = .int .i64 j ∧ k ≤ j ∧ j ≤ lit.size ∧ Hid (∀ m (h : m < lit.size), k ≤ m → m < j → lit[m] = 92)) (fun u => lit.size - (intOf u).toNat)
        case atStart => exact ⟨k, rfl, Nat.le_refl _, hk, fun m _ h1 h2 => by omega⟩
        case round =>
          obtain ⟨j, rfl, hj1, hj2, HA⟩ := hrel
          by_cases hjl : j < lit.size
          · obtain ⟨d, hd⟩ : ∃ d, lit[j] = d := ⟨_, rfl⟩
            by_cases hd92 : d = 92
            · have hde : (((d.toNat : Nat) : Int) == 92) = true := c92.2 hd92
              have Y : Hid (lit[j] = 92) := hd.trans hd92
              clear hd92
              go_wp2_with fail
              go_round
              case rel => exact ⟨j + 1, by go_num, by omega, by omega, fun m hm h1 h2 => by
                rcases Nat.lt_or_ge m j with e | e
                · exact HA.out m hm h1 e
                · obtain rfl : m = j := by omega
                  exact Y.out⟩
              case measure => simp [intOf]; omega
            · have hde : (((d.toNat : Nat) : Int) == 92) = false := by
                cases e : (((d.toNat : Nat) : Int) == 92)
                · rfl
                · exact absurd (c92.1 e) hd92
              have E : Hid (∀ h : j < lit.size, lit[j] ≠ 92) := fun _ => by rw [hd]; exact hd92
              clear hd92
              have hjk : k < j := by
                rcases Nat.lt_or_ge k j with e | e
                · exact e
                · obtain rfl : j = k := by omega
                  exact absurd X.out (E.out hlt)
              obtain ⟨wo, rfl⟩ : ∃ wo : World, wo = wr := ⟨_, rfl⟩
              go_wp2_with fail
              go_loopw [5, 9] (fun out h w3 => ∃ (hh g3 cap3 : Nat) (l3 : List UInt8), out = .slice (some ⟨g3, 0, none⟩) l3.length cap3 ∧ h = .int .i64 hh ∧ hh ≤ (j - k) / 2 ∧ l3.length ≤ k + hh ∧ Hid (l3 = done ++ List.replicate hh 92) ∧ Hid (w3.ownsRow w.heap.size 5 1 (.slice (some ⟨g3, 0, none⟩) l3.length cap3) l3.length (l3.map byteV)) ∧ Hid (Below w.heap.size w w3))
                (fun _ h _ => (j - k) / 2 - (intOf h).toNat)
              case atStart => exact ⟨0, g, cap, done, rfl, rfl, Nat.zero_le _, hdl, by simp [Hid], HW.out, HL.out⟩
              case round =>
                obtain ⟨hh, g3, cap3, l3, rfl, rfl, hh1, hl3, HE3, H3, HL3⟩ := hrel
                obtain ⟨w3, rfl⟩ : ∃ w3 : World, w3 = wr := ⟨_, rfl⟩
                have hsB3 : w.heap.size ≤ w3.heap.size := HL3.out.size
                by_cases hhl : hh < (j - k) / 2
                · have ht : ((hh : Int) < ((j : Int) - (k : Int)) / 2) := by omega
                  go_wp2_with (at_builtin; refine wpList_append_lies _ rfl _ _ 27 rfl w.heap.size 5 i0 _ 1 1 Try.underlying27 hi0 hz0 hz1 hz2 rfl (by decide) _ _ _ rfl (H3.out.alloc _) ⟨w3.heap.size, 0, none⟩ 1 1 [.int .u8 92] rfl rfl (cell_one_new _ _ _) (by simp [Value.oneCell']) (by omega) (by unfold maxLen; omega) (by omega) (by simp; omega) (w3.heap.size + 1) (by simp) ?_; intro g' cap' w2 hown2 hgrow2 hat2 hlt2)
                  obtain ⟨hs1, hs2⟩ := app_step (c := 92) H3.out HL3.out hown2 hgrow2
                  go_roundw
                  case rel => exact ⟨hh + 1, g', cap', l3 ++ [92], by simp, by go_num, by omega, by simp; omega, by rw [HE3.out, List.replicate_succ', List.append_assoc]; rfl, hs1, hs2⟩
                  case measure => simp [intOf]; omega
                · obtain rfl : hh = (j - k) / 2 := by omega
                  have ht : ¬ ((((j - k) / 2 : Nat) : Int) < ((j : Int) - (k : Int)) / 2) := by omega
                  have hrun := HD.out.run (r := j - k) (j := j) (by omega) hj2 HA.out E.out
                  rw [← HE3.out] at hrun
                  by_cases hodd : (j - k) % 2 = 1
                  · have hob : (((j : Int) - (k : Int)) % 2 == 1) = true := by rw [beq_iff_eq]; omega
                    rw [if_pos hodd] at hrun
                    have hje : ((j : Int) == (lit.size : Int)) = false := by rw [beq_eq_false_iff_ne]; omega
                    rw [drop_cons lit j hjl, hd] at hrun
                    cases q with
                    | false =>
                      have HF : Hid (Done false lit j l3) := by simp [oddLeft] at hrun; exact hrun
                      clear hrun hodd
                      go_wp2_with fail
                      go_roundw
                      case rel => exact ⟨j, g3, cap3, l3, rfl, rfl, hj2, H3.out, HF, HL3.out⟩
                      case measure => simp [intOf]; omega
                    | true =>
                      cases hs : special d with
                      | true =>
                        have HF : Hid (Done true lit j l3) := by simp [oddLeft, hs] at hrun; exact hrun
                        clear hrun hodd
                        go_wp2_with (go_at_call 31; refine (special_any _ _).mono ?_; rintro e w' ⟨rfl, rfl⟩)
                        go_roundw
                        case rel => exact ⟨j, g3, cap3, l3, rfl, rfl, hj2, H3.out, HF, HL3.out⟩
                        case measure => simp [intOf]; omega
                      | false =>
                        have HF : Hid (Done true lit j (l3 ++ [92])) := by simp [oddLeft, hs] at hrun; exact hrun
                        clear hrun hodd
                        go_wp2_with (first | (go_at_call 31; refine (special_any _ _).mono ?_; rintro e w' ⟨rfl, rfl⟩) | (at_builtin; refine wpList_append_lies _ rfl _ _ 27 rfl w.heap.size 5 i0 _ 1 1 Try.underlying27 hi0 hz0 hz1 hz2 rfl (by decide) _ _ _ rfl (H3.out.alloc _) ⟨w3.heap.size, 0, none⟩ 1 1 [.int .u8 92] rfl rfl (cell_one_new _ _ _) (by simp [Value.oneCell']) (by omega) (by unfold maxLen; omega) (by omega) (by simp; omega) (w3.heap.size + 1) (by simp) ?_; intro g' cap' w2 hown2 hgrow2 hat2 hlt2))
                        obtain ⟨hs1, hs2⟩ := app_step (c := 92) H3.out HL3.out hown2 hgrow2
                        go_roundw
                        case rel => exact ⟨j, g', cap', l3 ++ [92], by simp, rfl, hj2, hs1, HF, hs2⟩
                        case measure => simp [intOf]; omega
                  · have hob : (((j : Int) - (k : Int)) % 2 == 1) = false := by rw [beq_eq_false_iff_ne]; omega
                    have HF : Hid (Done q lit j l3) := by rw [if_neg hodd, List.append_nil] at hrun; exact hrun
                    clear hrun hodd
                    go_wp2_with fail
                    go_roundw
                    case rel => exact ⟨j, g3, cap3, l3, rfl, rfl, hj2, H3.out, HF, HL3.out⟩
                    case measure => simp [intOf]; omega
          · have E : Hid (∀ h : j < lit.size, lit[j] ≠ 92) := fun h => absurd h hjl
            have hjk : k < j := by
              rcases Nat.lt_or_ge k j with e | e
              · exact e
              · obtain rfl : j = k := by omega
                exact absurd X.out (E.out hlt)
            obtain ⟨wo, rfl⟩ : ∃ wo : World, wo = wr := ⟨_, rfl⟩
            go_wp2_with fail
            go_loopw [5, 9] (fun out h w3 => ∃ (hh g3 cap3 : Nat) (l3 : List UInt8), out = .slice (some ⟨g3, 0, none⟩) l3.length cap3 ∧ h = .int .i64 hh ∧ hh ≤ (j - k) / 2 ∧ l3.length ≤ k + hh ∧ Hid (l3 = done ++ List.replicate hh 92) ∧ Hid (w3.ownsRow w.heap.size 5 1 (.slice (some ⟨g3, 0, none⟩) l3.length cap3) l3.length (l3.map byteV)) ∧ Hid (Below w.heap.size w w3))
              (fun _ h _ => (j - k) / 2 - (intOf h).toNat)
            case atStart => exact ⟨0, g, cap, done, rfl, rfl, Nat.zero_le _, hdl, by simp [Hid], HW.out, HL.out⟩
            case round =>
              obtain ⟨hh, g3, cap3, l3, rfl, rfl, hh1, hl3, HE3, H3, HL3⟩ := hrel
              obtain ⟨w3, rfl⟩ : ∃ w3 : World, w3 = wr := ⟨_, rfl⟩
              have hsB3 : w.heap.size ≤ w3.heap.size := HL3.out.size
              by_cases hhl : hh < (j - k) / 2
              · have ht : ((hh : Int) < ((j : Int) - (k : Int)) / 2) := by omega
                go_wp2_with (at_builtin; refine wpList_append_lies _ rfl _ _ 27 rfl w.heap.size 5 i0 _ 1 1 Try.underlying27 hi0 hz0 hz1 hz2 rfl (by decide) _ _ _ rfl (H3.out.alloc _) ⟨w3.heap.size, 0, none⟩ 1 1 [.int .u8 92] rfl rfl (cell_one_new _ _ _) (by simp [Value.oneCell']) (by omega) (by unfold maxLen; omega) (by omega) (by simp; omega) (w3.heap.size + 1) (by simp) ?_; intro g' cap' w2 hown2 hgrow2 hat2 hlt2)
                obtain ⟨hs1, hs2⟩ := app_step (c := 92) H3.out HL3.out hown2 hgrow2
                go_roundw
                case rel => exact ⟨hh + 1, g', cap', l3 ++ [92], by simp, by go_num, by omega, by simp; omega, by rw [HE3.out, List.replicate_succ', List.append_assoc]; rfl, hs1, hs2⟩
                case measure => simp [intOf]; omega
              · obtain rfl : hh = (j - k) / 2 := by omega
                have ht : ¬ ((((j - k) / 2 : Nat) : Int) < ((j : Int) - (k : Int)) / 2) := by omega
                have hrun := HD.out.run (r := j - k) (j := j) (by omega) hj2 HA.out E.out
                rw [← HE3.out] at hrun
                by_cases hodd : (j - k) % 2 = 1
                · have hob : (((j : Int) - (k : Int)) % 2 == 1) = true := by rw [beq_iff_eq]; omega
                  rw [if_pos hodd] at hrun
                  have hje : ((j : Int) == (lit.size : Int)) = true := by rw [beq_iff_eq]; omega
                  have HF : Hid (Done q lit j (l3 ++ [92])) := by rw [drop_end lit j (by omega)] at hrun; exact hrun
                  clear hrun hodd
                  go_wp2_with (at_builtin; refine wpList_append_lies _ rfl _ _ 27 rfl w.heap.size 5 i0 _ 1 1 Try.underlying27 hi0 hz0 hz1 hz2 rfl (by decide) _ _ _ rfl (H3.out.alloc _) ⟨w3.heap.size, 0, none⟩ 1 1 [.int .u8 92] rfl rfl (cell_one_new _ _ _) (by simp [Value.oneCell']) (by omega) (by unfold maxLen; omega) (by omega) (by simp; omega) (w3.heap.size + 1) (by simp) ?_; intro g' cap' w2 hown2 hgrow2 hat2 hlt2)
                  obtain ⟨hs1, hs2⟩ := app_step (c := 92) H3.out HL3.out hown2 hgrow2
                  go_roundw
                  case rel => exact ⟨j, g', cap', l3 ++ [92], by simp, rfl, hj2, hs1, HF, hs2⟩
                  case measure => simp [intOf]; omega
                · have hob : (((j : Int) - (k : Int)) % 2 == 1) = false := by rw [beq_eq_false_iff_ne]; omega
                  have HF : Hid (Done q lit j l3) := by rw [if_neg hodd, List.append_nil] at hrun; exact hrun
                  clear hrun hodd
                  go_wp2_with fail
                  go_roundw
                  case rel => exact ⟨j, g3, cap3, l3, rfl, rfl, hj2, H3.out, HF, HL3.out⟩
                  case measure => simp [intOf]; omega
      · have hne : (((c.toNat : Nat) : Int) != 92) = true := by
          rw [bne_iff_ne]; intro e; exact h92 (c92.1 (beq_iff_eq.2 e))
        have HN : Hid (Done q lit (k + 1) (done ++ [c])) := by rw [← hc]; exact HD.out.one hlt (.inl (by rw [hc]; exact h92))
        clear h92
        have hsB : w.heap.size ≤ wr.heap.size := HL.out.size
        go_wp2_with (at_builtin; refine wpList_append_lies _ rfl _ _ 27 rfl w.heap.size 5 i0 _ 1 1 Try.underlying27 hi0 hz0 hz1 hz2 rfl (by decide) _ _ _ rfl (HW.out.alloc _) ⟨wr.heap.size, 0, none⟩ 1 1 [.int .u8 ((c.toNat : Nat) : Int)] rfl rfl (cell_one_new _ _ _) (by simp [Value.oneCell']) (by omega) (by unfold maxLen; omega) (by omega) (by simp; omega) (wr.heap.size + 1) (by simp) ?_; intro g' cap' w2 hown2 hgrow2 hat2 hlt2)
        obtain ⟨hs1, hs2⟩ := app_step HW.out HL.out hown2 hgrow2
        go_roundw
        case rel => exact ⟨k + 1, g', cap', done ++ [c], by simp, by go_num, by omega, hs1, HN, hs2⟩
        case measure => simp [intOf]; omega
    · obtain rfl : k = lit.size := by omega
      go_wp2_with fail
      go_ret
      have e : done = unesc q (bytesOf lit) := by
        have := HD.out.1
        rw [drop_end lit lit.size (Nat.le_refl _)] at this
        simpa [unesc] using this
      rw [← e]
      exact ⟨_, rfl, HW.out, by simp, HL.out⟩

end Go.Proofs.Qxb6613957a
