/-
  The walks of writeUnescaped (30) and ZZwriteUnescaped (19): they add the unescaped literal to the builder's bytes.
-/
import Derived.Test.Qxb6613957aMem
import Derived.Test.Qxb6613957aUnesc
import Derived.Test.Qxb6613957aShelf
import Derived.Lib.Strings
namespace Go.Proofs.Qxb6613957a
open Go.RowKit

/-- The bytes of a string. -/
def bytesOf (s : ByteArray) : List UInt8 := s.data.toList
theorem bytesOf_size (s : ByteArray) : (bytesOf s).length = s.size := (Lib.size_eq s).symm
theorem drop_cons (s : ByteArray) (k : Nat) (h : k < s.size) : (bytesOf s).drop k = s[k] :: (bytesOf s).drop (k + 1) := by
  rw [List.drop_eq_getElem_cons (by rw [bytesOf_size]; exact h)]
  rfl
theorem drop_end (s : ByteArray) (k : Nat) (h : s.size ≤ k) : (bytesOf s).drop k = [] := List.drop_eq_nil_of_le (by rw [bytesOf_size]; exact h)

theorem special_idx (c : UInt8) : (0 ≤ Lib.indexByte [36, 96, 34, 92] ((c.toNat : Int)).toNat.toUInt8) ↔ special c = true := by
  have e : ((c.toNat : Int)).toNat.toUInt8 = c := by simp
  rw [e]
  have key : ∀ c : UInt8, decide (0 ≤ Lib.indexByte [36, 96, 34, 92] c) = special c := by
    intro c
    have : ∀ n : Fin 256, decide (0 ≤ Lib.indexByte [36, 96, 34, 92] (UInt8.ofNat n.val)) = special (UInt8.ofNat n.val) := by decide +kernel
    have := this ⟨c.toNat, c.toNat_lt⟩
    simpa using this
  rw [← key]; simp

theorem c92 {c : UInt8} : (((c.toNat : Nat) : Int) == 92) = true ↔ c = 92 := by
  rw [beq_iff_eq]
  constructor
  · intro h; exact UInt8.toNat_inj.1 (by simpa using (show c.toNat = 92 by omega))
  · rintro rfl; rfl

/-- What has been done by the time the loop stands at k. -/
def Done (q : Bool) (lit : ByteArray) (k : Nat) (done : List UInt8) : Prop := done ++ unesc q ((bytesOf lit).drop k) = unesc q (bytesOf lit) ∧ done.length ≤ k

theorem Done.one {q : Bool} {lit : ByteArray} {k : Nat} {done : List UInt8} (h : Done q lit k done) (hk : k < lit.size)
    (hc : lit[k] ≠ 92 ∨ (lit.size ≤ k + 1) ∨ (q = true ∧ ∃ h : k + 1 < lit.size, special (lit[k + 1]) = false)) : Done q lit (k + 1) (done ++ [lit[k]]) := by
  refine ⟨?_, by simp; exact h.2⟩
  rw [← h.1, drop_cons lit k hk, List.append_assoc, List.singleton_append]
  congr 1
  by_cases h92 : lit[k] = 92
  · rw [h92]
    rcases hc with hc | hc | ⟨rfl, h1, hs⟩
    · exact absurd h92 hc
    · rw [drop_end lit (k + 1) hc]; rfl
    · rw [drop_cons lit (k + 1) h1, unesc_keep _ _ hs]
  · rw [unesc_ne q h92]

theorem Done.two {q : Bool} {lit : ByteArray} {k : Nat} {done : List UInt8} (h : Done q lit k done) (hk : k + 1 < lit.size) (h92 : lit[k] = 92)
    (hc : q = false ∨ special (lit[k + 1]) = true) : Done q lit (k + 1 + 1) (done ++ [lit[k + 1]]) := by
  refine ⟨?_, by simp; have := h.2; omega⟩
  rw [← h.1, drop_cons lit k (by omega), drop_cons lit (k + 1) hk, h92, List.append_assoc, List.singleton_append, unesc_esc q _ _ hc]

/-- The open flag and the start behind k written bytes. -/
def opAft (op : Bool) (k : Nat) : Bool := op || decide (0 < k)
def stAft (op : Bool) (st : Int) (n k : Nat) : Int := if 0 < k then startOf op st n else st

theorem aft_step {op : Bool} {st : Int} {n k m j : Nat} (hm : m ≤ k) (hm0 : 0 < k ∨ m = 0) (hj : 0 < j) : startOf (opAft op k) (stAft op st n k) (n + m) = stAft op st n j := by
  unfold opAft stAft startOf
  by_cases h0 : 0 < k
  · rw [if_pos h0, if_pos hj]; simp [h0]
  · obtain rfl : m = 0 := by omega
    rw [if_neg h0, if_pos hj]; simp [h0]

theorem opAft_pos {op : Bool} {j : Nat} (hj : 0 < j) : opAft op j = true := by unfold opAft; simp [hj]

set_option maxHeartbeats 1000000 in
theorem write_any (B C T : Nat) (v : Value) (xs : List UInt8) (op : Bool) (st : Int) (lit : ByteArray) (q : Bool) (w : World) (h : Bld w B C T v xs op st) (hx : xs.length ≤ 5000000) (hl : lit.size ≤ 1048576) :
    Calls Try.prog 30 #[.pointer (some ⟨T, 0, none⟩), .string lit, .bool q] w fun e w' => e = .returned (.tuple #[]) ∧
      ∃ v', Bld w' B C T v' (xs ++ unesc q (bytesOf lit)) (opAft op lit.size) (stAft op st xs.length lit.size) ∧ Below B w w' := by
  have H0 : Hid (Bld w B C T v xs op st) := h
  clear h
  go_enter Try.func30, Try.ntmps30
  go_wp2
  go_loopw [6] (fun i wr => ∃ (k : Nat) (done : List UInt8) (v : Value), i = .int .i64 k ∧ k ≤ lit.size ∧ Hid (Done q lit k done) ∧ Hid (Bld wr B C T v (xs ++ done) (opAft op k) (stAft op st xs.length k)) ∧ Hid (Below B w wr)) (fun i _ => lit.size - (intOf i).toNat)
  case atStart => exact ⟨0, [], v, rfl, Nat.zero_le _, ⟨rfl, Nat.le_refl _⟩, by rw [List.append_nil, show opAft op 0 = op by simp [opAft], show stAft op st xs.length 0 = st by simp [stAft]]; exact H0, Below.refl _ _⟩
  case round =>
    obtain ⟨k, done, v, rfl, hk, HD, HB, HL⟩ := hrel
    by_cases hlt : k < lit.size
    · obtain ⟨c, hc⟩ : ∃ c, lit[k] = c := ⟨_, rfl⟩
      by_cases h92 : c = 92
      · have heq : (((c.toNat : Nat) : Int) == 92) = true := c92.2 h92
        have X : Hid (lit[k] = 92) := hc.trans h92
        by_cases hn : k + 1 < lit.size
        · obtain ⟨d, hd⟩ : ∃ d, lit[k + 1] = d := ⟨_, rfl⟩
          cases q with
          | false =>
            have HN : Hid (Done false lit (k + 1 + 1) (done ++ [d])) := by rw [← hd]; exact HD.out.two hn X.out (.inl rfl)
            clear h92
            go_wp2_with fail
            refine (byte_any B C T v (xs ++ done) _ _ d _ HB.out (by rw [List.length_append]; have := HD.out.2; omega)).mono ?_
            rintro e w1 ⟨rfl, v', hb1, hl1⟩
            rw [List.length_append, aft_step (j := k + 1 + 1) HD.out.2 (by have := HD.out.2; omega) (by omega), ← opAft_pos (op := op) (j := k + 1 + 1) (by omega), List.append_assoc] at hb1
            have HB1 : Hid _ := hb1
            have HL1 : Hid (Below B w w1) := HL.out.trans hl1
            clear hb1 hl1
            go_wp2_with fail
            go_roundw
            case rel => exact ⟨k + 1 + 1, done ++ [d], v', by go_num, by omega, HN, HB1.out, HL1⟩
            case measure => simp [intOf]; omega
          | true =>
            have hsp := special_idx d
            generalize hix : Lib.indexByte [36, 96, 34, 92] ((d.toNat : Int)).toNat.toUInt8 = ix at hsp
            have hcon := Try.strings_IndexByte ⟨#[36, 96, 34, 92]⟩ (d.toNat : Int) wr
            rw [show Lib.indexByte (ByteArray.mk #[36, 96, 34, 92]).data.toList ((d.toNat : Int)).toNat.toUInt8 = ix from hix] at hcon
            have HC : Hid _ := hcon
            clear hcon hix
            cases hs : special d with
            | true =>
              have hge : 0 ≤ ix := hsp.2 hs
              have HN : Hid (Done true lit (k + 1 + 1) (done ++ [d])) := by rw [← hd]; exact HD.out.two hn X.out (.inr (by rw [hd]; exact hs))
              clear h92 hsp hs
              go_wp2_with fail
              refine Calls.mono HC.out ?_
              rintro e w' ⟨rfl, rfl⟩
              go_wp2_with fail
              refine (byte_any B C T v (xs ++ done) _ _ d _ HB.out (by rw [List.length_append]; have := HD.out.2; omega)).mono ?_
              rintro e w1 ⟨rfl, v', hb1, hl1⟩
              rw [List.length_append, aft_step (j := k + 1 + 1) HD.out.2 (by have := HD.out.2; omega) (by omega), ← opAft_pos (op := op) (j := k + 1 + 1) (by omega), List.append_assoc] at hb1
              have HB1 : Hid _ := hb1
              have HL1 : Hid (Below B w w1) := HL.out.trans hl1
              clear hb1 hl1
              go_wp2_with fail
              go_roundw
              case rel => exact ⟨k + 1 + 1, done ++ [d], v', by go_num, by omega, HN, HB1.out, HL1⟩
              case measure => simp [intOf]; omega
            | false =>
              have hge : ¬ 0 ≤ ix := fun x => by rw [hsp.1 x] at hs; cases hs
              have HN : Hid (Done true lit (k + 1) (done ++ [c])) := by rw [← hc]; exact HD.out.one hlt (.inr (.inr ⟨rfl, hn, by rw [hd]; exact hs⟩))
              clear h92 hsp hs
              go_wp2_with fail
              refine Calls.mono HC.out ?_
              rintro e w' ⟨rfl, rfl⟩
              go_wp2_with fail
              refine (byte_any B C T v (xs ++ done) _ _ c _ HB.out (by rw [List.length_append]; have := HD.out.2; omega)).mono ?_
              rintro e w1 ⟨rfl, v', hb1, hl1⟩
              rw [List.length_append, aft_step (j := k + 1) HD.out.2 (by have := HD.out.2; omega) (by omega), ← opAft_pos (op := op) (j := k + 1) (by omega), List.append_assoc] at hb1
              have HB1 : Hid _ := hb1
              have HL1 : Hid (Below B w w1) := HL.out.trans hl1
              clear hb1 hl1
              go_wp2_with fail
              go_roundw
              case rel => exact ⟨k + 1, done ++ [c], v', by go_num, by omega, HN, HB1.out, HL1⟩
              case measure => simp [intOf]; omega
        · have HN : Hid (Done q lit (k + 1) (done ++ [c])) := by rw [← hc]; exact HD.out.one hlt (.inr (.inl (by omega)))
          clear h92
          go_wp2_with fail
          refine (byte_any B C T v (xs ++ done) _ _ c _ HB.out (by rw [List.length_append]; have := HD.out.2; omega)).mono ?_
          rintro e w1 ⟨rfl, v', hb1, hl1⟩
          rw [List.length_append, aft_step (j := k + 1) HD.out.2 (by have := HD.out.2; omega) (by omega), ← opAft_pos (op := op) (j := k + 1) (by omega), List.append_assoc] at hb1
          have HB1 : Hid _ := hb1
          have HL1 : Hid (Below B w w1) := HL.out.trans hl1
          clear hb1 hl1
          go_wp2_with fail
          go_roundw
          case rel => exact ⟨k + 1, done ++ [c], v', by go_num, by omega, HN, HB1.out, HL1⟩
          case measure => simp [intOf]; omega
      · have hne : (((c.toNat : Nat) : Int) == 92) = false := by
          cases e : (((c.toNat : Nat) : Int) == 92)
          · rfl
          · exact absurd (c92.1 e) h92
        have HN : Hid (Done q lit (k + 1) (done ++ [c])) := by rw [← hc]; exact HD.out.one hlt (.inl (by rw [hc]; exact h92))
        clear h92
        go_wp2_with fail
        refine (byte_any B C T v (xs ++ done) _ _ c _ HB.out (by rw [List.length_append]; have := HD.out.2; omega)).mono ?_
        rintro e w1 ⟨rfl, v', hb1, hl1⟩
        rw [List.length_append, aft_step (j := k + 1) HD.out.2 (by have := HD.out.2; omega) (by omega), ← opAft_pos (op := op) (j := k + 1) (by omega), List.append_assoc] at hb1
        have HB1 : Hid _ := hb1
        have HL1 : Hid (Below B w w1) := HL.out.trans hl1
        clear hb1 hl1
        go_wp2_with fail
        go_roundw
        case rel => exact ⟨k + 1, done ++ [c], v', by go_num, by omega, HN, HB1.out, HL1⟩
        case measure => simp [intOf]; omega
    · obtain rfl : k = lit.size := by omega
      go_wp2_with fail
      go_end0
      have e : done = unesc q (bytesOf lit) := by
        have := HD.out.1
        rw [drop_end lit lit.size (Nat.le_refl _)] at this
        simpa [unesc] using this
      rw [e] at HB
      exact ⟨rfl, v, HB.out, HL.out⟩

end Go.Proofs.Qxb6613957a
