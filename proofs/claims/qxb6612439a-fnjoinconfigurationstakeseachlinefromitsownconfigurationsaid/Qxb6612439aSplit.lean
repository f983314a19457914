/-
  The walks of jbytes (6), jmake (14), jsplit (7), jstrict (8).
-/
import Derived.Test.Qxb6612439aMem
namespace Go.Proofs.Qxb6612439a
open Go.RowKit

set_option maxHeartbeats 1000000 in
theorem jbytes_any (a : Option Addr) (n cap : Nat) (ss : List ByteArray) (w : World) (hn : ss.length = n) (h : RowS w w.heap.size (.slice a n cap) ss) (hmax : n ≤ 1048576) (hs : sumS 0 ss ≤ 1048576) :
    Calls Try.prog 6 #[.slice a n cap] w fun e w' => e = .returned (.int .i64 (sumS 16 ss : Nat)) ∧ w = w' := by
  have HR : Hid (RowS w w.heap.size (.slice a n cap) ss) := h
  have HN : Hid (ss.length = n) := hn
  have hb : ∀ l : List ByteArray, sumS 16 l = sumS 0 l + 16 * l.length := by
    intro l; induction l with
    | nil => rfl
    | cons x l ih => simp [sumS, ih]; omega
  have hle : ∀ k, sumS 16 (ss.take k) ≤ 1048576 + 16 * 1048576 := by
    intro k; rw [hb]; have := sumS_le 0 ss k; have : (ss.take k).length ≤ n := by rw [← hn]; exact List.length_take_le' _ _
    omega
  have HB : Hid _ := hle
  clear h hn hb hle hs
  go_enter Try.func6, Try.ntmps6
  go_wp2
  go_loop [3, 4] (fun z i => ∃ k : Nat, i = .int .i64 k ∧ k ≤ n ∧ z = .int .i64 ((sumS 16 (ss.take k) : Nat) : Int)) (fun _ i => n - (intOf i).toNat)
  case atStart => exact ⟨0, rfl, Nat.zero_le _, by simp [sumS]⟩
  case round =>
    obtain ⟨k, rfl, hk, rfl⟩ := hrel
    by_cases hlt : k < n
    · obtain ⟨b, off, rfl, _, hc⟩ := HR.out.at HN.out hlt
      have hst := sumS_take 16 ss k (by rw [HN.out]; exact hlt)
      have hbd := HB.out (k + 1)
      obtain ⟨s, hsv⟩ : ∃ s, ss[k]?.getD ByteArray.empty = s := ⟨_, rfl⟩
      rw [hsv] at hc hst
      rw [hst] at hbd
      have HS : Hid (sumS 16 (ss.take (k + 1)) = sumS 16 (ss.take k) + (s.size + 16)) := hst
      clear hst hsv
      go_wp2
      go_round
      case rel => exact ⟨k + 1, by go_num, by omega, by rw [HS.out]; go_num⟩
      case measure => simp [intOf]; omega
    · obtain rfl : k = n := by omega
      go_wp2
      go_ret
      have e : ss.take k = ss := by rw [← HN.out, List.take_length]
      rw [e]
      exact ⟨rfl, rfl⟩

theorem name_at (t : ByteArray) (k : Nat) (hk : k ≤ t.size) (h : ∀ j (h : j < t.size), j < k → t[j] ≠ 32) (hend : ∀ h : k < t.size, t[k] = 32) : nameL (bytesOf t) = (bytesOf t).take k := by
  have key : ∀ (n : Nat) (l : List UInt8), (∀ j, j < n → l[j]? ≠ some 32) → (n = l.length ∨ l[n]? = some 32) → n ≤ l.length → l.takeWhile (· != 32) = l.take n := by
    intro n
    induction n with
    | zero =>
      intro l _ he _
      cases l with
      | nil => rfl
      | cons a l =>
        have : a = 32 := by
          rcases he with e | e
          · simp at e
          · simpa using e
        simp [this]
    | succ n ih =>
      intro l hl he hle
      cases l with
      | nil => simp at hle
      | cons a l =>
        have ha : a ≠ 32 := by have := hl 0 (by omega); simpa using this
        rw [List.take_succ_cons, List.takeWhile_cons, if_pos (by simpa using ha), ih l (fun j hj => by simpa using hl (j + 1) (by omega)) (by simpa using he) (by simpa using hle)]
  unfold nameL
  refine key k _ (fun j hj => ?_) ?_ (by rw [bytesOf_size]; exact hk)
  · rw [List.getElem?_eq_getElem (by rw [bytesOf_size]; omega)]
    have := h j (by omega) hj
    intro e; exact this (Option.some.inj e)
  · rcases Nat.lt_or_ge k t.size with c | c
    · right
      rw [List.getElem?_eq_getElem (by rw [bytesOf_size]; exact c)]
      exact congrArg some (hend c)
    · left; rw [bytesOf_size]; omega

set_option maxHeartbeats 1000000 in
theorem jmake_any (t : ByteArray) (w : World) (ht : t.size ≤ 1048576) :
    Calls Try.prog 14 #[.string t] w fun e w' => ∃ nm, e = .returned (.agg #[.string nm, .string t]) ∧ bytesOf nm = nameL (bytesOf t) ∧ Below w.heap.size w w' := by
  go_enter Try.func14, Try.ntmps14
  go_wp2
  go_loop [3] (fun i => ∃ k : Nat, i = .int .i64 k ∧ k ≤ t.size ∧ Hid (∀ j (h : j < t.size), j < k → t[j] ≠ 32)) (fun i => t.size - (intOf i).toNat)
  case atStart => exact ⟨0, rfl, Nat.zero_le _, fun j _ h => by omega⟩
  case round =>
    obtain ⟨k, rfl, hk, H⟩ := hrel
    by_cases hlt : k < t.size
    · obtain ⟨c, hc⟩ : ∃ c, t[k] = c := ⟨_, rfl⟩
      by_cases h32 : c = 32
      · have he : (((c.toNat : Nat) : Int) == 32) = true := by subst h32; rfl
        have X : Hid (t[k] = 32) := hc.trans h32
        clear h32
        go_wp2
        exact bodyPost_ret (v := .agg #[.string (t.extract 0 k), .string t]) (by simp [results, Try.results14, go_sem]) rfl ⟨_, rfl, by rw [bytes_take, name_at t k hk H.out (fun _ => X.out)], (Below.refl _ _).alloc (Nat.le_refl _) _⟩
      · have he : (((c.toNat : Nat) : Int) == 32) = false := by
          rw [show (((c.toNat : Nat) : Int) == 32) = (c == 32) from byte_eq (n := 32) (by omega)]; simpa using h32
        have X : Hid (t[k] ≠ 32) := by rw [hc]; exact h32
        clear h32
        go_wp2
        go_round
        case rel => exact ⟨k + 1, by go_num, by omega, fun j hj h => by
          rcases Nat.lt_or_ge j k with e | e
          · exact H.out j hj e
          · obtain rfl : j = k := by omega
            exact X.out⟩
        case measure => simp [intOf]; omega
    · go_wp2
      exact bodyPost_ret (v := .agg #[.string t, .string t]) (by simp [results, Try.results14, go_sem]) rfl ⟨_, rfl, by rw [name_at t t.size (Nat.le_refl _) (fun j hj _ => H.out j hj (by omega)) (fun h => absurd h (Nat.lt_irrefl _)), List.take_of_length_le (by rw [bytesOf_size]; exact Nat.le_refl _)], (Below.refl _ _).alloc (Nat.le_refl _) _⟩

end Go.Proofs.Qxb6612439a
