/-
  The byte tests of the seat: isDigit, isDig, nameByte, postgresNameByte: each computes a plain Bool function of the byte.
-/
import Derived.Test.Qxb6000792aRows
import Derived.WalkKit
import Derived.WalkSpells
import Derived.WalkLawsBesides
import Derived.PlainAid
import Derived.Laws.BitsAllLaws
namespace Go.Proofs.Qxb6000792a
open Go.RowKit

def digB (c : Int) : Bool := decide (48 ≤ c ∧ c ≤ 57)
def nameB (c : Int) : Bool := decide ((97 ≤ c ∧ c ≤ 122) ∨ (65 ≤ c ∧ c ≤ 90) ∨ (48 ≤ c ∧ c ≤ 57) ∨ c = 95 ∨ 128 ≤ c)
/-- postgresNameByte's own answer: a name's byte or the dollar sign. -/
def pnB (c : Int) : Bool := decide (((97 ≤ c ∧ c ≤ 122) ∨ (65 ≤ c ∧ c ≤ 90) ∨ (48 ≤ c ∧ c ≤ 57) ∨ c = 95 ∨ 128 ≤ c) ∨ c = 36)

theorem digB_iff (c : Int) : digB c = true ↔ 48 ≤ c ∧ c ≤ 57 := by unfold digB; simp
theorem nameB_iff (c : Int) : nameB c = true ↔ (97 ≤ c ∧ c ≤ 122) ∨ (65 ≤ c ∧ c ≤ 90) ∨ (48 ≤ c ∧ c ≤ 57) ∨ c = 95 ∨ 128 ≤ c := by unfold nameB; simp
theorem pnB_iff (c : Int) : pnB c = true ↔ nameB c = true ∨ c = 36 := by unfold pnB nameB; simp

theorem ret_bool {a b : Bool} (h : a = b) : Ending.returned (.bool a) = .returned (.bool b) := by rw [h]
theorem digB_eq {c : Int} {b : Bool} (h : b = true ↔ 48 ≤ c ∧ c ≤ 57) : b = digB c := by
  rw [Bool.eq_iff_iff, digB_iff]; exact h
theorem nameB_eq {c : Int} {b : Bool} (h : b = true ↔ ((97 ≤ c ∧ c ≤ 122) ∨ (65 ≤ c ∧ c ≤ 90) ∨ (48 ≤ c ∧ c ≤ 57) ∨ c = 95 ∨ 128 ≤ c)) : b = nameB c := by
  rw [Bool.eq_iff_iff, nameB_iff]; exact h
theorem pnB_eq {c : Int} {b : Bool} (h : b = true ↔ (((97 ≤ c ∧ c ≤ 122) ∨ (65 ≤ c ∧ c ≤ 90) ∨ (48 ≤ c ∧ c ≤ 57) ∨ c = 95 ∨ 128 ≤ c) ∨ c = 36)) : b = pnB c := by
  unfold pnB; rw [Bool.eq_iff_iff]; simpa using h

set_option maxHeartbeats 400000 in
theorem isDigit_any (c : Int) (w : World) : Calls Try.prog 32 #[.int .u8 c] w fun e w' => e = .returned (.bool (digB c)) ∧ w' = w := by
  by_cases h1 : 48 ≤ c
  · by_cases h2 : c ≤ 57
    all_goals
      go_enter Try.func32, Try.ntmps32
      go_wp2
      go_ret
      exact ⟨ret_bool (digB_eq (by simp; omega)), rfl⟩
  · go_enter Try.func32, Try.ntmps32
    go_wp2
    go_ret
    exact ⟨ret_bool (digB_eq (by simp; omega)), rfl⟩

set_option maxHeartbeats 400000 in
theorem isDig_any (c : Int) (w : World) : Calls Try.prog 20 #[.int .u8 c] w fun e w' => e = .returned (.bool (digB c)) ∧ w = w' := by
  by_cases h1 : 48 ≤ c
  · by_cases h2 : c ≤ 57
    all_goals
      go_enter Try.func20, Try.ntmps20
      go_wp2
      go_ret
      exact ⟨ret_bool (digB_eq (by simp; omega)), rfl⟩
  · go_enter Try.func20, Try.ntmps20
    go_wp2
    go_ret
    exact ⟨ret_bool (digB_eq (by simp; omega)), rfl⟩

set_option maxHeartbeats 400000 in
theorem nameByte_any (c : Int) (w : World) : Calls Try.prog 19 #[.int .u8 c] w fun e w' => e = .returned (.bool (nameB c)) ∧ w = w' := by
  by_cases h1 : 97 ≤ c ∧ c ≤ 122
  · obtain ⟨h1, h2⟩ := h1
    go_enter Try.func19, Try.ntmps19
    go_wp2
    go_ret
    exact ⟨ret_bool (nameB_eq (by simp; omega)), rfl⟩
  by_cases h2 : 65 ≤ c ∧ c ≤ 90
  · obtain ⟨h2, h3⟩ := h2
    have h4 : ¬ 97 ≤ c := by omega
    go_enter Try.func19, Try.ntmps19
    go_wp2
    go_ret
    exact ⟨ret_bool (nameB_eq (by simp; omega)), rfl⟩
  have hd : digB c = true ∨ digB c = false := by cases digB c <;> simp
  rcases hd with hd | hd
  · have hd' := (digB_iff c).1 hd
    obtain ⟨d1, d2⟩ := hd'
    clear h1 h2
    go_enter Try.func19, Try.ntmps19
    go_wp2_with (go_at_call 20; refine (isDig_any _ _).mono ?_; rintro e w' ⟨rfl, rfl⟩)
    go_ret
    exact ⟨ret_bool (nameB_eq (by simp; omega)), rfl⟩
  · have hd' : ¬ (48 ≤ c ∧ c ≤ 57) := by rw [← digB_iff, hd]; simp
    by_cases h95 : c = 95
    · subst h95
      go_enter Try.func19, Try.ntmps19
      go_wp2_with (go_at_call 20; refine (isDig_any _ _).mono ?_; rintro e w' ⟨rfl, rfl⟩)
      go_ret
      exact ⟨ret_bool (nameB_eq (by simp)), rfl⟩
    · have hb : (c == 95) = false := by simpa using h95
      by_cases g1 : 97 ≤ c
      · have g2 : ¬ c ≤ 122 := by omega
        clear h1 h2 hd' h95
        go_enter Try.func19, Try.ntmps19
        go_wp2_with (go_at_call 20; refine (isDig_any _ _).mono ?_; rintro e w' ⟨rfl, rfl⟩)
        go_ret
        exact ⟨ret_bool (nameB_eq (by have := beq_eq_false_iff_ne.1 hb; simp; omega)), rfl⟩
      · by_cases g3 : 65 ≤ c
        · have g4 : ¬ c ≤ 90 := by omega
          clear h1 h2 hd' h95
          go_enter Try.func19, Try.ntmps19
          go_wp2_with (go_at_call 20; refine (isDig_any _ _).mono ?_; rintro e w' ⟨rfl, rfl⟩)
          go_ret
          exact ⟨ret_bool (nameB_eq (by have := beq_eq_false_iff_ne.1 hb; simp; omega)), rfl⟩
        · have H : Hid (¬ (48 ≤ c ∧ c ≤ 57)) := hd'
          clear h1 h2 hd' h95
          go_enter Try.func19, Try.ntmps19
          go_wp2_with (go_at_call 20; refine (isDig_any _ _).mono ?_; rintro e w' ⟨rfl, rfl⟩)
          go_ret
          exact ⟨ret_bool (nameB_eq (by have := H.out; simp; omega)), rfl⟩

/-- c|0x20 lies among the small letters just where c is a letter. -/
theorem or32 (c : Int) (h0 : 0 ≤ c) (h1 : c ≤ 255) : (97 ≤ bits .or .u8 c 32 ∧ bits .or .u8 c 32 ≤ 122) ↔ ((97 ≤ c ∧ c ≤ 122) ∨ (65 ≤ c ∧ c ≤ 90)) := by
  obtain ⟨n, rfl⟩ := Int.eq_ofNat_of_zero_le h0
  have hn : n < 256 := by omega
  have e := u8_or_nat n 32 hn (by omega)
  have e2 : bits .or .u8 (n : Int) 32 = ((n ||| 32 : Nat) : Int) := e
  rw [e2]
  have key : ∀ m : Fin 256, ((97 : Int) ≤ ((m.val ||| 32 : Nat) : Int) ∧ ((m.val ||| 32 : Nat) : Int) ≤ 122) ↔ ((97 ≤ ((m.val : Nat) : Int) ∧ ((m.val : Nat) : Int) ≤ 122) ∨ (65 ≤ ((m.val : Nat) : Int) ∧ ((m.val : Nat) : Int) ≤ 90)) := by decide +kernel
  exact key ⟨n, hn⟩

set_option maxHeartbeats 400000 in
theorem pname_any (c : Int) (w : World) (h0 : 0 ≤ c) (h255 : c ≤ 255) : Calls Try.prog 33 #[.int .u8 c] w fun e w' => e = .returned (.bool (pnB c)) ∧ w' = w := by
  have ho := or32 c h0 h255
  generalize hx : bits .or .u8 c 32 = x at ho
  by_cases g1 : 97 ≤ x
  · by_cases g2 : x ≤ 122
    · have hl := ho.1 ⟨g1, g2⟩
      have X : Hid ((97 ≤ c ∧ c ≤ 122) ∨ (65 ≤ c ∧ c ≤ 90)) := hl
      clear hl ho
      go_enter Try.func33, Try.ntmps33
      go_wp2
      go_ret
      exact ⟨ret_bool (pnB_eq (by have := X.out; simp; omega)), rfl⟩
    · have hl : ¬ ((97 ≤ c ∧ c ≤ 122) ∨ (65 ≤ c ∧ c ≤ 90)) := fun h => g2 (ho.2 h).2
      have X : Hid (¬ ((97 ≤ c ∧ c ≤ 122) ∨ (65 ≤ c ∧ c ≤ 90))) := hl
      clear hl ho
      go_enter Try.func33, Try.ntmps33
      go_wp2
      all_goals
        go_ret
        exact ⟨ret_bool (pnB_eq (by have := X.out; simp at * <;> omega)), rfl⟩
  · have hl : ¬ ((97 ≤ c ∧ c ≤ 122) ∨ (65 ≤ c ∧ c ≤ 90)) := fun h => g1 (ho.2 h).1
    have X : Hid (¬ ((97 ≤ c ∧ c ≤ 122) ∨ (65 ≤ c ∧ c ≤ 90))) := hl
    clear hl ho
    go_enter Try.func33, Try.ntmps33
    go_wp2
    all_goals
      go_ret
      exact ⟨ret_bool (pnB_eq (by have := X.out; simp at * <;> omega)), rfl⟩

end Go.Proofs.Qxb6000792a
