/-
  The walk of jstrict (8): true only where the names rise strictly.
-/
import Derived.Test.Qxb6612439aJsplit
namespace Go.Proofs.Qxb6612439a
open Go.RowKit

/-- The names rise strictly. -/
def Rises (ls : List (ByteArray × ByteArray)) : Prop := risesB (ls.map fun p => bytesOf p.1) = true

theorem cell_name {w : World} {B g cap n : Nat} {ls : List (ByteArray × ByteArray)} (h : w.ownsRow B 34 2 (.slice (some ⟨g, 0, none⟩) n cap) n (cellsL ls)) (hn : ls.length = n) {i : Nat} (hi : i < n) :
    w.cell? ⟨g, i * 2, none⟩ = some (.string (ls[i]?.getD (ByteArray.empty, ByteArray.empty)).1) := by
  rw [h.cellAt (i * 2) (by omega), Nat.mul_comm, (cellsL_get ls i (by omega)).1, List.getElem?_eq_getElem (by omega)]
  rfl

set_option maxHeartbeats 1000000 in
theorem jstrict_any (B n cap : Nat) (a : Option Addr) (ls : List (ByteArray × ByteArray)) (w : World) (hn : ls.length = n) (h : w.ownsRow B 34 2 (.slice a n cap) n (cellsL ls)) (hl : n ≤ 1048576) :
    Calls Try.prog 8 #[.slice a n cap] w fun e w' => (e = .returned (.bool false) ∨ (e = .returned (.bool true) ∧ Rises ls)) ∧ ∃ q, w.drewN q = w' := by
  have HN : Hid (ls.length = n) := hn
  have HW : Hid (w.ownsRow B 34 2 (.slice a n cap) n (cellsL ls)) := h
  have hf := ownsRow_form h
  have HF : Hid _ := hf
  clear h hn hf
  go_enter Try.func8, Try.ntmps8
  go_wp2_with fail
  go_loopw [2, 3] (fun r i wr => ∃ (k q : Nat), i = .int .i64 k ∧ r = .bool false ∧ 1 ≤ k ∧ k ≤ n + 1 ∧ Hid (∀ j, j + 1 < k → j + 1 < n → Op.bytesLess (bytesOf (ls[j]?.getD (ByteArray.empty, ByteArray.empty)).1) (bytesOf (ls[j + 1]?.getD (ByteArray.empty, ByteArray.empty)).1) = true) ∧ Hid (wr = w.drewN q)) (fun _ i _ => n + 1 - (intOf i).toNat)
  case atStart => exact ⟨1, 0, rfl, rfl, by omega, by omega, fun j h1 _ => by omega, rfl⟩
  case round =>
    obtain ⟨k, q, rfl, rfl, hk1, hk, HA, HQ⟩ := hrel
    have hw := HQ.out
    subst hw
    clear HQ
    by_cases hlt : k < n
    · obtain ⟨g, rfl⟩ : ∃ g, a = some ⟨g, 0, none⟩ := by
        rcases HF.out with ⟨h1, h2⟩ | ⟨g, c, h1, _, _⟩
        · omega
        · simp only [Value.slice.injEq] at h1; exact ⟨g, h1.1⟩
      obtain ⟨m, rfl⟩ : ∃ m, k = m + 1 := ⟨k - 1, by omega⟩
      have c1 := cell_name HW.out HN.out (i := m) (by omega)
      have c2 := cell_name HW.out HN.out (i := m + 1) hlt
      obtain ⟨x, hx⟩ : ∃ x, (ls[m]?.getD (ByteArray.empty, ByteArray.empty)).1 = x := ⟨_, rfl⟩
      obtain ⟨y, hy⟩ : ∃ y, (ls[m + 1]?.getD (ByteArray.empty, ByteArray.empty)).1 = y := ⟨_, rfl⟩
      rw [hx] at c1
      rw [hy] at c2
      have HX : Hid _ := hx
      have HY : Hid _ := hy
      have hi0 : (0 : Int) ≤ (m : Int) := Int.natCast_nonneg _
      have hi1 : (m : Int) < (n : Int) := by omega
      have hi2 : (m : Int) + 1 < (n : Int) := by omega
      clear hx hy
      cases hless : Op.bytesLess x.toList y.toList
      · go_wp2_with fail
        go_quiet (fail)
        go_wp2_with fail
        go_ret
        exact ⟨.inl rfl, q + nq, (World.drewN_drewN w q nq).symm⟩
      · go_wp2_with fail
        go_quiet (fail)
        go_wp2_with fail
        go_roundw
        case rel => exact ⟨m + 1 + 1, q + nq, by go_num, rfl, by omega, by omega, fun j h1 h2 => by
          rcases Nat.lt_or_ge (j + 1) (m + 1) with e | e
          · exact HA.out j e h2
          · obtain rfl : j = m := by omega
            rw [HX.out, HY.out]
            rw [Lib.toList_data, Lib.toList_data] at hless
            exact hless, rfl⟩
        case measure => simp [intOf]; omega
    · go_wp2_with fail
      go_ret
      refine ⟨.inr ⟨rfl, ?_⟩, q, rfl⟩
      unfold Rises
      rw [rises_iff]
      intro i hi
      rw [List.length_map] at hi
      have hin := HN.out
      have := HA.out i (by omega) (by omega)
      rw [List.getElem?_map, List.getElem?_map, List.getElem?_eq_getElem (by omega), List.getElem?_eq_getElem (by omega)]
      rw [List.getElem?_eq_getElem (by omega), List.getElem?_eq_getElem (by omega)] at this
      simpa using this

end Go.Proofs.Qxb6612439a
