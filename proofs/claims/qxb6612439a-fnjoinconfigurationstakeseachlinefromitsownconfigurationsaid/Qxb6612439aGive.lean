/-
  Plain laws for GivesBack: all lines from one configuration, in rising order of their names: that configuration comes back.
-/
import Derived.Test.Qxb6612439aJoin
import Derived.Laws.CopyOwn
namespace Go.Proofs.Qxb6612439a
open Go.RowKit Go.Shelf

theorem pickAll_none (k0 : Int) : ∀ (ss : List ByteArray) (j : Nat), (k0 < j ∨ ((j + ss.length : Nat) : Int) ≤ k0) → pickAll (fun _ => k0) j ss = []
  | [], _, _ => rfl
  | c :: cs, j, h => by
    have hne : (k0 == (j : Int)) = false := by
      have : k0 ≠ j := by simp at h; omega
      simpa using this
    have ih := pickAll_none k0 cs (j + 1) (by simp at h; omega)
    rw [pickAll, ih]
    unfold pickL
    simp [hne]

theorem pickAll_one (kk : Nat) : ∀ (ss : List ByteArray) (j : Nat), j ≤ kk → kk < j + ss.length → pickAll (fun _ => (kk : Int)) j ss = splitL (bytesOf (ss[kk - j]?.getD ByteArray.empty))
  | [], j, h1, h2 => by simp at h2; omega
  | c :: cs, j, h1, h2 => by
    rw [pickAll]
    rcases Nat.eq_or_lt_of_le h1 with h | h
    · subst h
      rw [pickAll_none (j : Int) cs (j + 1) (by omega)]
      unfold pickL
      simp
    · have ih := pickAll_one kk cs (j + 1) (by omega) (by simp at h2; omega)
      rw [ih]
      have hne : (((kk : Nat) : Int) == (j : Int)) = false := by
        have : ((kk : Nat) : Int) ≠ j := by omega
        simpa using this
      unfold pickL
      rw [show kk - j = (kk - (j + 1)) + 1 from by omega, List.getElem?_cons_succ]
      simp [hne]

theorem names_eq {d : List (ByteArray × ByteArray)} (h : ∀ p ∈ d, bytesOf p.1 = nameL (bytesOf p.2)) : d.map (fun p => bytesOf p.1) = (d.map fun p => bytesOf p.2).map nameL := by
  rw [List.map_map]
  exact List.map_congr_left fun p hp => h p hp

theorem back_none {k0 : Int} {ss : List ByteArray} {r : ByteArray} (hk : k0 < 0 ∨ (ss.length : Int) ≤ k0) (h : Joined (fun _ => k0) ss r) : r = ⟨#[]⟩ := by
  obtain ⟨d, d', h1, _, h3, _, h5⟩ := h
  rw [pickAll_none k0 ss 0 (by simpa using hk)] at h1
  have hd : d = [] := by simpa using h1
  subst hd
  have hd' : d' = [] := h3.eq_nil
  subst hd'
  exact bytesOf_inj h5

theorem back_plain {kk : Nat} {ss : List ByteArray} {r c : ByteArray} {ls : List (ByteArray × ByteArray)} (hk : kk < ss.length) (hc : ss[kk]?.getD ByteArray.empty = c) (h : Joined (fun _ => (kk : Int)) ss r) (hs : Split (bytesOf c) c.size ls) (hr : Rises ls) : r = c := by
  obtain ⟨d, d', h1, h2, h3, h4, h5⟩ := h
  rw [pickAll_one kk ss 0 (Nat.zero_le _) (by omega), Nat.sub_zero, hc] at h1
  obtain ⟨s1, _, s3⟩ := hs
  rw [drop_end c c.size (Nat.le_refl _)] at s1
  have e1 : ls.map (fun p => bytesOf p.2) = splitL (bytesOf c) := by simpa [splitL] using s1
  have e2 : d.map (fun p => bytesOf p.1) = ls.map (fun p => bytesOf p.1) := by rw [names_eq h2, names_eq s3, h1, e1]
  have hp := rises_pairwise _ hr
  rw [← e2, List.pairwise_map] at hp
  have hdd : d' = d := sorted_unique lessP d d' hp h4 h3
  subst hdd
  rw [h1, splitL_join] at h5
  exact bytesOf_inj h5

/-- The copy reads as the strings. -/
theorem copied_row {w2 : World} {B n : Nat} {cur : List Value} {ss : List ByteArray} (hn : ss.length = n) (hc : cur.length = n) (hB : B < w2.heap.size) (h : w2.heap[B]? = some (.cells (splice cur 0 (ss.map Value.string)).toArray 9 (0, 0))) :
    RowS w2 w2.heap.size (.slice (some ⟨B, 0, none⟩) n n) ss := by
  refine ⟨_, n, by rw [hn], (fun e => by cases e), .inr ⟨B, 0, rfl, hB, fun i hi => ?_⟩⟩
  have e : splice cur 0 (ss.map Value.string) = ss.map Value.string := by
    unfold splice
    rw [List.drop_eq_nil_of_le (by simp; omega)]
    simp
  rw [e] at h
  unfold World.cell?
  simp only [h, Nat.zero_add]
  simp [hi]

end Go.Proofs.Qxb6612439a
