/-
  A slice of picks ({string, int}); zzBytes (5).
-/
import Derived.Test.Qxb6612439aMem
namespace Go.Proofs.Qxb6612439a
open Go.RowKit

/-- The slice value v reads as the picks ps; its cells lie in a block below B. -/
def RowP (w : World) (B : Nat) (v : Value) (ps : List (ByteArray × Int)) : Prop :=
  ∃ a cap, v = .slice a ps.length cap ∧ (ps = [] ∨ ∃ b off, a = some ⟨b, off, none⟩ ∧ b < B ∧ ∀ i (h : i < ps.length), w.cell? ⟨b, off + i * 2, none⟩ = some (.string ps[i].1) ∧ w.cell? ⟨b, off + i * 2 + 1, none⟩ = some (.int .i64 ps[i].2))

theorem RowP.below {w w' : World} {B B' : Nat} {v : Value} {ps : List (ByteArray × Int)} (h : RowP w B v ps) (hb : Below B' w w') (hB : B ≤ B') : RowP w' B v ps := by
  obtain ⟨a, cap, h1, h3⟩ := h
  refine ⟨a, cap, h1, ?_⟩
  rcases h3 with h3 | ⟨b, off, h4, h5, h6⟩
  · exact .inl h3
  · exact .inr ⟨b, off, h4, h5, fun i hi => ⟨(hb.cell (p := ⟨b, off + i * 2, none⟩) (Nat.lt_of_lt_of_le h5 hB)).trans (h6 i hi).1, (hb.cell (p := ⟨b, off + i * 2 + 1, none⟩) (Nat.lt_of_lt_of_le h5 hB)).trans (h6 i hi).2⟩⟩

theorem RowP.at {w : World} {B : Nat} {ps : List (ByteArray × Int)} {a : Option Addr} {n cap : Nat} (h : RowP w B (.slice a n cap) ps) (hn : ps.length = n) {k : Nat} (hk : k < n) :
    ∃ b off, a = some ⟨b, off, none⟩ ∧ b < B ∧ w.cell? ⟨b, off + k * 2, none⟩ = some (.string (ps[k]'(by omega)).1) ∧ w.cell? ⟨b, off + k * 2 + 1, none⟩ = some (.int .i64 (ps[k]'(by omega)).2) := by
  obtain ⟨a', cap', h1, h3⟩ := h
  simp only [Value.slice.injEq] at h1
  obtain ⟨rfl, _, _⟩ := h1
  rcases h3 with h3 | ⟨b, off, h4, h5, h6⟩
  · rw [h3] at hn; simp at hn; omega
  · exact ⟨b, off, h4, h5, h6 k (by omega)⟩

/-- The names' bytes, and c more for each, of the first k picks. -/
def sumP (c : Nat) (ps : List (ByteArray × Int)) (k : Nat) : Nat := sumS c ((ps.take k).map Prod.fst)
theorem sumP_succ (c : Nat) (ps : List (ByteArray × Int)) (k : Nat) (h : k < ps.length) : sumP c ps (k + 1) = sumP c ps k + ((ps[k]).1.size + c) := by
  unfold sumP
  rw [List.take_succ_eq_append_getElem h, List.map_append, sumS_append]
  simp [sumS]
theorem sumP_le (c : Nat) (ps : List (ByteArray × Int)) (k : Nat) : sumP c ps k ≤ sumP c ps ps.length := by
  unfold sumP
  rw [List.take_length]
  have := sumS_append c ((ps.take k).map Prod.fst) ((ps.drop k).map Prod.fst)
  rw [← List.map_append, List.take_append_drop] at this
  omega
theorem sumP_zero (c : Nat) (ps : List (ByteArray × Int)) : sumP c ps 0 = 0 := rfl
theorem sumP_c (c : Nat) (ps : List (ByteArray × Int)) (k : Nat) (h : k ≤ ps.length) : sumP c ps k = sumP 0 ps k + c * k := by
  have key : ∀ l : List ByteArray, sumS c l = sumS 0 l + c * l.length := by
    intro l; induction l with
    | nil => rfl
    | cons x l ih => simp [sumS, ih, Nat.mul_add]; omega
  unfold sumP
  rw [key, List.length_map, List.length_take, Nat.min_eq_left h]

set_option maxHeartbeats 1000000 in
theorem zb5_any (a : Option Addr) (n cap : Nat) (ss : List ByteArray) (a1 : Option Addr) (n1 cap1 : Nat) (ps : List (ByteArray × Int)) (w : World) (hn : ss.length = n) (h : RowS w w.heap.size (.slice a n cap) ss) (hmax : n ≤ maxLen) (hsz : ∀ k : Nat, (ss[k]?.getD ByteArray.empty).size ≤ maxLen)
    (hn1 : ps.length = n1) (h1 : RowP w w.heap.size (.slice a1 n1 cap1) ps) (hmax1 : n1 ≤ maxLen) (hsz1 : ∀ p ∈ ps, p.1.size ≤ maxLen) :
    Calls Try.prog 5 #[.slice a n cap, .slice a1 n1 cap1] w fun e w' => (e = .returned (.bool false) ∨ (e = .returned (.bool true) ∧ Bounded true (n + sumS 0 ss + n1 + sumP 0 ps n1))) ∧ w = w' := by
  unfold maxLen at hmax hsz hmax1 hsz1
  have HR : Hid (RowS w w.heap.size (.slice a n cap) ss) := h
  have HN : Hid (ss.length = n) := hn
  have HR1 : Hid (RowP w w.heap.size (.slice a1 n1 cap1) ps) := h1
  have HN1 : Hid (ps.length = n1) := hn1
  have HZ : Hid (∀ k : Nat, (ss[k]?.getD ByteArray.empty).size ≤ 9223372036854775807) := hsz
  have HZ1 : Hid (∀ p ∈ ps, p.1.size ≤ 9223372036854775807) := hsz1
  clear h hn h1 hn1 hsz hsz1
  by_cases hbig : 1048576 < n
  · go_enter Try.func5, Try.ntmps5
    go_wp2
    go_ret
    exact ⟨.inl rfl, rfl⟩
  · go_enter Try.func5, Try.ntmps5
    go_wp2
    go_loop [4, 5, 6] (fun r z i => ∃ k : Nat, i = .int .i64 k ∧ r = .bool false ∧ k ≤ n ∧ z = .int .i64 ((n + sumS 0 (ss.take k) : Nat) : Int) ∧ n + sumS 0 (ss.take k) ≤ 1048576) (fun _ _ i => n - (intOf i).toNat)
    case atStart => exact ⟨0, rfl, rfl, Nat.zero_le _, by simp [sumS], by simp [sumS]; omega⟩
    case round =>
      obtain ⟨k, rfl, rfl, hk, rfl, hs⟩ := hrel
      by_cases hlt : k < n
      · obtain ⟨b, off, rfl, _, hc⟩ := HR.out.at HN.out hlt
        have hst := sumS_take 0 ss k (by rw [HN.out]; exact hlt)
        have hz := HZ.out k
        obtain ⟨s, hsv⟩ : ∃ s, ss[k]?.getD ByteArray.empty = s := ⟨_, rfl⟩
        rw [hsv] at hc hst hz
        have HS : Hid (sumS 0 (ss.take (k + 1)) = sumS 0 (ss.take k) + (s.size + 0)) := hst
        clear hst hsv
        by_cases hov : 1048576 < n + sumS 0 (ss.take k) + s.size
        · go_wp2
          all_goals
            go_ret
            exact ⟨.inl rfl, rfl⟩
        · go_wp2
          go_round
          case rel => exact ⟨k + 1, by go_num, rfl, by omega, by rw [HS.out]; go_num, by rw [HS.out]; omega⟩
          case measure => simp [intOf]; omega
      · obtain rfl : k = n := by omega
        have hs2 : k + sumS 0 ss ≤ 1048576 := by rw [← HN.out, List.take_length] at hs; rw [← HN.out]; exact hs
        have he : sumS 0 (ss.take k) = sumS 0 ss := by rw [← HN.out, List.take_length]
        rw [he]
        clear hs he
        obtain ⟨S, hS⟩ : ∃ S, k + sumS 0 ss = S := ⟨_, rfl⟩
        rw [hS] at hs2 ⊢
        have HSS : Hid (k + sumS 0 ss = S) := hS
        clear hS
        by_cases hb1 : 1048576 < n1
        · go_wp2
          go_ret
          exact ⟨.inl rfl, rfl⟩
        · by_cases hb2 : 1048576 < S + n1
          · go_wp2
            go_ret
            exact ⟨.inl rfl, rfl⟩
          · go_wp2
            go_loop [4, 5, 7] (fun r z i => ∃ j : Nat, i = .int .i64 j ∧ r = .bool false ∧ j ≤ n1 ∧ z = .int .i64 ((S + n1 + sumP 0 ps j : Nat) : Int) ∧ S + n1 + sumP 0 ps j ≤ 1048576) (fun _ _ i => n1 - (intOf i).toNat)
            case atStart => exact ⟨0, rfl, rfl, Nat.zero_le _, by rw [sumP_zero]; go_num, by rw [sumP_zero]; omega⟩
            case round =>
              obtain ⟨j, rfl, rfl, hj, rfl, hs⟩ := hrel
              by_cases hlt2 : j < n1
              · obtain ⟨b, off, rfl, _, hc, _⟩ := HR1.out.at HN1.out hlt2
                have hjl : j < ps.length := by rw [HN1.out]; exact hlt2
                have hst := sumP_succ 0 ps j hjl
                have hz := HZ1.out ps[j] (List.getElem_mem _)
                obtain ⟨s, hsv⟩ : ∃ s, ps[j].1 = s := ⟨_, rfl⟩
                rw [hsv] at hc hst hz
                have HS : Hid (sumP 0 ps (j + 1) = sumP 0 ps j + (s.size + 0)) := hst
                clear hst hsv
                by_cases hov : 1048576 < S + n1 + sumP 0 ps j + s.size
                · go_wp2
                  all_goals
                    go_ret
                    exact ⟨.inl rfl, rfl⟩
                · go_wp2
                  go_round
                  case rel => exact ⟨j + 1, by go_num, rfl, by omega, by rw [HS.out]; go_num, by rw [HS.out]; omega⟩
                  case measure => simp [intOf]; omega
              · obtain rfl : j = n1 := by omega
                go_wp2
                go_ret
                refine ⟨.inr ⟨rfl, fun _ => ?_⟩, rfl⟩
                rw [HSS.out]
                exact hs

end Go.Proofs.Qxb6612439a
