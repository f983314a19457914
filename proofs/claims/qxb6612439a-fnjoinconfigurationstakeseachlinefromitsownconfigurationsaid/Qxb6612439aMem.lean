/-
  What slices of strings and of lines read as; the walks of zzBytes (12), jbytes (6), jmake (14).
-/
import Derived.Test.Qxb6612439aRows
import Derived.Test.Qxb6612439aPlain
import Derived.WalkKit
import Derived.WalkSpells
import Derived.WalkLawsBesides
import Derived.PlainAid
import Derived.Lib.SliceRun
import Derived.BigQuiet
import Derived.Deep.AppendLies
namespace Go.Proofs.Qxb6612439a
open Go.RowKit

def bytesOf (s : ByteArray) : List UInt8 := s.data.toList
theorem bytesOf_size (s : ByteArray) : (bytesOf s).length = s.size := (Lib.size_eq s).symm
theorem bytesOf_inj {s t : ByteArray} (h : bytesOf s = bytesOf t) : s = t := by
  obtain ⟨⟨x⟩⟩ := s
  obtain ⟨⟨y⟩⟩ := t
  have : x = y := h
  rw [this]
theorem bytes_take (t : ByteArray) (c : Nat) : bytesOf (t.extract 0 c) = (bytesOf t).take c := by
  unfold bytesOf; rw [Lib.extract_data]; simp
theorem bytes_ext (t : ByteArray) (a b : Nat) : bytesOf (t.extract a b) = ((bytesOf t).drop a).take (b - a) := by
  unfold bytesOf; rw [Lib.extract_data]
theorem bytes_drop (t : ByteArray) (c : Nat) : bytesOf (t.extract c t.size) = (bytesOf t).drop c := by
  rw [bytes_ext, List.take_of_length_le]
  rw [List.length_drop, bytesOf_size]
  exact Nat.le_refl _
theorem drop_cons (s : ByteArray) (k : Nat) (h : k < s.size) : (bytesOf s).drop k = s[k] :: (bytesOf s).drop (k + 1) := by
  rw [List.drop_eq_getElem_cons (by rw [bytesOf_size]; exact h)]; rfl
theorem drop_end (s : ByteArray) (k : Nat) (h : s.size ≤ k) : (bytesOf s).drop k = [] := List.drop_eq_nil_of_le (by rw [bytesOf_size]; exact h)
theorem take_succ (s : ByteArray) (k : Nat) (h : k < s.size) : (bytesOf s).take (k + 1) = (bytesOf s).take k ++ [s[k]] := by
  rw [List.take_succ_eq_append_getElem (by rw [bytesOf_size]; exact h)]; rfl
theorem byte_eq {c : UInt8} {n : Nat} (hn : n < 256) : (((c.toNat : Nat) : Int) == (n : Int)) = (c == UInt8.ofNat n) := by
  rw [Bool.eq_iff_iff, beq_iff_eq, beq_iff_eq]
  constructor
  · intro h; exact UInt8.toNat_inj.1 (by simp; omega)
  · rintro rfl; simp; omega

/-- The slice value v reads as the strings ss; its cells lie in a block below B. -/
def RowS (w : World) (B : Nat) (v : Value) (ss : List ByteArray) : Prop :=
  ∃ a cap, v = .slice a ss.length cap ∧ (a = none → cap = 0) ∧ (ss = [] ∨ ∃ b off, a = some ⟨b, off, none⟩ ∧ b < B ∧ ∀ i, i < ss.length → w.cell? ⟨b, off + i, none⟩ = some (.string (ss[i]?.getD ByteArray.empty)))

theorem RowS.below {w w' : World} {B B' : Nat} {v : Value} {ss : List ByteArray} (h : RowS w B v ss) (hb : Below B' w w') (hB : B ≤ B') : RowS w' B v ss := by
  obtain ⟨a, cap, h1, h2, h3⟩ := h
  refine ⟨a, cap, h1, h2, ?_⟩
  rcases h3 with h3 | ⟨b, off, h4, h5, h6⟩
  · exact .inl h3
  · exact .inr ⟨b, off, h4, h5, fun i hi => (hb.cell (p := ⟨b, off + i, none⟩) (Nat.lt_of_lt_of_le h5 hB)).trans (h6 i hi)⟩

theorem RowS.mono {w : World} {B B' : Nat} {v : Value} {ss : List ByteArray} (h : RowS w B v ss) (hB : B ≤ B') : RowS w B' v ss := by
  obtain ⟨a, cap, h1, h2, h3⟩ := h
  refine ⟨a, cap, h1, h2, ?_⟩
  rcases h3 with h3 | ⟨b, off, h4, h5, h6⟩
  · exact .inl h3
  · exact .inr ⟨b, off, h4, Nat.lt_of_lt_of_le h5 hB, h6⟩

/-- All bytes of the strings, and c more for each. -/
def sumS (c : Nat) : List ByteArray → Nat
  | [] => 0
  | s :: ss => s.size + c + sumS c ss
theorem sumS_append (c : Nat) : ∀ a b : List ByteArray, sumS c (a ++ b) = sumS c a + sumS c b
  | [], b => by simp [sumS]
  | s :: a, b => by simp [sumS, sumS_append c a b]; omega
theorem sumS_take (c : Nat) (ss : List ByteArray) (k : Nat) (h : k < ss.length) : sumS c (ss.take (k + 1)) = sumS c (ss.take k) + ((ss[k]?.getD ByteArray.empty).size + c) := by
  rw [List.take_succ_eq_append_getElem h, sumS_append]
  simp [sumS, h]
theorem sumS_le (c : Nat) (ss : List ByteArray) (k : Nat) : sumS c (ss.take k) ≤ sumS c ss := by
  have := sumS_append c (ss.take k) (ss.drop k)
  rw [List.take_append_drop] at this
  omega

theorem RowS.at {w : World} {B : Nat} {ss : List ByteArray} {a : Option Addr} {n cap : Nat} (h : RowS w B (.slice a n cap) ss) (hn : ss.length = n) {k : Nat} (hk : k < n) :
    ∃ b off, a = some ⟨b, off, none⟩ ∧ b < B ∧ w.cell? ⟨b, off + k, none⟩ = some (.string (ss[k]?.getD ByteArray.empty)) := by
  obtain ⟨a', cap', h1, _, h3⟩ := h
  simp only [Value.slice.injEq] at h1
  obtain ⟨rfl, _, _⟩ := h1
  rcases h3 with h3 | ⟨b, off, h4, h5, h6⟩
  · rw [h3] at hn; simp at hn; omega
  · exact ⟨b, off, h4, h5, h6 k (by omega)⟩

/-- What the bound's test hands back: true only where the bound holds. -/
def Bounded (b : Bool) (n : Nat) : Prop := b = true → n ≤ 1048576
theorem Bounded.no (n : Nat) : Bounded false n := fun h => by cases h

set_option maxHeartbeats 1000000 in
theorem zb12_any (a : Option Addr) (n cap : Nat) (ss : List ByteArray) (k0 : Int) (w : World) (hn : ss.length = n) (h : RowS w w.heap.size (.slice a n cap) ss) (hmax : n ≤ maxLen) (hsz : ∀ k : Nat, (ss[k]?.getD ByteArray.empty).size ≤ maxLen) :
    Calls Try.prog 12 #[.slice a n cap, .int .i64 k0] w fun e w' => (e = .returned (.bool false) ∨ (e = .returned (.bool true) ∧ Bounded true (n + sumS 0 ss))) ∧ w = w' := by
  unfold maxLen at hmax hsz
  have HR : Hid (RowS w w.heap.size (.slice a n cap) ss) := h
  have HN : Hid (ss.length = n) := hn
  clear h hn
  by_cases hbig : 1048576 < n
  · go_enter Try.func12, Try.ntmps12
    go_wp2
    go_ret
    exact ⟨.inl rfl, rfl⟩
  · go_enter Try.func12, Try.ntmps12
    go_wp2
    go_loop [4, 5, 6] (fun r z i => ∃ k : Nat, i = .int .i64 k ∧ r = .bool false ∧ k ≤ n ∧ z = .int .i64 ((n + sumS 0 (ss.take k) : Nat) : Int) ∧ n + sumS 0 (ss.take k) ≤ 1048576) (fun _ _ i => n - (intOf i).toNat)
    case atStart => exact ⟨0, rfl, rfl, Nat.zero_le _, by simp [sumS], by simp [sumS]; omega⟩
    case round =>
      obtain ⟨k, rfl, rfl, hk, rfl, hs⟩ := hrel
      by_cases hlt : k < n
      · obtain ⟨b, off, rfl, _, hc⟩ := HR.out.at HN.out hlt
        have hst := sumS_take 0 ss k (by rw [HN.out]; exact hlt)
        have hz := hsz k
        obtain ⟨s, hsv⟩ : ∃ s, ss[k]?.getD ByteArray.empty = s := ⟨_, rfl⟩
        rw [hsv] at hc hst hz
        have HS : Hid (sumS 0 (ss.take (k + 1)) = sumS 0 (ss.take k) + (s.size + 0)) := hst
        clear hst hsv
        by_cases hov : 1048576 < n + sumS 0 (ss.take k) + s.size
        · clear hsz
          go_wp2
          all_goals
            go_ret
            exact ⟨.inl rfl, rfl⟩
        · clear hsz
          go_wp2
          go_round
          case rel => exact ⟨k + 1, by go_num, rfl, by omega, by rw [HS.out]; go_num, by rw [HS.out]; omega⟩
          case measure => simp [intOf]; omega
      · obtain rfl : k = n := by omega
        clear hsz
        go_wp2
        go_ret
        refine ⟨.inr ⟨rfl, fun _ => ?_⟩, rfl⟩
        rw [← HN.out, List.take_length] at hs
        rw [← HN.out]
        exact hs

end Go.Proofs.Qxb6612439a
