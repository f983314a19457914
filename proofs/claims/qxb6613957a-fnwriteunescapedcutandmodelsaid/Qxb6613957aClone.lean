/-
  The walks of zzCloneBytes (17) and zzSameBytes (21).
-/
import Derived.Test.Qxb6613957aMem
import Derived.Lib.SliceRun
import Derived.BigQuiet
namespace Go.Proofs.Qxb6613957a
open Go.RowKit

/-- The slice value v reads as the bytes xs; its cells lie in a block below B. -/
def RowAt (w : World) (B : Nat) (v : Value) (xs : List UInt8) : Prop :=
  ∃ a cap, v = .slice a xs.length cap ∧ (a = none → cap = 0) ∧ (xs = [] ∨ ∃ b off, a = some ⟨b, off, none⟩ ∧ b < B ∧ ∀ i, i < xs.length → w.cell? ⟨b, off + i, none⟩ = some (byteV (xs[i]?.getD 0)))

theorem RowAt.below {w w' : World} {B B' : Nat} {v : Value} {xs : List UInt8} (h : RowAt w B v xs) (hb : Below B' w w') (hB : B ≤ B') : RowAt w' B v xs := by
  obtain ⟨a, cap, h1, h2, h3⟩ := h
  refine ⟨a, cap, h1, h2, ?_⟩
  rcases h3 with h3 | ⟨b, off, h4, h5, h6⟩
  · exact .inl h3
  · exact .inr ⟨b, off, h4, h5, fun i hi => (hb.cell (p := ⟨b, off + i, none⟩) (Nat.lt_of_lt_of_le h5 hB)).trans (h6 i hi)⟩

theorem RowAt.mono {w : World} {B B' : Nat} {v : Value} {xs : List UInt8} (h : RowAt w B v xs) (hB : B ≤ B') : RowAt w B' v xs := by
  obtain ⟨a, cap, h1, h2, h3⟩ := h
  refine ⟨a, cap, h1, h2, ?_⟩
  rcases h3 with h3 | ⟨b, off, h4, h5, h6⟩
  · exact .inl h3
  · exact .inr ⟨b, off, h4, Nat.lt_of_lt_of_le h5 hB, h6⟩

theorem owns_rowAt {w : World} {B : Nat} {v : Value} {xs : List UInt8} (h : w.ownsRow B 5 1 v xs.length (xs.map byteV)) : RowAt w w.heap.size v xs := by
  rcases ownsRow_form h with ⟨rfl, h0⟩ | ⟨g, cap, rfl, hB, hc⟩
  · obtain rfl : xs = [] := List.eq_nil_of_length_eq_zero h0
    exact ⟨none, 0, rfl, fun _ => rfl, .inl rfl⟩
  · refine ⟨_, cap, rfl, (fun e => by cases e), .inr ⟨g, 0, rfl, (h.lt g rfl).2, fun i hi => ?_⟩⟩
    rw [Nat.zero_add, h.cellAt i (by omega), List.getElem?_map]
    rw [List.getElem?_eq_getElem hi]
    rfl

theorem row_done {xs : List UInt8} {ys : List Value} (hl : ys.length = xs.length) (h : ∀ j, j < xs.length → ys[j]? = some (byteV (xs[j]?.getD 0))) : ys = xs.map byteV := by
  apply List.ext_getElem?
  intro j
  by_cases hj : j < xs.length
  · rw [h j hj, List.getElem?_map, List.getElem?_eq_getElem hj]; rfl
  · rw [List.getElem?_eq_none (by omega), List.getElem?_eq_none (by simp; omega)]

set_option maxHeartbeats 1000000 in
theorem clone_any (v : Value) (xs : List UInt8) (w : World) (h : RowAt w w.heap.size v xs) (hl : xs.length ≤ 5000000) :
    Calls Try.prog 17 #[v] w fun e w' => ∃ v', e = .returned v' ∧ w'.ownsRow w.heap.size 5 1 v' xs.length (xs.map byteV) ∧ Below w.heap.size w w' := by
  obtain ⟨a, cap, rfl, hnone, hrow⟩ := h
  have q27 : ∀ (w : World) (a : Option Addr) (n c n' c' : Nat), (binOp .eql 27 (.slice a n c) (.slice none n' c')).run Try.prog w = .ok (.bool a.isNone) w := fun w a n c n' c' => Lib.run_eql_slice_nil w 27 5 a n c n' c' Try.underlying27
  obtain ⟨i0, hi0, hz0, hz1, hz2⟩ := info_parts Try.info5
  cases a with
  | none =>
    obtain rfl : cap = 0 := hnone rfl
    obtain rfl : xs = [] := by
      rcases hrow with h | ⟨b, off, h, _⟩
      · exact h
      · cases h
    clear hrow hnone
    go_enter Try.func17, Try.ntmps17
    go_wp2
    go_ret
    exact ⟨_, rfl, World.ownsRow_nil _ _ _ _, Below.refl _ _⟩
  | some x =>
    have HR : Hid _ := hrow
    obtain ⟨n, hn⟩ : ∃ n, xs.length = n := ⟨_, rfl⟩
    rw [hn] at hl ⊢
    have HN : Hid (xs.length = n) := hn
    clear hrow hnone hn
    go_enter Try.func17, Try.ntmps17
    go_wp2_with (at_make; refine wpList_make_full _ rfl _ _ 27 rfl w.heap.size 5 i0 (.int .u8 0) 1 Try.underlying27 hi0 hz0 hz1 .i64 .i64 _ _ n rfl rfl rfl rfl (by rw [hz2]; omega) (by unfold maxLen; omega) (Nat.le_refl _) ?_; intro w1 hown hgrow)
    have hb1 : Below w.heap.size w w1 := (Below.refl _ w).grown hgrow (Nat.le_refl _) (fun k e => by cases e)
    have hsz : w.heap.size < w1.heap.size := (hown.lt _ rfl).2
    have HO : Hid _ := hown
    have HB1 : Hid _ := hb1
    clear hown hgrow hb1
    go_loopw [4] (fun i wr => ∃ (k : Nat) (ys : List Value), i = .int .i64 k ∧ k ≤ n ∧ Hid (wr.ownsRow w.heap.size 5 1 (.slice (some ⟨w.heap.size, 0, none⟩) n n) n ys) ∧
        Hid (ys.length = n ∧ ∀ j, j < k → ys[j]? = some (byteV (xs[j]?.getD 0))) ∧ Hid (Below w.heap.size w wr)) (fun i _ => n - (intOf i).toNat)
    case atStart => exact ⟨0, _, rfl, Nat.zero_le _, HO.out, ⟨by simpa using HO.out.1, fun j hj => by omega⟩, HB1.out⟩
    case round =>
      obtain ⟨k, ys, rfl, hk, HW, HY, HL⟩ := hrel
      by_cases hlt : k < n
      · obtain ⟨b, off, hxe, hbB, hcells⟩ : ∃ b off, x = ⟨b, off, none⟩ ∧ b < w.heap.size ∧ ∀ i, i < xs.length → w.cell? ⟨b, off + i, none⟩ = some (byteV (xs[i]?.getD 0)) := by
          rcases HR.out with h | ⟨b, off, h1, h2, h3⟩
          · exact absurd HN.out (by rw [h]; simp; omega)
          · exact ⟨b, off, Option.some.inj h1, h2, h3⟩
        subst hxe
        have hrd : wr.cell? ⟨b, off + k, none⟩ = some (.int .u8 (((xs[k]?.getD 0).toNat : Nat) : Int)) := (HL.out.cell (p := ⟨b, off + k, none⟩) hbB).trans (hcells k (by rw [HN.out]; exact hlt))
        have hwr : wr.cell? ⟨w.heap.size, k, none⟩ = some (ys[k]'(by rw [HY.out.1]; exact hlt)) := by rw [HW.out.cellAt k (by omega)]; exact List.getElem?_eq_getElem _
        have hfz := HW.out.frozenAt k
        obtain ⟨o, ho⟩ : ∃ o, ys[k]'(by rw [HY.out.1]; exact hlt) = o := ⟨_, rfl⟩
        rw [ho] at hwr
        clear ho hcells
        go_wp2_with fail
        obtain ⟨hs1, hs2⟩ := HW.out.stored k (.int .u8 (((xs[k]?.getD 0).toNat : Nat) : Int))
        go_roundw
        case rel =>
          refine ⟨k + 1, ys.set k (.int .u8 (((xs[k]?.getD 0).toNat : Nat) : Int)), by go_num, by omega, hs1, ⟨by rw [List.length_set]; exact HY.out.1, fun j hj => ?_⟩, HL.out.setCell (Nat.le_refl _) _⟩
          by_cases hjk : j = k
          · subst hjk
            rw [List.getElem?_set_self (by rw [HY.out.1]; exact hlt)]; rfl
          · rw [List.getElem?_set_ne (Ne.symm hjk)]; exact HY.out.2 j (by omega)
        case measure => simp [intOf]; omega
      · obtain rfl : k = n := by omega
        go_wp2_with fail
        go_ret
        have e := row_done (HY.out.1.trans HN.out.symm) (fun j hj => HY.out.2 j (by rw [← HN.out]; exact hj))
        refine ⟨_, rfl, ?_, HL.out⟩
        rw [← e]
        exact HW.out

set_option maxHeartbeats 1000000 in
theorem same_any (B : Nat) (v u : Value) (xs : List UInt8) (w : World) (hv : RowAt w B v xs) (hu : RowAt w B u xs) (hl : xs.length ≤ 5000000) :
    Calls Try.prog 21 #[v, u] w fun e w' => e = .returned (.bool true) ∧ ∃ n, w.drewN n = w' := by
  obtain ⟨a, cap, rfl, _, hrow⟩ := hv
  obtain ⟨a', cap', rfl, _, hrow'⟩ := hu
  have HR : Hid _ := hrow
  have HR' : Hid _ := hrow'
  obtain ⟨n, hn⟩ : ∃ n, xs.length = n := ⟨_, rfl⟩
  rw [hn] at hl ⊢
  have HN : Hid (xs.length = n) := hn
  clear hrow hrow' hn
  go_enter Try.func21, Try.ntmps21
  go_wp2_with fail
  go_loopw [4, 5] (fun r i wr => ∃ (k nq : Nat), i = .int .i64 k ∧ r = .bool false ∧ k ≤ n ∧ Hid (wr = w.drewN nq)) (fun _ i _ => n - (intOf i).toNat)
  case atStart => exact ⟨0, 0, rfl, rfl, Nat.zero_le _, rfl⟩
  case round =>
    obtain ⟨k, nq, rfl, rfl, hk, HW⟩ := hrel
    have hw := HW.out
    subst hw
    clear HW
    by_cases hlt : k < n
    · obtain ⟨b, off, rfl, _, hcells⟩ : ∃ b off, a = some ⟨b, off, none⟩ ∧ b < B ∧ ∀ i, i < xs.length → w.cell? ⟨b, off + i, none⟩ = some (byteV (xs[i]?.getD 0)) := by
        rcases HR.out with h | h
        · exact absurd HN.out (by rw [h]; simp; omega)
        · exact h
      obtain ⟨b', off', rfl, _, hcells'⟩ : ∃ b off, a' = some ⟨b, off, none⟩ ∧ b < B ∧ ∀ i, i < xs.length → w.cell? ⟨b, off + i, none⟩ = some (byteV (xs[i]?.getD 0)) := by
        rcases HR'.out with h | h
        · exact absurd HN.out (by rw [h]; simp; omega)
        · exact h
      have hc1 : w.cell? ⟨b, off + k, none⟩ = some (.int .u8 (((xs[k]?.getD 0).toNat : Nat) : Int)) := hcells k (by rw [HN.out]; exact hlt)
      have hc2 : w.cell? ⟨b', off' + k, none⟩ = some (.int .u8 (((xs[k]?.getD 0).toNat : Nat) : Int)) := hcells' k (by rw [HN.out]; exact hlt)
      have hi0 : (0 : Int) ≤ (k : Int) := Int.natCast_nonneg _
      have hi1 : (k : Int) < (n : Int) := by omega
      clear hcells hcells'
      go_wp2_with fail
      go_quiet (fail)
      go_wp2_with fail
      go_roundw
      case rel => exact ⟨k + 1, _, by go_num, rfl, by omega, rfl⟩
      case measure => simp [intOf]; omega
    · go_wp2_with fail
      go_ret
      exact ⟨rfl, nq, rfl⟩

end Go.Proofs.Qxb6613957a
