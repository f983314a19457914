/-
  The proof of Rows.FnJoinConfigurationsTakesEachLineFromItsOwnConfigurationSaid.
-/
import Derived.Test.Qxb6612439aTakeS
import Derived.Test.Qxb6612439aTakeN
import Derived.Deep.SlicePairs
import Derived.HandedShaped
import Derived.WalkKit
import Derived.ProofKit
import Derived.OpenShut
import Derived.ShutString
import Derived.SliceStrings
import Derived.ChangeOld
import Derived.Below
namespace Go.Proofs.Qxb6612439a.fnTakes
open Go.ChangeShapes Go.WideShapes Go.ChangeAt Go.RowKit
open Go.ChangeMaps (open_string shut_string)
set_option linter.unusedVariables false

theorem own : ownKnob Try.prog.godebug = none := by kernel_rfl
theorem laidOut : laidOutB Try.prog = true := by kernel_rfl

/-- The cells of a slice of strings that came in. -/
theorem row_of {w : World} {x : Addr} {len cap : Nat} {ss : List ByteArray} (hl : len ≤ ss.length) (hc : ∀ i, i < ss.length → w.cell? (x.add i) = some (.string (ss.getD i ByteArray.empty))) :
    RowS w w.heap.size (.slice (some x) (ss.take len).length cap) (ss.take len) := by
  refine ⟨some x, cap, rfl, (fun e => by cases e), ?_⟩
  rcases Nat.eq_zero_or_pos len with h0 | h0
  · subst h0; exact .inl rfl
  · right
    obtain ⟨b, off, spot⟩ := x
    have hspot : spot = none := by simpa [Addr.add] using World.cell?_spot (hc 0 (by omega))
    subst hspot
    have hc' : ∀ i, i < ss.length → w.cell? ⟨b, off + i, none⟩ = some (.string (ss.getD i ByteArray.empty)) := fun i hi => by
      rw [← Go.WideShapes.add_plain]; exact hc i hi
    refine ⟨b, off, rfl, World.block_lt_of_cell? w _ (hc' 0 (by omega)), fun i hi => ?_⟩
    have hi' : i < len := by simp at hi; omega
    rw [hc' i (by omega), List.getElem?_take, if_pos hi']
    rfl

/-- The cells of a slice of picks that came in. -/
theorem picks_of {w : World} {x : Addr} {len cap : Nat} (hall : ∀ i, i < len → ∃ q : ByteArray × Int, w.cell? (x.add (i * 2)) = some (.string q.1) ∧ w.cell? (x.add (i * 2 + 1)) = some (.int .i64 q.2) ∧ q.1.size ≤ maxLen ∧ (Lit.int .i64 q.2).wf = true) :
    ∃ ps : List (ByteArray × Int), ps.length = len ∧ RowP w w.heap.size (.slice (some x) len cap) ps ∧ (∀ p ∈ ps, p.1.size ≤ maxLen) ∧ ∀ p ∈ ps, (Lit.int .i64 p.2).wf = true := by
  obtain ⟨q, hq⟩ := Go.Deep.choose_lt hall
  refine ⟨(List.range len).map q, by simp, ⟨some x, cap, by simp, ?_⟩, fun p hp => ?_, fun p hp => ?_⟩
  · rcases Nat.eq_zero_or_pos len with h0 | h0
    · subst h0; exact .inl rfl
    · right
      obtain ⟨b, off, spot⟩ := x
      have hspot : spot = none := by simpa [Addr.add] using World.cell?_spot (hq 0 h0).1
      subst hspot
      have e0 : w.cell? ⟨b, off + 0 * 2, none⟩ = some (.string (q 0).1) := by rw [← Go.WideShapes.add_plain]; exact (hq 0 h0).1
      refine ⟨b, off, rfl, World.block_lt_of_cell? w _ e0, fun i hi => ?_⟩
      have hi' : i < len := by simpa using hi
      have h1 := (hq i hi').1
      have h2 := (hq i hi').2.1
      rw [Go.WideShapes.add_plain] at h1 h2
      simp only [List.getElem_map, List.getElem_range]
      exact ⟨h1, by rw [Nat.add_assoc]; exact h2⟩
  · obtain ⟨i, hi, rfl⟩ := List.mem_map.1 hp
    exact (hq i (List.mem_range.1 hi)).2.2.1
  · obtain ⟨i, hi, rfl⟩ := List.mem_map.1 hp
    exact (hq i (List.mem_range.1 hi)).2.2.2

theorem take_any (a : Option Addr) (n cap : Nat) (ss : List ByteArray) (a1 : Option Addr) (n1 cap1 : Nat) (ps : List (ByteArray × Int)) (w : World) (hn : ss.length = n) (h : RowS w w.heap.size (.slice a n cap) ss) (hmax : n ≤ maxLen) (hsz : ∀ k : Nat, (ss[k]?.getD ByteArray.empty).size ≤ maxLen)
    (hn1 : ps.length = n1) (h1 : RowP w w.heap.size (.slice a1 n1 cap1) ps) (hmax1 : n1 ≤ maxLen) (hsz1 : ∀ p ∈ ps, p.1.size ≤ maxLen) (hwf1 : ∀ p ∈ ps, (Lit.int .i64 p.2).wf = true)
    (m : Int) (hm : w.cell? ⟨0, 0, none⟩ = some (.int .i64 m)) :
    Calls Try.prog 3 #[.slice a n cap, .slice a1 n1 cap1] w fun e w' => e = .returned (.bool true) ∧ Below w.heap.size w w' := by
  cases a with
  | some ad => exact take_some ad n cap ss a1 n1 cap1 ps w hn h hmax hsz hn1 h1 hmax1 hsz1 hwf1 m hm
  | none =>
    obtain ⟨a', cap', e1, e2, e3⟩ := h
    simp only [Value.slice.injEq] at e1
    obtain ⟨rfl, rfl, rfl⟩ := e1
    rcases e3 with e3 | ⟨b, off, e4, _⟩
    · subst e3
      have := e2 rfl
      subst this
      exact take_nil a1 n1 cap1 ps w hn1 h1 hmax1 hsz1 hwf1 m hm
    · cases e4

set_option maxRecDepth 100000 in
theorem lifted (os : Os) (started : os.Started) (H : Type) (enc : TypeId × Value → H) :
    ReturnsInHanded {} Try.checked os 3 .any (Rows.fnJoinConfigurationsTakesEachLineFromItsOwnConfigurationSpec.pre6 enc Try.prog Try.f3 Rows.fnJoinConfigurationsTakesEachLineFromItsOwnConfigurationRow.domain false) (Rows.fnJoinConfigurationsTakesEachLineFromItsOwnConfigurationSpec.post enc Try.prog Try.f3 false true false false) := by
  refine returnsInHanded_of_change_shaped (C := Try.checked) own started (by kernel_rfl) Try.func3
    (ChangeSpec.witness6 (enc := enc) (C := Try.checked) false ⟨#[], #[.slice none 0 0, .slice none 0 0], []⟩ 8 (by kernel_rfl) (by kernel_rfl) (by kernel_rfl) (by kernel_rfl)) ?_
  intro W base args ds gs before hval0 hW hcnd _ hsh _
  have hval : ∀ (j : Nat) t v, Try.f3.params[j]? = some t → args[j]? = some v → Value.okWide Try.prog W .any base t v := hval0
  have hW' := hW
  obtain ⟨p, q, hA0, hV, rfl, hfz, hnd⟩ := hW
  have hA : DataW.TrodAll enc Try.prog W 0 (fun _ => true) true Try.f3.params.toList args.toList ds p := hA0
  rw [Try.params3] at hA hval
  obtain ⟨v0, vs0, d0, ds0, p0, q0, hargs, rfl, rfl, h0, r0⟩ := trodAll_cons hA
  obtain ⟨v1, vs1, d1, ds1, p1, q1, rfl, rfl, rfl, h1, r1⟩ := trodAll_cons r0
  obtain ⟨rfl, rfl, rfl⟩ := trodAll_nil r1
  obtain rfl : args = #[v0, v1] := by cases args; simp_all
  obtain ⟨rfl, rfl⟩ := trodVars_none hV
  obtain ⟨a0, len0, cap0, rfl⟩ := okWide_slice Try.underlying22 (hval 0 22 v0 rfl rfl)
  obtain ⟨a1, len1, cap1, rfl⟩ := okWide_slice Try.underlying23 (hval 1 23 v1 rfl rfl)
  have k0 := h0
  have k1 := h1
  have lt0 : ∀ x ∈ p0, x.block < W.heap.size := by obtain ⟨m, hm⟩ := k0; exact DataW.trod_lt m _ _ _ hm
  have lt1 : ∀ x ∈ p1, x.block < W.heap.size := by obtain ⟨m, hm⟩ := k1; exact DataW.trod_lt m _ _ _ hm
  obtain ⟨ss, hn, hrow, hmax, hsz⟩ : ∃ ss : List ByteArray, ss.length = len0 ∧ RowS W W.heap.size (.slice a0 len0 cap0) ss ∧ len0 ≤ maxLen ∧ ∀ k : Nat, (ss[k]?.getD ByteArray.empty).size ≤ maxLen := by
    obtain ⟨fuel, hf⟩ := h0
    rcases open_strings Try.underlying22 Try.underlying9 (by kernel_rfl) hf with ⟨hcs, _⟩ | ⟨x, l, c, zs, hcs, _, hl, hm, hz, _, hcell, hwz⟩
    · simp [Value.cells] at hcs
      obtain ⟨rfl, rfl, rfl⟩ := hcs
      exact ⟨[], rfl, ⟨none, 0, rfl, fun _ => rfl, .inl rfl⟩, Nat.zero_le _, fun k => by simp⟩
    · simp [Value.cells] at hcs
      obtain ⟨rfl, rfl, rfl⟩ := hcs
      have hlz : len0 ≤ zs.length := by rw [hz]; split <;> omega
      have hlt : (zs.take len0).length = len0 := by simp; omega
      refine ⟨zs.take len0, hlt, by have := row_of (cap := cap0) hlz hcell; rw [hlt] at this; exact this, by omega, fun k => ?_⟩
      rw [List.getElem?_take]
      split
      · cases hk : zs[k]? with
        | none => simp
        | some s => exact hwz s (List.mem_of_getElem? hk)
      · simp
  obtain ⟨ps, hn1, hrow1, hmax1, hsz1, hwf1⟩ : ∃ ps : List (ByteArray × Int), ps.length = len1 ∧ RowP W W.heap.size (.slice a1 len1 cap1) ps ∧ len1 ≤ maxLen ∧ (∀ p ∈ ps, p.1.size ≤ maxLen) ∧ ∀ p ∈ ps, (Lit.int .i64 p.2).wf = true := by
    obtain ⟨fuel, hf⟩ := h1
    rcases Go.Deep.open_slice_pairs Try.underlying23 Try.underlying27 (by kernel_rfl) rfl rfl (by kernel_rfl) (by kernel_rfl) hf with ⟨hcs, _⟩ | ⟨x, l, c, mm, nn, V0, V1, D0, D1, P0, P1, hcs, _, hl, hm, hmm, _, hall⟩
    · simp [Value.cells] at hcs
      obtain ⟨rfl, rfl, rfl⟩ := hcs
      exact ⟨[], rfl, ⟨none, 0, rfl, .inl rfl⟩, Nat.zero_le _, (fun p hp => by cases hp), (fun p hp => by cases hp)⟩
    · simp [Value.cells] at hcs
      obtain ⟨rfl, rfl, rfl⟩ := hcs
      have hlm : len1 ≤ mm := by rw [hmm]; split <;> omega
      obtain ⟨ps, g1, g2, g3, g4⟩ := picks_of (w := W) (x := x) (len := len1) (cap := cap1) (fun i hi => by
        obtain ⟨c0, c1, t0, t1⟩ := hall i (by omega)
        obtain ⟨s, e0, _, hs⟩ := DataW.trod_string Try.underlying9 t0
        obtain ⟨z, e1, _, hz⟩ := DataW.trod_int Try.underlying3 t1
        simp only [List.cons.injEq, and_true] at e0 e1
        exact ⟨(s, z), by rw [c0, e0], by rw [c1, e1], hs, hz⟩)
      exact ⟨ps, g1, g2, by omega, g3, g4⟩
  clear hA0 hval0
  simp only [List.append_nil] at hW'
  obtain ⟨m, hm⟩ := Try.maxLen_shaped W hsh
  refine (take_any a0 len0 cap0 ss a1 len1 cap1 ps W hn hrow hmax hsz hn1 hrow1 hmax1 hsz1 hwf1 m hm).mono fun e W' ⟨he, bel⟩ => ?_
  subst he
  exact ⟨_, rfl, _, _, _, [], _, [], hW', trodAll_mk1 (shut_bool Try.underlying4 _), (trodAll_cons_mk (Below.trod laidOut (by kernel_rfl) (of_decide_eq_true (by kernel_rfl)) k0 bel lt0) (trodAll_cons_mk (Below.trod laidOut (by kernel_rfl) (of_decide_eq_true (by kernel_rfl)) k1 bel lt1) trodAll_mk0)), rfl, bel.frame _, fun h => by cases h⟩

theorem over : Rows.fnJoinConfigurationsTakesEachLineFromItsOwnConfigurationRow.holds Try.pinned (OpenSpec.ofChange Rows.fnJoinConfigurationsTakesEachLineFromItsOwnConfigurationSpec) :=
  OpenClaim.holds_of_wide 3 Try.f3 rfl rfl rfl rfl rfl rfl rfl ⟨rfl, rfl, rfl, rfl, rfl⟩ rfl rfl rfl rfl rfl (by kernel_rfl) Try.func3 (by kernel_rfl)
    (of_decide_eq_true (by kernel_rfl)) (by unfold Func.isWrapper; first | (rw [if_pos (by decide +kernel)]; kernel_rfl) | (rw [if_neg (by decide +kernel)]; exact ⟨rfl, rfl⟩))
    (fun os started H enc _ => lifted os started H enc)

/-- THE STATEMENT -/
theorem proved : Rows.FnJoinConfigurationsTakesEachLineFromItsOwnConfigurationSaid := over
end Go.Proofs.Qxb6612439a.fnTakes
