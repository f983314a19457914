/-
  The proof of Rows.FnJoinConfigurationsGivesBackTheConfigurationItTakesAllFromSaid.
-/
import Derived.Test.Qxb6612439aBackNil
import Derived.HandedShaped
import Derived.WalkKit
import Derived.ProofKit
import Derived.OpenShut
import Derived.ShutString
import Derived.SliceStrings
import Derived.ChangeOld
import Derived.Below
namespace Go.Proofs.Qxb6612439a.fnGivesBack
open Go.ChangeShapes Go.WideShapes Go.ChangeAt Go.RowKit
open Go.ChangeMaps (open_string shut_string)
set_option linter.unusedVariables false

theorem own : ownKnob Try.prog.godebug = none := by kernel_rfl
theorem laidOut : laidOutB Try.prog = true := by kernel_rfl

/-- The cells of a slice of strings that came in. -/
theorem row_of {w : World} {x : Addr} {len cap : Nat} {ss : List ByteArray} (hl : len ≤ ss.length) (hc : ∀ i, i < ss.length → w.cell? (x.add i) = some (.string (ss.getD i ByteArray.empty))) :
    RowS w w.heap.size (.slice (some x) (ss.take len).length cap) (ss.take len) := by
  refine ⟨some x, cap, rfl, (fun e => by cases e), ?_⟩
  rcases Nat.eq_zero_or_pos len with h0 | h0
  · subst h0; exact .inl rfl
  · right
    obtain ⟨b, off, spot⟩ := x
    have hspot : spot = none := by simpa [Addr.add] using World.cell?_spot (hc 0 (by omega))
    subst hspot
    have hc' : ∀ i, i < ss.length → w.cell? ⟨b, off + i, none⟩ = some (.string (ss.getD i ByteArray.empty)) := fun i hi => by
      rw [← Go.WideShapes.add_plain]; exact hc i hi
    refine ⟨b, off, rfl, World.block_lt_of_cell? w _ (hc' 0 (by omega)), fun i hi => ?_⟩
    have hi' : i < len := by simp at hi; omega
    rw [hc' i (by omega), List.getElem?_take, if_pos hi']
    rfl

set_option maxRecDepth 100000 in
theorem lifted (os : Os) (started : os.Started) (H : Type) (enc : TypeId × Value → H) :
    ReturnsInHanded {} Try.checked os 4 .any (Rows.fnJoinConfigurationsGivesBackTheConfigurationItTakesAllFromSpec.pre6 enc Try.prog Try.f4 Rows.fnJoinConfigurationsGivesBackTheConfigurationItTakesAllFromRow.domain false) (Rows.fnJoinConfigurationsGivesBackTheConfigurationItTakesAllFromSpec.post enc Try.prog Try.f4 false true false false) := by
  refine returnsInHanded_of_change_shaped (C := Try.checked) own started (by kernel_rfl) Try.func4
    (ChangeSpec.witness6 (enc := enc) (C := Try.checked) false ⟨#[], #[.slice none 0 0, .int .i64 0], []⟩ 8 (by kernel_rfl) (by kernel_rfl) (by kernel_rfl) (by kernel_rfl)) ?_
  intro W base args ds gs before hval0 hW hcnd _ hsh _
  have hval : ∀ (j : Nat) t v, Try.f4.params[j]? = some t → args[j]? = some v → Value.okWide Try.prog W .any base t v := hval0
  have hW' := hW
  obtain ⟨p, q, hA0, hV, rfl, hfz, hnd⟩ := hW
  have hA : DataW.TrodAll enc Try.prog W 0 (fun _ => true) true Try.f4.params.toList args.toList ds p := hA0
  rw [Try.params4] at hA hval
  obtain ⟨v0, vs0, d0, ds0, p0, q0, hargs, rfl, rfl, h0, r0⟩ := trodAll_cons hA
  obtain ⟨v1, vs1, d1, ds1, p1, q1, rfl, rfl, rfl, h1, r1⟩ := trodAll_cons r0
  obtain ⟨rfl, rfl, rfl⟩ := trodAll_nil r1
  obtain rfl : args = #[v0, v1] := by cases args; simp_all
  obtain ⟨rfl, rfl⟩ := trodVars_none hV
  obtain ⟨a0, len0, cap0, rfl⟩ := okWide_slice Try.underlying22 (hval 0 22 v0 rfl rfl)
  have k0 := h0
  have lt0 : ∀ x ∈ p0, x.block < W.heap.size := by obtain ⟨m, hm⟩ := k0; exact DataW.trod_lt m _ _ _ hm
  obtain ⟨ss, hn, hrow, hmax, hsz⟩ : ∃ ss : List ByteArray, ss.length = len0 ∧ RowS W W.heap.size (.slice a0 len0 cap0) ss ∧ len0 ≤ maxLen ∧ ∀ k : Nat, (ss[k]?.getD ByteArray.empty).size ≤ maxLen := by
    obtain ⟨fuel, hf⟩ := h0
    rcases open_strings Try.underlying22 Try.underlying9 (by kernel_rfl) hf with ⟨hcs, _⟩ | ⟨x, l, c, zs, hcs, _, hl, hm, hz, _, hcell, hwz⟩
    · simp [Value.cells] at hcs
      obtain ⟨rfl, rfl, rfl⟩ := hcs
      exact ⟨[], rfl, ⟨none, 0, rfl, fun _ => rfl, .inl rfl⟩, Nat.zero_le _, fun k => by simp⟩
    · simp [Value.cells] at hcs
      obtain ⟨rfl, rfl, rfl⟩ := hcs
      have hlz : len0 ≤ zs.length := by rw [hz]; split <;> omega
      have hlt : (zs.take len0).length = len0 := by simp; omega
      refine ⟨zs.take len0, hlt, by have := row_of (cap := cap0) hlz hcell; rw [hlt] at this; exact this, by omega, fun k => ?_⟩
      rw [List.getElem?_take]
      split
      · cases hk : zs[k]? with
        | none => simp
        | some s => exact hwz s (List.mem_of_getElem? hk)
      · simp
  obtain ⟨a1, rfl, rfl, rfl, w1⟩ := open_int Try.underlying3 (hval 1 3 v1 rfl rfl) h1
  clear hA0 hval0
  simp only [List.append_nil] at hW'
  obtain ⟨m, hm⟩ := Try.maxLen_shaped W hsh
  refine (back_any a0 len0 cap0 ss a1 W hn hrow hmax hsz m hm).mono fun e W' ⟨he, bel⟩ => ?_
  subst he
  exact ⟨_, rfl, _, _, _, [], _, [], hW', trodAll_mk1 (shut_bool Try.underlying4 _), (trodAll_cons_mk (Below.trod laidOut (by kernel_rfl) (of_decide_eq_true (by kernel_rfl)) k0 bel lt0) (trodAll_cons_mk (shut_int Try.underlying3 w1) trodAll_mk0)), rfl, bel.frame _, fun h => by cases h⟩

theorem over : Rows.fnJoinConfigurationsGivesBackTheConfigurationItTakesAllFromRow.holds Try.pinned (OpenSpec.ofChange Rows.fnJoinConfigurationsGivesBackTheConfigurationItTakesAllFromSpec) :=
  OpenClaim.holds_of_wide 4 Try.f4 rfl rfl rfl rfl rfl rfl rfl ⟨rfl, rfl, rfl, rfl, rfl⟩ rfl rfl rfl rfl rfl (by kernel_rfl) Try.func4 (by kernel_rfl)
    (of_decide_eq_true (by kernel_rfl)) (by unfold Func.isWrapper; first | (rw [if_pos (by decide +kernel)]; kernel_rfl) | (rw [if_neg (by decide +kernel)]; exact ⟨rfl, rfl⟩))
    (fun os started H enc _ => lifted os started H enc)

/-- THE STATEMENT -/
theorem proved : Rows.FnJoinConfigurationsGivesBackTheConfigurationItTakesAllFromSaid := over
end Go.Proofs.Qxb6612439a.fnGivesBack
