/-
  The map of the picks: what it answers; ZZfromMap (11) and its closure (22).
-/
import Derived.Test.Qxb6612439aPicks
import Derived.Maps.OwnOps
import Derived.Maps.OwnIn
import Derived.StringKeys
namespace Go.Proofs.Qxb6612439a
open Go.RowKit

theorem zero3 (w : World) : (zeroValue 3).run Try.prog w = .ok (.int .i64 0) w := by kernel_rfl

/-- What the map answers at a name. -/
def fnOf (D : DataW Unit) (nm : List UInt8) : Int := match D.atKey (.string nm) (.lit (.int .i64 0)) with
  | .lit (.int _ c) => c
  | _ => 0

/-- The call's own map of strings to numbers. -/
def OwnM (w : World) (b n : Nat) (D : DataW Unit) : Prop := w.ownsMap Try.prog 9 (plainElem Try.prog 3) b n D

theorem OwnM.below {w w' : World} {b n B : Nat} {D : DataW Unit} (h : OwnM w b n D) (hb : Below B w w') (hlt : b < B) : OwnM w' b n D := by
  obtain ⟨es, clock, h1, F, hs, hD⟩ := h
  exact ⟨es, clock, (hb.block b hlt).trans h1, F, hs, hD⟩

theorem OwnM.look {w : World} {b n : Nat} {D : DataW Unit} (h : OwnM w b n D) {nm : ByteArray} (hs : nm.size ≤ maxLen) :
    (Instr.lookup 28 (.map (some b)) (.string nm) false).run Try.prog w = .ok (.int .i64 (fnOf D (bytesOf nm))) w := by
  obtain ⟨c, hrun, hat, _⟩ := World.ownsMap.lookup_int h (Maps.string_keyed Try.underlying9) Try.underlying28 Try.underlying3 (zero3 _) (WideMaps.keyOf_string_mk Try.underlying9 hs)
  have : fnOf D (bytesOf nm) = c := by unfold fnOf bytesOf; rw [hat]
  rw [this]
  exact hrun

set_option maxHeartbeats 400000 in
theorem from_any (mb : Nat) (w : World) :
    Calls Try.prog 11 #[.map (some mb)] w fun e w' => e = .returned (.func (.func 22) #[] #[.pointer (some ⟨w.heap.size, 0, none⟩)]) ∧ w.alloc (.cells #[.map (some mb)] 28) = w' := by
  go_enter Try.func11, Try.ntmps11
  go_wp2
  go_ret
  exact ⟨rfl, rfl⟩

set_option maxHeartbeats 400000 in
theorem from1_any (mb n : Nat) (D : DataW Unit) (nm : ByteArray) (b : Nat) (w : World) (h : w.cell? ⟨b, 0, none⟩ = some (.map (some mb))) (hm : OwnM w mb n D) (hs : nm.size ≤ maxLen) :
    Calls Try.prog 22 (#[.string nm] ++ #[.pointer (some ⟨b, 0, none⟩)]) w fun e w' => e = .returned (.int .i64 (fnOf D (bytesOf nm))) ∧ w = w' := by
  have hrun := hm.look hs
  clear hm
  obtain ⟨c, hc⟩ : ∃ c, fnOf D (bytesOf nm) = c := ⟨_, rfl⟩
  rw [hc] at hrun ⊢
  clear hc
  show Calls Try.prog 22 #[.string nm, .pointer (some ⟨b, 0, none⟩)] w _
  go_enter Try.func22, Try.ntmps22
  go_wp2
  go_ret
  exact ⟨rfl, rfl⟩

end Go.Proofs.Qxb6612439a
