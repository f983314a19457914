/-
  JoinConfigurations with the map's closure, for TakesEachLine (3).
-/
import Derived.Test.Qxb6612439aLoopA
import Derived.Test.Qxb6612439aLoopC
import Derived.Test.Qxb6612439aLoopG
import Derived.Laws.OwnMore
import Derived.Laws.CopyOwn
namespace Go.Proofs.Qxb6612439a
open Go.RowKit Go.Shelf

theorem Try.info9 : (Try.prog.info? 9).map (fun i => (i.zero, i.size, i.bytes)) = some (some (.string ⟨#[]⟩), 1, 16) := by kernel_rfl

theorem make_map (n : Int) (w : World) : (Instr.makeMap 28 (some (.int .i64 n))).run Try.prog w = .ok (.map (some w.heap.size)) (w.alloc (.map #[] 0)) := by
  simp [Instr.makeMap, run_underlying Try.underlying28, asInt, asIntOf, Result.andThen]

theorem join_map (a : Option Addr) (n cap : Nat) (ss : List ByteArray) (w : World) (mb nP : Nat) (D : DataW Unit) (hn : ss.length = n) (h : RowS w w.heap.size (.slice a n cap) ss) (hmax : n ≤ 1048576)
    (hsum : sumS 0 ss ≤ 1048576) (m : Int) (hm : w.cell? ⟨0, 0, none⟩ = some (.int .i64 m)) (hM : OwnM w mb nP D) :
    Calls Try.prog 10 #[.slice a n cap, .func (.func 22) #[] #[.pointer (some ⟨w.heap.size, 0, none⟩)]] (w.alloc (.cells #[.map (some mb)] 28)) fun e w' => ∃ r, e = .returned (.string r) ∧ Joined (fnOf D) ss r ∧ Below w.heap.size w w' := by
  have hb : Below w.heap.size w (w.alloc (.cells #[.map (some mb)] 28)) := (Below.refl _ w).alloc (Nat.le_refl _) _
  have hc : (w.alloc (.cells #[.map (some mb)] 28)).cell? ⟨w.heap.size, 0, none⟩ = some (.map (some mb)) := by
    have h := World.alloc_heap_new w (.cells #[.map (some mb)] 28)
    unfold World.cell?
    simp only [h]
    rfl
  have hlt : mb < w.heap.size := World.ownsMap.lt hM
  refine (join_any 22 #[.pointer (some ⟨w.heap.size, 0, none⟩)] (fnOf D) a n cap ss _ hn ((h.below hb (Nat.le_refl _)).mono (by simp)) hmax hsum m ((hb.cell (p := ⟨0, 0, none⟩) (World.block_lt_of_cell? w _ hm)).trans hm)
    (enters_of Try.func22 (by kernel_rfl) rfl) (fun nm W hs hW => from1_any mb nP D nm w.heap.size W ((hW.cell (p := ⟨w.heap.size, 0, none⟩) (by simp)).trans hc) ((hM.below hb hlt).below hW (by simp; omega)) hs)).mono ?_
  rintro e w' ⟨r, rfl, hj, hb2⟩
  exact ⟨r, rfl, hj, hb.trans (hb2.mono (by simp))⟩

end Go.Proofs.Qxb6612439a
