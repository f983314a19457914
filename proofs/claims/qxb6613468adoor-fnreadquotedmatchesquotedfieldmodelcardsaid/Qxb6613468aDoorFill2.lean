/-
  (*bufio.Reader).fill (28), whole.
-/
import Derived.Test.Qxb6613468aDoorFill
namespace Go.Proofs.Qxb6613468aDoor
open Go.RowKit

theorem BR.drewN {w : World} {bb sb rb : Nat} {s : ByteArray} {r q i : Nat} {e : Value} {l : List UInt8} (h : BR w bb sb rb s r q i e l) (n : Nat) : BR (w.drewN n) bb sb rb s r q i e l := ⟨h.hb, h.hs, h.hr, h.hl, h.hrq, h.hq, h.hi, h.hsz⟩
theorem Filled.from {w w1 : World} {bb sb rb : Nat} {s : ByteArray} {q i : Nat} {E1 : Value} {l : List UInt8} {w' : World} (h : Filled w1 bb sb rb s q i E1 l w') (ho : Only (Bs bb sb rb) w w1) : Filled w bb sb rb s q i E1 l w' := by
  rcases h with ⟨h0, q', i', l', h1, h2, h3, h4⟩ | ⟨h0, l', h1, h2, h3⟩
  · exact .inl ⟨h0, q', i', l', h1, h2, h3, ho.trans h4⟩
  · exact .inr ⟨h0, l', h1, h2, ho.trans h3⟩

theorem ret28 {R : Ending → World → Prop} {a' : Act} {w'' : World} (hd : a'.defers = []) (h : R (.returned (.tuple #[])) w'') : bodyPost Tryd.prog Tryd.f28 R .ret a' w'' := bodyPost_ret (v := .tuple #[]) (by simp [results, Tryd.results28, go_sem]) hd h

set_option maxRecDepth 1000000 in
set_option maxHeartbeats 4000000 in
theorem fill_any (bb sb rb r q i : Nat) (s : ByteArray) (l : List UInt8) (a1 : Addr) (w : World) (hB : BR w bb sb rb s r q i .nilIface l) (hq : q - r < 4096) (hg : w.cell? ⟨1, 0, none⟩ = some (.iface 70 (.pointer (some a1)))) (hn1 : ¬ Bs bb sb rb 1) :
    Calls Tryd.prog 28 #[.pointer (some ⟨bb, 0, none⟩)] w fun e w' => e = .returned (.tuple #[]) ∧ ∃ l0, l0.take (q - r) = (l.drop r).take (q - r) ∧ Filled w bb sb rb s (q - r) i (.iface 70 (.pointer (some a1))) l0 w' := by
  have HB : Hid (BR w bb sb rb s r q i .nilIface l) := hB
  have HG : Hid (w.cell? ⟨1, 0, none⟩ = some (.iface 70 (.pointer (some a1)))) := hg
  have HN1 : Hid (¬ Bs bb sb rb 1) := hn1
  obtain ⟨x, y, hb⟩ := HB.out.hb
  have b0 : w.cell? ⟨bb, 0, none⟩ = some (.slice (some ⟨rb, 0, none⟩) 4096 4096) := by rw [cell_of_row w bb 0 _ _ _ hb]; rfl
  have b2 : w.cell? ⟨bb, 2, none⟩ = some (.int .i64 r) := by rw [cell_of_row w bb 2 _ _ _ hb]; rfl
  have b3 : w.cell? ⟨bb, 3, none⟩ = some (.int .i64 q) := by rw [cell_of_row w bb 3 _ _ _ hb]; rfl
  have HBB : Hid (w.heap[bb]? = some (.cells (cellsB sb rb r q .nilIface x y) 62 (0, 0))) := hb
  have hrq := HB.out.hrq
  have hq4 := HB.out.hq
  clear hB hg hn1 hb
  by_cases hr0 : r = 0
  · subst hr0
    have hlt : ¬ ((4096 : Int) ≤ (q : Int)) := by omega
    go_enter Tryd.func28, Tryd.ntmps28
    go_wp2_with fail
    go_quiet (fail)
    go_wp2_with fail
    refine fill_loop _ _ _ _ _ _ _ _ _ _ _ _ _ _ _ _ _ _ _ _ _ _ _ _ _ _ _ _ _ _ _ _ _ _ _ _ _ _ _ _ _ _ _ _ _ _ _ _ _ _ _ _ _ _ _ _ _ _ _ _ _ _ _ _ _ _ _ _ _ _ _ _ _ _ _ _ _ _ _ _ _ _ _ _ _ _ _ _ _ _ _ _ _ _ _ _ _ bb sb rb q i s l a1 (w.drewN nq) _ (HB.out.drewN nq) (by omega) HG.out HN1.out ?_
    rintro a' w'' ⟨hd, hf⟩
    simp only [Exit.inBlock, Exit.then]
    refine ret28 hd ?_
    exact ⟨rfl, l, rfl, hf.from ((Only.refl _ w).drewN nq)⟩
  · obtain ⟨off0, hif, hin⟩ : ∃ off0, (if 4096 = r then some (⟨rb, 0, none⟩ : Addr) else some ⟨rb, r, none⟩) = some ⟨rb, off0, none⟩ ∧ In w rb off0 ((l.drop r).take (q - r)) := by
      have h0 : In w rb 0 l := ⟨_, _, HB.out.hr, fun i hi => by simp [Lib.byteCells, hi]⟩
      by_cases h4 : 4096 = r
      · refine ⟨0, by rw [if_pos h4], ?_⟩
        have : q - r = 0 := by omega
        rw [this, List.take_zero]
        exact h0.take 0
      · refine ⟨r, by rw [if_neg h4], ?_⟩
        have := (h0.drop r).take (q - r)
        rwa [Nat.zero_add] at this
    have hyl : ((l.drop r).take (q - r)).length = q - r := by rw [List.length_take, List.length_drop, HB.out.hl]; omega
    obtain ⟨yl, hyl0⟩ : ∃ yl, (l.drop r).take (q - r) = yl := ⟨_, rfl⟩
    rw [hyl0] at hin hyl
    have HY : Hid ((l.drop r).take (q - r) = yl) := hyl0
    have HIN : Hid (In w rb off0 yl) := hin
    have HYL : Hid (yl.length = q - r) := hyl
    clear hin hyl hyl0
    have hr1 : (0 : Int) < (r : Int) := by omega
    have hr2 : (r : Int) ≤ (q : Int) := by omega
    have hq5 : (q : Int) ≤ 4096 := by omega
    go_enter Tryd.func28, Tryd.ntmps28
    go_wp2_with fail
    have HNE : Hid (bb ≠ sb ∧ bb ≠ rb ∧ sb ≠ rb) := HB.out.nbs
    go_region_held3 (fun w' => w'.cell? ⟨bb, 0, none⟩ = some (.slice (some ⟨rb, 0, none⟩) 4096 4096) ∧ w'.cell? ⟨bb, 2, none⟩ = some (.int .i64 r) ∧ w'.cell? ⟨bb, 3, none⟩ = some (.int .i64 q)) (first | exact ⟨by assumption, by assumption, by assumption⟩ | go_keep)
      (first
      | (refine step_copy_bytes (by rfl) _ _ 22 22 (by rfl) 5 Tryd.underlying22 (by kernel_rfl) rb 4096 4096 (by rfl) rb off0 (q - r) (4096 - r) (by rfl) l yl HYL.out (by omega) (by rw [HB.out.hl]; omega) HB.out.hr HIN.out ?_; intro w1 hr1' ho1; have HR1 : Hid _ := hr1'; have HO1 : Hid (Only (fun k => k = rb) w w1) := ((Only.refl _ w).drew).trans ho1; have HBB1 : Hid (w1.heap[bb]? = some (.cells (cellsB sb rb r q .nilIface x y) 62 (0, 0))) := HO1.out.heap HBB.out HNE.out.2.1; have k0 : w1.cell? ⟨bb, 0, none⟩ = some (.slice (some ⟨rb, 0, none⟩) 4096 4096) := by { rw [cell_of_row w1 bb 0 _ _ _ HBB1.out]; rfl }; have k2 : w1.cell? ⟨bb, 2, none⟩ = some (.int .i64 r) := by { rw [cell_of_row w1 bb 2 _ _ _ HBB1.out]; rfl }; have k3 : w1.cell? ⟨bb, 3, none⟩ = some (.int .i64 q) := by { rw [cell_of_row w1 bb 3 _ _ _ HBB1.out]; rfl }; clear hr1' ho1)
      | fail)
    have f2 : w1.frozen? ⟨bb, 2, none⟩ = false := free_of_row HBB1.out
    have f3 : w1.frozen? ⟨bb, 3, none⟩ = false := free_of_row HBB1.out
    clear b0 b2 b3
    go_wp2_with fail
    go_region
    obtain ⟨w2, hw2⟩ : ∃ w2, (w1.setCell ⟨bb, 3, none⟩ (.int .i64 ((q : Int) - (r : Int)))).drew = w2 := ⟨_, rfl⟩
    rw [hw2]
    have e3 : ((q : Int) - (r : Int)) = ((q - r : Nat) : Int) := by omega
    have HBB2 : Hid (w2.heap[bb]? = some (.cells (cellsB sb rb r (q - r) .nilIface x y) 62 (0, 0))) := by
      rw [← hw2, e3]
      have h1 := heap_setCell_same w1 bb 3 _ _ (.int .i64 (q - r : Nat)) HBB1.out
      have h2 : (w1.setCell ⟨bb, 3, none⟩ (.int .i64 (q - r : Nat))).heap[bb]? = some (.cells (cellsB sb rb r (q - r) .nilIface x y) 62 (0, 0)) := by simpa [cellsB] using h1
      exact h2
    have HO2 : Hid (Only (Bs bb sb rb) w w2) := by
      rw [← hw2]
      exact ((HO1.out.mono (fun k e => .inr (.inr e))).setCell (p := ⟨bb, 3, none⟩) (.inl rfl) _).drew
    have HR2 : Hid (w2.heap[rb]? = some (.cells (Lib.byteCells (spl l yl 0)).toArray 5 (0, 0))) := by
      rw [← hw2]
      exact (Below.heap_setCell w1 _ _ _ (fun e => HNE.out.2.1 e.symm)).trans HR1.out
    have HS2 : Hid (∃ z : Int, w2.heap[sb]? = some (.cells #[.string s, .int .i64 i, .int .i64 z] 57 (0, 0))) := by
      obtain ⟨z, hz⟩ := HB.out.hs
      refine ⟨z, ?_⟩
      rw [← hw2]
      exact (Below.heap_setCell w1 _ _ _ (fun e => HNE.out.1 e.symm)).trans (HO1.out.heap hz HNE.out.2.2)
    clear hw2 k0 k2 k3 f2 f3 HR1 HO1 HBB1
    have f2 : w2.frozen? ⟨bb, 2, none⟩ = false := free_of_row HBB2.out
    have k2 : w2.cell? ⟨bb, 2, none⟩ = some (.int .i64 r) := by rw [cell_of_row w2 bb 2 _ _ _ HBB2.out]; rfl
    go_wp2_with fail
    obtain ⟨w3, hw3⟩ : ∃ w3, w2.setCell ⟨bb, 2, none⟩ (.int .i64 0) = w3 := ⟨_, rfl⟩
    rw [hw3]
    have HBR : Hid (BR w3 bb sb rb s 0 (q - r) i .nilIface (spl l yl 0)) := by
      rw [← hw3]
      refine ⟨⟨x, y, ?_⟩, ?_, ?_, ?_, Nat.zero_le _, by omega, HB.out.hi, HB.out.hsz⟩
      · have := heap_setCell_same w2 bb 2 _ _ (.int .i64 0) HBB2.out
        simpa [cellsB] using this
      · obtain ⟨z, hz⟩ := HS2.out
        exact ⟨z, (Below.heap_setCell w2 _ _ _ (fun e => HNE.out.1 e.symm)).trans hz⟩
      · exact (Below.heap_setCell w2 _ _ _ (fun e => HNE.out.2.1 e.symm)).trans HR2.out
      · exact spl_len (m := q - r) (by rw [HB.out.hl]; omega) HYL.out HB.out.hl
    have HO3 : Hid (Only (Bs bb sb rb) w w3) := by rw [← hw3]; exact HO2.out.setCell (p := ⟨bb, 2, none⟩) (.inl rfl) _
    have HG3 : Hid (w3.cell? ⟨1, 0, none⟩ = some (.iface 70 (.pointer (some a1)))) := HO3.out.cell HG.out HN1.out
    have HTK : Hid ((spl l yl 0).take (q - r) = (l.drop r).take (q - r)) := by
      rw [HY.out]
      unfold spl
      rw [List.take_zero, List.nil_append, ← HYL.out, List.take_left]
      exact rfl
    clear hw3 f2 k2 HBB2 HR2 HS2 HO2
    obtain ⟨x3, y3, hb3⟩ := HBR.out.hb
    have g0 : w3.cell? ⟨bb, 0, none⟩ = some (.slice (some ⟨rb, 0, none⟩) 4096 4096) := by rw [cell_of_row w3 bb 0 _ _ _ hb3]; rfl
    have g3 : w3.cell? ⟨bb, 3, none⟩ = some (.int .i64 (q - r : Nat)) := by rw [cell_of_row w3 bb 3 _ _ _ hb3]; rfl
    have hlt : ¬ ((4096 : Int) ≤ ((q - r : Nat) : Int)) := by omega
    clear hb3
    go_quiet (fail)
    go_wp2_with fail
    refine fill_loop _ _ _ _ _ _ _ _ _ _ _ _ _ _ _ _ _ _ _ _ _ _ _ _ _ _ _ _ _ _ _ _ _ _ _ _ _ _ _ _ _ _ _ _ _ _ _ _ _ _ _ _ _ _ _ _ _ _ _ _ _ _ _ _ _ _ _ _ _ _ _ _ _ _ _ _ _ _ _ _ _ _ _ _ _ _ _ _ _ _ _ _ _ _ _ _ _ bb sb rb (q - r) i s (spl l yl 0) a1 (w3.drewN nq) _ (HBR.out.drewN nq) hq HG3.out HN1.out ?_
    rintro a' w'' ⟨hd, hf⟩
    simp only [Exit.inBlock, Exit.then]
    refine ret28 hd ?_
    exact ⟨rfl, spl l yl 0, HTK.out, hf.from (HO3.out.drewN nq)⟩

end Go.Proofs.Qxb6613468aDoor
