/-
  (*bufio.Reader).ReadSlice (24).
-/
import Derived.Test.Qxb6613468aDoorRs
namespace Go.Proofs.Qxb6613468aDoor
open Go.RowKit

theorem SlicePost.turn {bb sb rb : Nat} {s : ByteArray} {E1 E2 : Value} {rem : List UInt8} {w : World} {v E : Value} {w1 w2 : World} (h : SlicePost bb sb rb s E1 E2 rem w v E w1) (hb : ∀ r q l x y, w1.heap[bb]? = some (.cells (cellsB sb rb r q l x y) 62 (0, 0)) → ∃ x' y', w2.heap[bb]? = some (.cells (cellsB sb rb r q l x' y') 62 (0, 0))) (ho : Only (fun k => k = bb) w1 w2) : SlicePost bb sb rb s E1 E2 rem w v E w2 := by
  obtain ⟨x, r, q, i, l, h1, h2, h3, h4, h5, h6⟩ := h
  obtain ⟨n1, n2, n3⟩ := h4.nbs
  refine ⟨x, r, q, i, l, h1.only ho (fun b hb' e => ?_), h2, h3, ⟨?_, ?_, ho.heap h4.hr (fun e => n2 e.symm), h4.hl, h4.hrq, h4.hq, h4.hi, h4.hsz⟩, h5, h6.trans (ho.mono (fun k e => .inl e))⟩
  · rw [h2] at hb'
    cases hb'
    exact n2 e.symm
  · obtain ⟨x0, y0, hh⟩ := h4.hb
    exact hb _ _ _ _ _ hh
  · obtain ⟨z, hz⟩ := h4.hs
    exact ⟨z, ho.heap hz (fun e => n1 e.symm)⟩

set_option maxRecDepth 1000000 in
set_option maxHeartbeats 4000000 in
theorem slice_any (bb sb rb r q i : Nat) (s : ByteArray) (l : List UInt8) (a1 a2 : Addr) (w : World) (hB : BR w bb sb rb s r q i .nilIface l)
    (hg : w.cell? ⟨1, 0, none⟩ = some (.iface 70 (.pointer (some a1)))) (hn1 : ¬ Bs bb sb rb 1) (hg2 : w.cell? ⟨2, 0, none⟩ = some (.iface 70 (.pointer (some a2)))) (hn2 : ¬ Bs bb sb rb 2) :
    Calls Tryd.prog 24 #[.pointer (some ⟨bb, 0, none⟩), .int .u8 10] w fun e w' => ∃ v E, e = .returned (.tuple #[v, E]) ∧ SlicePost bb sb rb s (.iface 70 (.pointer (some a1))) (.iface 70 (.pointer (some a2))) (remB l r q s i) w v E w' := by
  have HB : Hid (BR w bb sb rb s r q i .nilIface l) := hB
  have HG : Hid (w.cell? ⟨1, 0, none⟩ = some (.iface 70 (.pointer (some a1)))) := hg
  have HN1 : Hid (¬ Bs bb sb rb 1) := hn1
  have HG2 : Hid (w.cell? ⟨2, 0, none⟩ = some (.iface 70 (.pointer (some a2)))) := hg2
  have HN2 : Hid (¬ Bs bb sb rb 2) := hn2
  clear hB hg hn1 hg2 hn2
  go_enter Tryd.func24, Tryd.ntmps24
  go_wp2_with fail
  refine rs_loop _ _ _ _ _ _ _ _ _ _ _ _ _ _ _ _ _ _ _ _ _ _ _ _ _ _ _ _ _ _ _ _ _ _ _ _ _ _ _ _ _ _ _ _ _ _ _ _ _ _ _ _ _ _ _ _ _ _ _ _ _ _ _ _ _ _ _ _ _ _ _ _ _ _ _ _ _ _ _ _ _ _ _ _ _ _ _ _ _ _ _ _ _ _ _ _ _ _ _ _ _ _ _ _ _ _ _ _ _ _ _ _ _ _ _ _ _ _ _ _ _ _ _ _ _ bb sb rb r q i s l a1 a2 w _ HB.out HG.out HN1.out HG2.out HN2.out ?_
  intro a' w1 hX
  obtain ⟨y7, hX⟩ := hX
  obtain ⟨y9, hX⟩ := hX
  obtain ⟨y10, hX⟩ := hX
  obtain ⟨y11, hX⟩ := hX
  obtain ⟨y12, hX⟩ := hX
  obtain ⟨y13, hX⟩ := hX
  obtain ⟨y14, hX⟩ := hX
  obtain ⟨y15, hX⟩ := hX
  obtain ⟨y16, hX⟩ := hX
  obtain ⟨y17, hX⟩ := hX
  obtain ⟨y18, hX⟩ := hX
  obtain ⟨y19, hX⟩ := hX
  obtain ⟨y20, hX⟩ := hX
  obtain ⟨y21, hX⟩ := hX
  obtain ⟨y22, hX⟩ := hX
  obtain ⟨y23, hX⟩ := hX
  obtain ⟨y24, hX⟩ := hX
  obtain ⟨y25, hX⟩ := hX
  obtain ⟨y26, hX⟩ := hX
  obtain ⟨y27, hX⟩ := hX
  obtain ⟨y28, hX⟩ := hX
  obtain ⟨y29, hX⟩ := hX
  obtain ⟨y30, hX⟩ := hX
  obtain ⟨y31, hX⟩ := hX
  obtain ⟨y32, hX⟩ := hX
  obtain ⟨y33, hX⟩ := hX
  obtain ⟨y34, hX⟩ := hX
  obtain ⟨y35, hX⟩ := hX
  obtain ⟨y36, hX⟩ := hX
  obtain ⟨y37, hX⟩ := hX
  obtain ⟨y38, hX⟩ := hX
  obtain ⟨y39, hX⟩ := hX
  obtain ⟨y40, hX⟩ := hX
  obtain ⟨y41, hX⟩ := hX
  obtain ⟨y42, hX⟩ := hX
  obtain ⟨y43, hX⟩ := hX
  obtain ⟨y44, hX⟩ := hX
  obtain ⟨y45, hX⟩ := hX
  obtain ⟨y46, hX⟩ := hX
  obtain ⟨y47, hX⟩ := hX
  obtain ⟨y48, hX⟩ := hX
  obtain ⟨y49, hX⟩ := hX
  obtain ⟨y50, hX⟩ := hX
  obtain ⟨y51, hX⟩ := hX
  obtain ⟨y52, hX⟩ := hX
  obtain ⟨y53, hX⟩ := hX
  obtain ⟨y54, hX⟩ := hX
  obtain ⟨y55, hX⟩ := hX
  obtain ⟨y56, hX⟩ := hX
  obtain ⟨y57, hX⟩ := hX
  obtain ⟨y58, hX⟩ := hX
  obtain ⟨y59, hX⟩ := hX
  obtain ⟨y60, hX⟩ := hX
  obtain ⟨y61, hX⟩ := hX
  obtain ⟨y62, hX⟩ := hX
  obtain ⟨y63, hX⟩ := hX
  obtain ⟨y64, hX⟩ := hX
  obtain ⟨y65, hX⟩ := hX
  obtain ⟨y66, hX⟩ := hX
  obtain ⟨y67, hX⟩ := hX
  obtain ⟨y68, hX⟩ := hX
  obtain ⟨y69, hX⟩ := hX
  obtain ⟨y70, hX⟩ := hX
  obtain ⟨y71, hX⟩ := hX
  obtain ⟨y72, hX⟩ := hX
  obtain ⟨y73, hX⟩ := hX
  obtain ⟨y74, hX⟩ := hX
  obtain ⟨y75, hX⟩ := hX
  obtain ⟨y76, hX⟩ := hX
  obtain ⟨y77, hX⟩ := hX
  obtain ⟨y78, hX⟩ := hX
  obtain ⟨y79, hX⟩ := hX
  obtain ⟨y80, hX⟩ := hX
  obtain ⟨y81, hX⟩ := hX
  obtain ⟨y82, hX⟩ := hX
  obtain ⟨y83, hX⟩ := hX
  obtain ⟨y84, hX⟩ := hX
  obtain ⟨y85, hX⟩ := hX
  obtain ⟨y86, hX⟩ := hX
  obtain ⟨y87, hX⟩ := hX
  obtain ⟨y88, hX⟩ := hX
  obtain ⟨y89, hX⟩ := hX
  obtain ⟨y90, hX⟩ := hX
  obtain ⟨y91, hX⟩ := hX
  obtain ⟨y92, hX⟩ := hX
  obtain ⟨y93, hX⟩ := hX
  obtain ⟨y94, hX⟩ := hX
  obtain ⟨y95, hX⟩ := hX
  obtain ⟨y96, hX⟩ := hX
  obtain ⟨y97, hX⟩ := hX
  obtain ⟨y98, hX⟩ := hX
  obtain ⟨y99, hX⟩ := hX
  obtain ⟨y100, hX⟩ := hX
  obtain ⟨y101, hX⟩ := hX
  obtain ⟨y102, hX⟩ := hX
  obtain ⟨y103, hX⟩ := hX
  obtain ⟨y104, hX⟩ := hX
  obtain ⟨y105, hX⟩ := hX
  obtain ⟨y106, hX⟩ := hX
  obtain ⟨y107, hX⟩ := hX
  obtain ⟨y108, hX⟩ := hX
  obtain ⟨y109, hX⟩ := hX
  obtain ⟨y110, hX⟩ := hX
  obtain ⟨y111, hX⟩ := hX
  obtain ⟨y112, hX⟩ := hX
  obtain ⟨y113, hX⟩ := hX
  obtain ⟨x4, x5, x6, rfl, hpost⟩ := hX
  obtain ⟨x, r', q', i', l', h1, h2, h3, h4, h5, h6⟩ := hpost
  have HP : Hid (SlicePost bb sb rb s (.iface 70 (.pointer (some a1))) (.iface 70 (.pointer (some a2))) (remB l r q s i) w x4 x5 w1) := ⟨x, r', q', i', l', h1, h2, h3, h4, h5, h6⟩
  rcases h1 with ⟨rfl, _⟩ | ⟨b, off, cap, rfl, hle, hin⟩
  · cases h2
  · obtain ⟨c0, d0, hbb⟩ := h4.hb
    have k5 : w1.cell? ⟨bb, 5, none⟩ = some (.int .i64 c0) := by rw [cell_of_row w1 bb 5 _ _ _ hbb]; rfl
    have k6 : w1.cell? ⟨bb, 6, none⟩ = some (.int .i64 d0) := by rw [cell_of_row w1 bb 6 _ _ _ hbb]; rfl
    have f5 : w1.frozen? ⟨bb, 5, none⟩ = false := free_of_row hbb
    have f6 : w1.frozen? ⟨bb, 6, none⟩ = false := free_of_row hbb
    obtain ⟨n, hn⟩ : ∃ n, x.length = n := ⟨_, rfl⟩
    by_cases h0 : n = 0
    · rw [hn, h0] at HP ⊢
      clear hin hle h2 h3 h4 h5 h6 hbb
      go_wp2_with fail
      refine bodyPost_ret (v := .tuple #[.slice (some ⟨b, off, none⟩) 0 cap, x5]) (by simp [results, Tryd.results24, go_sem]) rfl ⟨_, _, rfl, HP.out⟩
    · obtain ⟨m, rfl⟩ : ∃ m, n = m + 1 := ⟨n - 1, by omega⟩
      have hc := hin.cell (i := m) (by omega)
      obtain ⟨c, hc2⟩ : ∃ c, x[m]'(by omega) = c := ⟨_, rfl⟩
      rw [hc2] at hc
      rw [hn] at HP h3 ⊢
      have hm0 : (0 : Int) ≤ (m : Int) := Int.natCast_nonneg _
      clear hin hle h2 h4 h5 h6 hbb hn hc2
      go_wp2_with fail
      refine bodyPost_ret (v := .tuple #[.slice (some ⟨b, off, none⟩) (m + 1) cap, x5]) (by simp [results, Tryd.results24, go_sem]) rfl ⟨_, _, rfl, HP.out.turn ?_ (((Only.refl (fun k => k = bb) w1).setCell (p := ⟨bb, 5, none⟩) rfl _).setCell (p := ⟨bb, 6, none⟩) rfl _)⟩
      intro r2 q2 e2 x2 y2 hh
      have g1 := heap_setCell_same w1 bb 5 _ _ (.int .i64 (wrap64 (c.toNat : Int))) hh
      have g2 := heap_setCell_same _ bb 6 _ _ (.int .i64 (-1)) g1
      exact ⟨wrap64 (c.toNat : Int), -1, by simpa [cellsB] using g2⟩
end Go.Proofs.Qxb6613468aDoor
