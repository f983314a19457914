/-
  The sentinels of a call that meets the rows' listed variables: they lie as the readers' walks ask it. And a slice of bytes that came in.
-/
import Derived.Test.Qxb6613468aDoorRows
import Derived.Test.Qxb6613468aDoorBase
import Derived.WalkKit
import Derived.ProofKit
import Derived.OpenShut
import Derived.ShutString
import Derived.ChangeOld
import Derived.Below
import Derived.LaidLaws
namespace Go.Proofs.Qxb6613468aDoor
open Go.ChangeShapes Go.WideShapes Go.ChangeAt Go.RowKit

theorem own : ownKnob Tryd.prog.godebug = none := by kernel_rfl
theorem laidOut : laidOutB Tryd.prog = true := by kernel_rfl
theorem gEof : Tryd.prog.globalNamed "io.EOF" = some 1 := by kernel_rfl
theorem gQuote : Tryd.prog.globalNamed "encoding/csv.ErrQuote" = some 0 := by kernel_rfl
theorem gFull : Tryd.prog.globalNamed "bufio.ErrBufferFull" = some 2 := by kernel_rfl
theorem tEof : (Tryd.prog.globals[1]?).map (·.type) = some 29 := by kernel_rfl
theorem tQuote : (Tryd.prog.globals[0]?).map (·.type) = some 29 := by kernel_rfl
theorem tFull : (Tryd.prog.globals[2]?).map (·.type) = some 29 := by kernel_rfl
theorem cells90 : Tryd.prog.cellsOf 90 = 1 := by kernel_rfl
theorem cells9 : Tryd.prog.cellsOf 9 = 1 := by kernel_rfl
theorem star : "*" ++ "errors.errorString" = "*errors.errorString" := by decide
theorem row70 (u : TypeId) (h : Tryd.prog.typeName? 3 u = some "*errors.errorString") : u = 70 :=
  typeName_ptr_named (nm := "errors.errorString") (by rw [star]; kernel_rfl) (by kernel_rfl) (by decide) u (by rw [star]; exact h)

def laidList : List (String × DataW Unit) := [("io.EOF", Rows.laid_io_EOF), ("io.ErrNoProgress", Rows.laid_io_ErrNoProgress), ("bufio.ErrBufferFull", Rows.laid_bufio_ErrBufferFull), ("bufio.errNegativeRead", Rows.laid_bufio_errNegativeRead), ("encoding/csv.ErrQuote", Rows.laid_encoding_csv_ErrQuote)]

theorem sen_of_laid {W : World} (h : laidMet Tryd.prog laidList W) : ∃ a0 a1 a2 : Addr, Sen W W.heap.size a0 a1 a2 := by
  obtain ⟨ps, ⟨g1, t1, cs1, f1, p1, q1, hg1, ht1, hv1, hd1, ⟨g3, t3, cs3, f3, p3, q3, hg3, ht3, hv3, hd3, ⟨g2, t2, cs2, f2, p2, q2, hg2, ht2, hv2, hd2, ⟨g4, t4, cs4, f4, p4, q4, hg4, ht4, hv4, hd4, ⟨g0, t0, cs0, f0, p0, q0, hg0, ht0, hv0, hd0, hq0, e0⟩, e4⟩, e2⟩, e3⟩, e1⟩, hnd, hrows⟩ := h
  obtain rfl := Option.some.inj (gEof.symm.trans hg1)
  obtain rfl := Option.some.inj (gFull.symm.trans hg2)
  obtain rfl := Option.some.inj (gQuote.symm.trans hg0)
  obtain rfl := Option.some.inj (tEof.symm.trans ht1)
  obtain rfl := Option.some.inj (tFull.symm.trans ht2)
  obtain rfl := Option.some.inj (tQuote.symm.trans ht0)
  have hq0' : q0 = [] := hq0
  subst hq0'
  subst e0
  subst e4
  subst e2
  subst e3
  subst e1
  clear hd3 hd4
  obtain ⟨l0⟩ := cs0
  obtain ⟨l1⟩ := cs1
  obtain ⟨l2⟩ := cs2
  have ok0 : ∀ u v, l0 = [.iface u v] → Value.okWide Tryd.prog W .any 0 u v := fun u v e => by
    subst e
    exact (hrows 0 0 (by simp [MemPlace.row])).2 u v (by simpa using World.var?_cell hg0 hv0 0)
  have ok1 : ∀ u v, l1 = [.iface u v] → Value.okWide Tryd.prog W .any 0 u v := fun u v e => by
    subst e
    exact (hrows 1 0 (by simp [MemPlace.row])).2 u v (by simpa using World.var?_cell hg1 hv1 0)
  have ok2 : ∀ u v, l2 = [.iface u v] → Value.okWide Tryd.prog W .any 0 u v := fun u v e => by
    subst e
    exact (hrows 2 0 (by simp [MemPlace.row])).2 u v (by simpa using World.var?_cell hg2 hv2 0)
  obtain ⟨a0, s0, rfl, hc0, hs0, hz0, rfl⟩ := errorString_of_trod Tryd.underlying29 row70 Tryd.underlying70 Tryd.underlying90 rfl rfl Tryd.underlying9 cells90 cells9 hd0 ok0
  obtain ⟨a1, s1, rfl, hc1, hs1, hz1, rfl⟩ := errorString_of_trod Tryd.underlying29 row70 Tryd.underlying70 Tryd.underlying90 rfl rfl Tryd.underlying9 cells90 cells9 hd1 ok1
  obtain ⟨a2, s2, rfl, hc2, hs2, hz2, rfl⟩ := errorString_of_trod Tryd.underlying29 row70 Tryd.underlying70 Tryd.underlying90 rfl rfl Tryd.underlying9 cells90 cells9 hd2 ok2
  obtain ⟨c0, u0, hb0⟩ := (hrows a0.block a0.off (by simp [MemPlace.row])).1
  obtain ⟨c1, u1, hb1⟩ := (hrows a1.block a1.off (by simp [MemPlace.row])).1
  obtain ⟨c2, u2, hb2⟩ := (hrows a2.block a2.off (by simp [MemPlace.row])).1
  have hk : ∀ (k : Nat) o, W.heap[k]? = some o → k < W.heap.size := fun k o e => (Array.getElem?_eq_some_iff.1 e).1
  have hk2 : W.cell? ⟨2, 0, none⟩ = some (.iface 70 (.pointer (some a2))) := by simpa using World.var?_cell hg2 hv2 0
  refine ⟨a0, a1, a2, by simpa using World.var?_cell hg0 hv0 0, by simpa using World.var?_cell hg1 hv1 0, hk2, ⟨c0, u0, hb0⟩, ⟨c1, u1, hb1⟩, ⟨c2, u2, hb2⟩, ?_, ?_, World.block_lt_of_cell? W _ hk2, hk _ _ hb0, hk _ _ hb1, hk _ _ hb2⟩
  · rintro rfl
    simp [MemPlace.row, List.nodup_append] at hnd
  · rintro rfl
    simp [MemPlace.row, List.nodup_append] at hnd

/-- WHAT THE WALK IS TOLD OF A SLICE OF BYTES THAT CAME IN: nil, or its cells. -/
def IsBytes (w : World) (a : Option Addr) (len cap : Nat) (la : List UInt8) : Prop :=
  la.length = len ∧ len ≤ maxLen ∧ ((a = none ∧ len = 0 ∧ cap = 0) ∨ ∃ x, a = some x ∧ ∀ i (h : i < la.length), w.cell? (x.add i) = some (.int .u8 (la[i].toNat : Int)))

theorem bounds_u8 {z : Int} (h : (Lit.int .u8 z).wf = true) : 0 ≤ z ∧ z < 256 := by
  simp [Lit.wf, IntKind.min, IntKind.max, IntKind.signed, IntKind.bits] at h
  omega

theorem bytes_of {w : World} {x : Addr} {len cap : Nat} {zs : List Int} (hlc : len ≤ cap) (hcm : cap ≤ maxLen) (hz : zs.length = cap) (hcell : ∀ i, i < zs.length → w.cell? (x.add i) = some (.int .u8 (zs.getD i 0))) (hwf : ∀ n ∈ zs, (Lit.int .u8 n).wf = true) :
    IsBytes w (some x) len cap ((zs.take len).map fun z => z.toNat.toUInt8) := by
  refine ⟨by simp; omega, by omega, .inr ⟨x, rfl, fun i hi => ?_⟩⟩
  have hi' : i < len := by simp at hi; omega
  have hiz : i < zs.length := by omega
  rw [hcell i hiz]
  have hb := bounds_u8 (hwf zs[i] (List.getElem_mem hiz))
  have e1 : zs.getD i 0 = zs[i] := by simp [hiz]
  have e2 : ((zs.take len).map (fun z => z.toNat.toUInt8))[i] = zs[i].toNat.toUInt8 := by simp
  rw [e1, e2]
  have e3 : (zs[i].toNat.toUInt8).toNat = zs[i].toNat := by simp; omega
  rw [e3]
  congr 2
  omega

end Go.Proofs.Qxb6613468aDoor
