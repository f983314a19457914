/-
  strings.Lines (15) and its iterator (24): a range over it hands out the lines of the text, one a round.
-/
import Derived.RangeFuncNested
import Derived.RangeFuncBound
import Derived.RangeFuncCalls
import Derived.RangeFuncLeaves
import Derived.Shelf.Abstract
import Derived.Shelf.RegionOpen
import Derived.WalkKit
import Derived.OwnWalkIn
import Derived.TacticsInMore
import Derived.LoopNIn
import Derived.LoopIn
import Derived.BigRegionIn
import Derived.Test.Qxb6612439aMem
import Derived.Test.Qxb6612439aShelf
namespace Go.Proofs.Qxb6612439a
open Go.RowKit Go.Shelf
attribute [local go_sem] Oper.semAt_some

set_option maxHeartbeats 400000 in
theorem lines_any (s : ByteArray) (w : World) :
    Calls Try.prog 15 #[.string s] w fun e w' => e = .returned (.func (.func 24) #[] #[.pointer (some ⟨w.heap.size, 0, none⟩)]) ∧ w.alloc (.cells #[.string s] 9) = w' := by
  go_enter Try.func15, Try.ntmps15
  go_wp2
  go_ret
  exact ⟨rfl, rfl⟩

/-- How many bytes are still to come, read off the iterator's own cell. -/
def cellLen (Bs : Nat) (W : World) : Nat := match W.cell? ⟨Bs, 0, none⟩ with | some (.string r) => r.size | _ => 0
theorem cellLen_eq {Bs : Nat} {W : World} {r : ByteArray} (h : W.cell? ⟨Bs, 0, none⟩ = some (.string r)) : cellLen Bs W = r.size := by unfold cellLen; rw [h]

/-- What the iterator still holds, and what has come. -/
def Left (s : ByteArray) (pre : List ByteArray) (r : ByteArray) : Prop := pre.map bytesOf ++ splitL (bytesOf r) = splitL (bytesOf s) ∧ r.size ≤ s.size

theorem Left.cut {s r : ByteArray} {pre : List ByteArray} {o : Nat} (h : Left s pre r) (ho : Lib.indexByte (bytesOf r) 10 = (o : Int)) : o < r.size ∧ Left s (pre ++ [r.extract 0 (o + 1)]) (r.extract (o + 1) r.size) := by
  obtain ⟨h1, h2⟩ := Lib.indexByte_some ho
  have hlt : o < r.size := by
    rcases Nat.lt_or_ge o r.size with c | c
    · exact c
    · rw [List.getElem?_eq_none (by rw [bytesOf_size]; exact c)] at h1; cases h1
  refine ⟨hlt, ?_, by rw [ByteArray.size_extract]; have := h.2; omega⟩
  rw [← h.1, List.map_append, List.append_assoc]
  congr 1
  have hg : r[o] = 10 := by
    rw [List.getElem?_eq_getElem (by rw [bytesOf_size]; exact hlt)] at h1
    exact Option.some.inj h1
  have e : bytesOf r = (bytesOf r).take o ++ 10 :: (bytesOf r).drop (o + 1) := by
    have := List.take_append_drop o (bytesOf r)
    rw [drop_cons r o hlt, hg] at this
    exact this.symm
  conv => rhs; rw [e]
  rw [splitL_cut]
  · simp only [List.map_cons, List.map_nil, List.singleton_append]
    rw [bytes_take, take_succ r o hlt, hg, bytes_drop]
  · intro x hx
    obtain ⟨j, hj, rfl⟩ := List.mem_iff_getElem.1 hx
    rw [List.length_take] at hj
    rw [List.getElem_take]
    intro e
    exact h2 j (by omega) (by rw [List.getElem?_eq_getElem (by rw [bytesOf_size]; omega), e])

theorem Left.last {s r : ByteArray} {pre : List ByteArray} (h : Left s pre r) (h0 : 0 < r.size) (ho : Lib.indexByte (bytesOf r) 10 = -1) : Left s (pre ++ [r]) ByteArray.empty := by
  have hn := Lib.indexByte_none ho
  refine ⟨?_, by simp⟩
  rw [← h.1, List.map_append, List.append_assoc]
  congr 1
  rw [splitL_last (bytesOf r)]
  · simp [bytesOf, splitL]
  · intro e; have := bytesOf_size r; rw [e] at this; simp at this; omega
  · intro x hx
    obtain ⟨j, hj, rfl⟩ := List.mem_iff_getElem.1 hx
    intro e
    exact hn j (by rw [List.getElem?_eq_getElem hj, e])

/-- How many lines have come, and how long the newest is. -/
theorem Left.bounds {s r x : ByteArray} {pre : List ByteArray} (h : Left s (pre ++ [x]) r) : pre.length + 1 ≤ s.size ∧ x.size ≤ s.size := by
  have h1 := congrArg List.length h.1
  have h2 := splitL_length (bytesOf s)
  rw [bytesOf_size] at h2
  have h3 := congrArg (fun l => l.flatten.length) h.1
  simp only [splitL_join, bytesOf_size] at h3
  simp [bytesOf_size] at h1 h3
  exact ⟨by omega, by omega⟩

theorem grown_set (w : World) (B : Nat) (u : Value) : w.grownBy (w.setCell ⟨B, 0, none⟩ u) (some B) :=
  ⟨rfl, rfl, rfl, by simp, fun k _ hk => Below.heap_setCell w ⟨B, 0, none⟩ u k (fun e => hk (by rw [e]))⟩
theorem grown_set_drew (w : World) (B : Nat) (u : Value) : w.grownBy (w.setCell ⟨B, 0, none⟩ u).drew (some B) :=
  ⟨rfl, rfl, rfl, by simp, fun k _ hk => Below.heap_setCell w ⟨B, 0, none⟩ u k (fun e => hk (by rw [e]))⟩

set_option maxRecDepth 100000 in
set_option maxHeartbeats 1000000 in
theorem lines1_in (n : Nat) (l Bs : Nat) (s : ByteArray) (J : List ByteArray → World → Prop) (hs : s.size ≤ 1048576)
    (hJ : ∀ pre W W', J pre W → W.grownBy W' (some Bs) → J pre W')
    (hY : ∀ pre x W, (∃ r, Left s (pre ++ [x]) r) → J pre W → YieldAt Fence.wide (n - 1) Try.prog l #[.string x] W fun e W' =>
      e = .returned (.bool true) ∧ J (pre ++ [x]) W' ∧ W'.cell? ⟨Bs, 0, none⟩ = W.cell? ⟨Bs, 0, none⟩ ∧ W'.frozen? ⟨Bs, 0, none⟩ = W.frozen? ⟨Bs, 0, none⟩)
    (W : World) (hc : W.cell? ⟨Bs, 0, none⟩ = some (.string s)) (hf : W.frozen? ⟨Bs, 0, none⟩ = false) (h0 : J [] W) :
    CallsIn Fence.wide n Try.prog 24 #[.func (.yield l) #[] #[], .pointer (some ⟨Bs, 0, none⟩)] W fun e W' => (∃ v, e = .returned v) ∧
      ∃ xs : List ByteArray, xs.map bytesOf = splitL (bytesOf s) ∧ J xs W' := by
  have HJ : Hid (∀ pre W W', J pre W → W.grownBy W' (some Bs) → J pre W') := hJ
  have HY : Hid (∀ pre x W, (∃ r, Left s (pre ++ [x]) r) → J pre W → YieldAt Fence.wide (n - 1) Try.prog l #[.string x] W fun e W' =>
      e = .returned (.bool true) ∧ J (pre ++ [x]) W' ∧ W'.cell? ⟨Bs, 0, none⟩ = W.cell? ⟨Bs, 0, none⟩ ∧ W'.frozen? ⟨Bs, 0, none⟩ = W.frozen? ⟨Bs, 0, none⟩) := hY
  clear hJ hY
  refine callsIn_of_wp Try.func24 rfl trivial ?_ rfl
  simp only [Try.ntmps24, List.size_toArray, List.length_cons, List.length_nil, Nat.reduceAdd, Nat.reduceSub, Array.replicate_succ, Array.replicate_zero, List.push_toArray, List.append_toArray, List.nil_append, List.cons_append]
  gi_wp2
  gi_loopw [3] (fun _ wr => ∃ (pre : List ByteArray) (r : ByteArray), wr.cell? ⟨Bs, 0, none⟩ = some (.string r) ∧ wr.frozen? ⟨Bs, 0, none⟩ = false ∧ Hid (Left s pre r) ∧ Hid (J pre wr)) (fun _ wr => cellLen Bs wr)
  case atStart => exact ⟨[], s, hc, hf, ⟨rfl, Nat.le_refl _⟩, h0⟩
  case round =>
    obtain ⟨pre, r, hc1, hf1, HL, HJ1⟩ := hrel
    clear hc hf h0
    have hrs : r.size ≤ s.size := HL.out.2
    have hlen := cellLen_eq hc1
    have HLen : Hid _ := hlen
    clear hlen
    by_cases hz : 0 < r.size
    · have hcon := fun W => callsIn_wide (n := n - 1) |>.2 (Try.strings_IndexByte r 10 W)
      obtain ⟨ix, hix⟩ : ∃ ix, Lib.indexByte (bytesOf r) 10 = ix := ⟨_, rfl⟩
      have hcon2 : ∀ W, CallsIn Fence.wide (n - 1) Try.prog 25 #[.string r, .int .u8 10] W fun e w' => e = .returned (.int .i64 ix) ∧ W = w' := by
        intro W
        rw [← hix]
        exact (hcon W).mono fun e w' h => ⟨h.1, h.2.symm⟩
      have HC : Hid (∀ W, CallsIn Fence.wide (n - 1) Try.prog 25 #[.string r, .int .u8 10] W fun e w' => e = .returned (.int .i64 ix) ∧ W = w') := hcon2
      have HI : Hid _ := hix
      have hge : -1 ≤ ix := by rw [← hix]; exact Lib.indexByte_ge _ _
      clear hcon hcon2 hix
      by_cases hi : 0 ≤ ix
      · obtain ⟨o, rfl⟩ := Int.eq_ofNat_of_zero_le hi
        obtain ⟨hol, HL2⟩ := HL.out.cut HI.out
        gi_wp2_with fail
        refine ⟨trivial, (fun h => by cases h), ?_⟩
        refine (HC.out _).mono ?_
        rintro e w' ⟨rfl, rfl⟩
        have b1 : (0 : Int) ≤ (o : Int) + 1 := by omega
        have b2 : (o : Int) + 1 ≤ (r.size : Int) := by omega
        gi_wp2_with fail
        gi_region
        have hq1 : ((wr.setCell ⟨Bs, 0, none⟩ (.string (r.extract (o + 1) r.size))).drew).cell? ⟨Bs, 0, none⟩ = some (.string (r.extract (o + 1) r.size)) := World.cell?_setCell_same _ _ _ hc1
        have hq2 : ((wr.setCell ⟨Bs, 0, none⟩ (.string (r.extract (o + 1) r.size))).drew).frozen? ⟨Bs, 0, none⟩ = false := (World.frozen?_setCell ..).trans hf1
        obtain ⟨fn, tmps, assign, body, hy, hR⟩ := HY.out pre (r.extract 0 (o + 1)) (wr.setCell ⟨Bs, 0, none⟩ (.string (r.extract (o + 1) r.size))).drew ⟨_, HL2⟩ (HJ.out pre wr _ HJ1.out (grown_set_drew wr Bs _))
        gi_wp2_with fail
        refine ⟨(fun h => by cases h), ?_⟩
        refine hR.mono ?_
        rintro e W3 ⟨rfl, hJ3, hk3, hk4⟩
        have hJ4 : Hid (J (pre ++ [r.extract 0 (o + 1)]) W3) := hJ3
        have hc3 : W3.cell? ⟨Bs, 0, none⟩ = some (.string (r.extract (o + 1) r.size)) := hk3.trans hq1
        have hf3 : W3.frozen? ⟨Bs, 0, none⟩ = false := hk4.trans hq2
        clear hJ3 hk3 hk4 hq1 hq2 hy hR
        gi_wp2_with fail
        go_roundw
        case rel => exact ⟨_, _, hc3, hf3, HL2, hJ4⟩
        case measure => rw [cellLen_eq hc3, HLen.out, ByteArray.size_extract]; omega
      · have HL2 := HL.out.last hz (by rw [HI.out]; omega)
        gi_wp2_with fail
        refine ⟨trivial, (fun h => by cases h), ?_⟩
        refine (HC.out _).mono ?_
        rintro e w' ⟨rfl, rfl⟩
        have hq1 : (wr.setCell ⟨Bs, 0, none⟩ (.string ⟨#[]⟩)).cell? ⟨Bs, 0, none⟩ = some (.string ⟨#[]⟩) := World.cell?_setCell_same _ _ _ hc1
        have hq2 : (wr.setCell ⟨Bs, 0, none⟩ (.string ⟨#[]⟩)).frozen? ⟨Bs, 0, none⟩ = false := (World.frozen?_setCell ..).trans hf1
        obtain ⟨fn, tmps, assign, body, hy, hR⟩ := HY.out pre r (wr.setCell ⟨Bs, 0, none⟩ (.string ⟨#[]⟩)) ⟨_, HL2⟩ (HJ.out pre wr _ HJ1.out (grown_set wr Bs _))
        gi_wp2_with fail
        refine ⟨(fun h => by cases h), ?_⟩
        refine hR.mono ?_
        rintro e W3 ⟨rfl, hJ3, hk3, hk4⟩
        have hJ4 : Hid (J (pre ++ [r]) W3) := hJ3
        have hc3 : W3.cell? ⟨Bs, 0, none⟩ = some (.string ⟨#[]⟩) := hk3.trans hq1
        have hf3 : W3.frozen? ⟨Bs, 0, none⟩ = false := hk4.trans hq2
        clear hJ3 hk3 hk4 hq1 hq2 hy hR
        gi_wp2_with fail
        go_roundw
        case rel => exact ⟨_, _, hc3, hf3, HL2, hJ4⟩
        case measure => rw [cellLen_eq hc3, HLen.out]; exact hz
    · gi_wp2
      go_end0
      refine ⟨⟨_, rfl⟩, pre, ?_, HJ1.out⟩
      have := HL.out.1
      have e : bytesOf r = [] := List.eq_nil_of_length_eq_zero (by rw [bytesOf_size]; omega)
      rw [e] at this
      simpa [splitL] using this

end Go.Proofs.Qxb6612439a
