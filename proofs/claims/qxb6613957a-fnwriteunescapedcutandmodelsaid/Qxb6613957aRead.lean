/-
  The walks of ZZnewTextBuilder (18), ZZwriteUnescaped (19), of the readers ZZbytes (22), ZZopen (23), ZZstart (24), ZZspanCount (25), and of the bound zzBytes (16).
-/
import Derived.Test.Qxb6613957aModel
namespace Go.Proofs.Qxb6613957a
open Go.RowKit

theorem bld_new {w : World} {B : Nat} {v : Value} {xs : List UInt8} {op : Bool} {st : Int} {cs : Array Value} (hown : w.ownsRow B 5 1 v xs.length (xs.map byteV)) (hB : B ≤ w.heap.size) (hc : cs[0]? = some v) :
    Bld ((w.alloc (.cells cs 50)).alloc (.cells #[.pointer (some ⟨w.heap.size, 0, none⟩), .slice none 0 0, .bool op, .int .i64 st, .bool false, .slice none 0 0] 53)) B w.heap.size (w.heap.size + 1) v xs op st := by
  have hlt := hown.lt
  have h1 : (w.alloc (.cells cs 50)).heap[w.heap.size]? = some (.cells cs 50 (0, 0)) := heap_alloc_new w _
  have h2 : ((w.alloc (.cells cs 50)).alloc (.cells #[.pointer (some ⟨w.heap.size, 0, none⟩), .slice none 0 0, .bool op, .int .i64 st, .bool false, .slice none 0 0] 53)).heap[w.heap.size]? = some (.cells cs 50 (0, 0)) :=
    (Below.heap_alloc _ _ _ (by simp)).trans h1
  have h3 : ((w.alloc (.cells cs 50)).alloc (.cells #[.pointer (some ⟨w.heap.size, 0, none⟩), .slice none 0 0, .bool op, .int .i64 st, .bool false, .slice none 0 0] 53)).heap[w.heap.size + 1]? = some (.cells #[.pointer (some ⟨w.heap.size, 0, none⟩), .slice none 0 0, .bool op, .int .i64 st, .bool false, .slice none 0 0] 53 (0, 0)) := by
    have := heap_alloc_new (w.alloc (.cells cs 50)) (.cells #[.pointer (some ⟨w.heap.size, 0, none⟩), .slice none 0 0, .bool op, .int .i64 st, .bool false, .slice none 0 0] 53)
    rw [World.size_alloc] at this
    exact this
  refine ⟨hB, by omega, by omega, by simp; omega, by simp, ?_, ?_, ?_, ?_, ?_, ?_, ?_, ?_, (hown.alloc _).alloc _, ?_, ?_⟩
  · rw [cell_of_row _ _ _ _ _ _ h3]; rfl
  · rw [cell_of_row _ _ _ _ _ _ h3]; rfl
  · rw [cell_of_row _ _ _ _ _ _ h3]; rfl
  · rw [cell_of_row _ _ _ _ _ _ h3]; rfl
  · exact frozen_of_row _ _ _ _ _ h3
  · exact frozen_of_row _ _ _ _ _ h3
  · rw [cell_of_row _ _ _ _ _ _ h2]; exact hc
  · exact frozen_of_row _ _ _ _ _ h2
  · intro e; have := (hlt _ e).2; omega
  · intro e; have := (hlt _ e).2; omega

set_option maxHeartbeats 1000000 in
theorem new_any (B : Nat) (v : Value) (xs : List UInt8) (op : Bool) (st : Int) (w : World) (hown : w.ownsRow B 5 1 v xs.length (xs.map byteV)) (hB : B ≤ w.heap.size) :
    Calls Try.prog 18 #[v, .bool op, .int .i64 st] w fun e w' => ∃ C T, e = .returned (.pointer (some ⟨T, 0, none⟩)) ∧ Bld w' B C T v xs op st ∧ w.heap.size ≤ C ∧ w.heap.size ≤ T ∧ Below w.heap.size w w' := by
  obtain ⟨a, cap, rfl⟩ := ownsRow_slice hown
  have HO : Hid _ := hown
  clear hown
  go_enter Try.func18, Try.ntmps18
  go_wp2
  go_ret
  exact ⟨w.heap.size, w.heap.size + 1, rfl, bld_new HO.out hB rfl, Nat.le_refl _, by omega, ((Below.refl _ w).alloc (Nat.le_refl _) _).alloc (by simp) _⟩

set_option maxHeartbeats 400000 in
theorem zzwrite_any (B C T : Nat) (v : Value) (xs : List UInt8) (op : Bool) (st : Int) (lit : ByteArray) (q : Bool) (w : World) (h : Bld w B C T v xs op st) (hx : xs.length ≤ 5000000) (hl : lit.size ≤ 1048576) :
    Calls Try.prog 19 #[.pointer (some ⟨T, 0, none⟩), .string lit, .bool q] w fun e w' => e = .returned (.tuple #[]) ∧
      ∃ v', Bld w' B C T v' (xs ++ unesc q (bytesOf lit)) (opAft op lit.size) (stAft op st xs.length lit.size) ∧ Below B w w' := by
  have hc := write_any B C T v xs op st lit q w h hx hl
  have HC : Hid _ := hc
  clear hc h hx hl
  go_enter Try.func19, Try.ntmps19
  go_wp2_with fail
  refine Calls.mono HC.out ?_
  rintro e w1 ⟨rfl, v', hb1, hl1⟩
  have HB : Hid _ := hb1
  have HL : Hid _ := hl1
  clear hb1 hl1
  go_wp2_with fail
  go_end0
  exact ⟨rfl, v', HB.out, HL.out⟩

set_option maxHeartbeats 400000 in
theorem bytes_any (B C T : Nat) (v : Value) (xs : List UInt8) (op : Bool) (st : Int) (w : World) (h : Bld w B C T v xs op st) :
    Calls Try.prog 22 #[.pointer (some ⟨T, 0, none⟩)] w fun e w' => e = .returned v ∧ w = w' := by
  obtain ⟨a, cap, rfl⟩ := ownsRow_slice h.own
  have t0 := h.t0
  have c0 := h.c0
  clear h
  go_enter Try.func22, Try.ntmps22
  go_wp2
  go_ret
  exact ⟨rfl, rfl⟩

set_option maxHeartbeats 400000 in
theorem open_any (B C T : Nat) (v : Value) (xs : List UInt8) (op : Bool) (st : Int) (w : World) (h : Bld w B C T v xs op st) :
    Calls Try.prog 23 #[.pointer (some ⟨T, 0, none⟩)] w fun e w' => e = .returned (.bool op) ∧ w = w' := by
  have t2 := h.t2
  clear h
  go_enter Try.func23, Try.ntmps23
  go_wp2
  go_ret
  exact ⟨rfl, rfl⟩

set_option maxHeartbeats 400000 in
theorem start_any (B C T : Nat) (v : Value) (xs : List UInt8) (op : Bool) (st : Int) (w : World) (h : Bld w B C T v xs op st) :
    Calls Try.prog 24 #[.pointer (some ⟨T, 0, none⟩)] w fun e w' => e = .returned (.int .i64 st) ∧ w = w' := by
  have t3 := h.t3
  clear h
  go_enter Try.func24, Try.ntmps24
  go_wp2
  go_ret
  exact ⟨rfl, rfl⟩

set_option maxHeartbeats 400000 in
theorem spans_any (B C T : Nat) (v : Value) (xs : List UInt8) (op : Bool) (st : Int) (w : World) (h : Bld w B C T v xs op st) :
    Calls Try.prog 25 #[.pointer (some ⟨T, 0, none⟩)] w fun e w' => e = .returned (.int .i64 0) ∧ w = w' := by
  have t1 := h.t1
  clear h
  go_enter Try.func25, Try.ntmps25
  go_wp2
  go_ret
  exact ⟨rfl, rfl⟩

set_option maxHeartbeats 400000 in
theorem zb16_yes (a : Option Addr) (n cap : Nat) (op : Bool) (st : Int) (lit : ByteArray) (cut : Int) (q : Bool) (w : World) (h : n + lit.size ≤ 1048576) :
    Calls Try.prog 16 #[.slice a n cap, .bool op, .int .i64 st, .string lit, .int .i64 cut, .bool q] w fun e w' => e = .returned (.bool true) ∧ w = w' := by
  go_enter Try.func16, Try.ntmps16
  go_wp2
  go_ret
  exact ⟨rfl, rfl⟩

set_option maxHeartbeats 400000 in
theorem zb16_no (a : Option Addr) (n cap : Nat) (op : Bool) (st : Int) (lit : ByteArray) (cut : Int) (q : Bool) (w : World) (h : 1048576 < n + lit.size) (hn : n ≤ maxLen) (hl : lit.size ≤ maxLen) :
    Calls Try.prog 16 #[.slice a n cap, .bool op, .int .i64 st, .string lit, .int .i64 cut, .bool q] w fun e w' => e = .returned (.bool false) ∧ w = w' := by
  unfold maxLen at hn hl
  go_enter Try.func16, Try.ntmps16
  go_wp2
  all_goals
    go_ret
    exact ⟨rfl, rfl⟩

end Go.Proofs.Qxb6613957a
