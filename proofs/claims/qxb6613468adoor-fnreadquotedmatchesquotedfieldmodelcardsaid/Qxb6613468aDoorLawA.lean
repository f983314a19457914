/-
  For the law FnReadQuotedLineBreakJoinsNextLine (4): the error read off (11), ZZreadQuoted (8), zzBytes (13), []byte(b).
-/
import Derived.Test.Qxb6613468aDoorQu
import Derived.Test.Qxb6613468aDoorNew
import Derived.Lib.ConvBytes

namespace Go.Proofs.Qxb6613468aDoor
open Go.RowKit

set_option maxHeartbeats 1000000 in
theorem errof_line (p : Nat) (st : Int) (a0 : Addr) (w : World) (h0 : w.cell? ⟨p, 0, none⟩ = some (.int .i64 st)) (h1 : w.cell? ⟨p, 1, none⟩ = some (I a0)) (hg : w.cell? ⟨0, 0, none⟩ = some (I a0)) :
    Calls Tryd.prog 11 #[.iface 49 (.pointer (some ⟨p, 0, none⟩))] w fun e w' => e = .returned (.tuple #[.int .i64 st, .bool true, .bool true]) ∧ ∃ n, w.drewN n = w' := by
  have hta : (Instr.typeAssert (.iface 49 (.pointer (some ⟨p, 0, none⟩))) 29 49 true).run Tryd.prog w = .ok (.tuple #[.pointer (some ⟨p, 0, none⟩), .bool true]) w := by kernel_rfl
  have sm : ∀ n, (binOp .eql 29 (I a0) (I a0)).run Tryd.prog (w.drewN n) = .ok (.bool true) (w.drewN n) := fun n => eq_same a0 _
  go_enter Tryd.func11, Tryd.ntmps11
  go_wp2_with fail
  go_quiet (fail)
  go_wp2_with fail
  exact bodyPost_ret (v := .tuple #[.int .i64 st, .bool true, .bool true]) (by simp [results, Tryd.results11, go_sem]) rfl ⟨rfl, nq, rfl⟩

set_option maxHeartbeats 1000000 in
theorem zq_any (w : World) (B cb bb sb rb : Nat) (s : ByteArray) (st : Int) (rem L : List UInt8) (v vl : Value) (a0 a1 a2 : Addr) (h : CR w B cb bb sb rb s 0 st [] rem (.slice none 0 0) vl) (hS : Sen w B a0 a1 a2) (hB : B ≤ w.heap.size) (hrl : rem.length ≤ 1048576) (hL : L.length ≤ 1048576) (hr : RowB w v L) (ha : Apart v (.slice none 0 0) cb w) :
    Calls Tryd.prog 8 #[.pointer (some ⟨cb, 0, none⟩), v] w fun e w' => Below B w w' ∧ Ends w' B st a0 (rq L rem).2.1 e ∧ ∃ rem' vt' vl', CR w' B cb bb sb rb s ((rq L rem).2.2 : Nat) st (rq L rem).1 rem' vt' vl' := by
  have hq := quoted_any w B cb bb sb rb s st rem L v vl a0 a1 a2 h hS hB hrl hL hr ha
  obtain ⟨av, cv, rfl⟩ := hr.slice
  have HQ : Hid _ := hq
  clear hq h hS hr ha
  go_enter Tryd.func8, Tryd.ntmps8
  go_wp2_with fail
  refine Calls.mono HQ.out ?_
  rintro e w' ⟨hb, he, hc⟩
  have H : Hid _ := And.intro hb hc
  rcases he with ⟨tl, v', ho, rfl, hr'⟩ | ⟨ho, p, hp, rfl, h0, h1⟩
  · have HE : Hid _ := And.intro ho hr'
    clear hb hc ho hr'
    go_wp2_with fail
    exact bodyPost_ret (v := .tuple #[v', .nilIface]) (by simp [results, Tryd.results8, go_sem]) rfl ⟨H.out.1, .inl ⟨tl, v', HE.out.1, rfl, HE.out.2⟩, H.out.2⟩
  · have HE : Hid _ := And.intro ho (And.intro hp (And.intro h0 h1))
    clear hb hc ho hp h0 h1
    go_wp2_with fail
    exact bodyPost_ret (v := .tuple #[.slice none 0 0, .iface 49 (.pointer (some ⟨p, 0, none⟩))]) (by simp [results, Tryd.results8, go_sem]) rfl ⟨H.out.1, .inr ⟨HE.out.1, p, HE.out.2.1, rfl, HE.out.2.2.1, HE.out.2.2.2⟩, H.out.2⟩

set_option maxHeartbeats 2000000 in
theorem zb13_any (a : Option Addr) (n cap : Nat) (b c : ByteArray) (st : Int) (w : World) (hn : n ≤ maxLen) (hb : b.size ≤ maxLen) (hc : c.size ≤ maxLen) :
    Calls Tryd.prog 13 #[.slice a n cap, .string b, .string c, .int .i64 st] w fun e w' => (∃ x, e = .returned (.bool x)) ∧ w = w' := by
  unfold maxLen at hn hb hc
  go_enter Tryd.func13, Tryd.ntmps13
  go_wp2
  all_goals
    go_ret
    exact ⟨⟨_, rfl⟩, rfl⟩

/-- '[]byte(b)'. -/
theorem bytes_new (b : ByteArray) (w : World) : ∃ cap w', (convert 9 22 (.string b)).run Tryd.prog w = .ok (.slice (some ⟨w.heap.size, 0, none⟩) b.size cap) w' ∧ RowB w' (.slice (some ⟨w.heap.size, 0, none⟩) b.size cap) (bytesOf b) ∧ Below w.heap.size w w' ∧ w'.heap.size = w.heap.size + 1 := by
  refine ⟨_, _, Lib.run_convert_string_bytes w 9 22 5 b Tryd.underlying9 Tryd.underlying22 Tryd.underlying5, ?_, ⟨rfl, rfl, rfl, by rw [Lib.bytesWorld_size]; omega, fun k hk => Lib.bytesWorld_at_old w 5 b k hk⟩, Lib.bytesWorld_size w 5 b⟩
  refine .inr ⟨w.heap.size, 0, _, by rw [bytesOf_size], ?_, _, _, Lib.bytesWorld_at_new w 5 b, fun i hi => ?_⟩
  · rw [bytesOf_size]
    exact grownCap_ge _ _ _ _
  · have hi' : i < b.size := by rw [bytesOf_size] at hi; exact hi
    have h := Lib.bytesWorld_cell w 5 b i hi'
    rw [cell_of_row _ w.heap.size i _ _ _ (Lib.bytesWorld_at_new w 5 b)] at h
    have e : b.data.toList.getD i 0 = (bytesOf b)[i] := by
      unfold bytesOf
      rw [List.getD_eq_getElem?_getD, List.getElem?_eq_getElem (by exact hi)]
      rfl
    rw [Nat.zero_add, h, e]
    rfl

end Go.Proofs.Qxb6613468aDoor
