/-
  (*csvReader).readQuoted (18).
-/
import Derived.Test.Qxb6613468aDoorRq
namespace Go.Proofs.Qxb6613468aDoor
open Go.RowKit

def sliceLen : Value → Nat
  | .slice _ n _ => n
  | _ => 0

/-- How a quoted field ends: what readQuoted hands back. -/
def Ends (w' : World) (B : Nat) (st : Int) (a0 : Addr) (o : Option (List UInt8)) (e : Ending) : Prop :=
  (∃ tl v, o = some tl ∧ e = .returned (.tuple #[v, .nilIface]) ∧ RowB w' v tl) ∨ (o = none ∧ ∃ p, B ≤ p ∧ e = .returned (.tuple #[.slice none 0 0, .iface 49 (.pointer (some ⟨p, 0, none⟩))]) ∧ w'.cell? ⟨p, 0, none⟩ = some (.int .i64 st) ∧ w'.cell? ⟨p, 1, none⟩ = some (I a0))

/-- The text's row and the line's row are two; neither is the reader's own block. -/
def Apart (v vt : Value) (cb : Nat) (w : World) : Prop := ∀ k, blockOf v = some k → vt.ownBlock ≠ some k ∧ k ≠ cb ∧ k < w.heap.size

theorem RowB.lt {w : World} {v : Value} {l : List UInt8} (h : RowB w v l) : ∀ k, blockOf v = some k → k < w.heap.size := by
  intro k e
  rcases h with ⟨rfl, _⟩ | ⟨b, off, cap, rfl, _, hin⟩
  · cases e
  · cases e; exact hin.lt

section
variable {w w1 : World} {B cb bb sb rb : Nat} {s : ByteArray} {ln st : Int} {text rem y L : List UInt8} {vt vl v' v : Value}
/-- Appending y to the text: the reader, the line, the rows behind it. -/
theorem CR.app (h : CR w B cb bb sb rb s ln st text rem vt vl) (ho : w1.ownsRow B 5 1 v' (text.length + y.length) (Lib.byteCells text ++ Lib.byteCells y)) (hg : w.grownBy w1 vt.ownBlock) (hv : v'.ownBlock = vt.ownBlock ∨ v'.ownBlock = some w.heap.size) (hB : B ≤ w.heap.size) (hr : RowB w v L) (ha : Apart v vt cb w) :
    CR (w1.setCell ⟨cb, 3, none⟩ v') B cb bb sb rb s ln st (text ++ y) rem v' vl ∧ Below B w (w1.setCell ⟨cb, 3, none⟩ v') ∧ RowB (w1.setCell ⟨cb, 3, none⟩ v') v L ∧ Apart v v' cb (w1.setCell ⟨cb, 3, none⟩ v') ∧ w1.cell? ⟨cb, 3, none⟩ = some vt ∧ w1.frozen? ⟨cb, 3, none⟩ = false := by
  rw [← Lib.byteCells_append, ← List.length_append] at ho
  obtain ⟨c1, c2, c3⟩ := h.push (t' := text ++ y) ho hg hv hB
  have on1 : Only (fun k => vt.ownBlock = some k) w w1 := (Only.refl _ w).grown hg (fun k e => e)
  have hc1 := on1.heap h.hc (fun e => (h.rowApart.1 cb e).1 rfl)
  refine ⟨c1, c2, hr.only c3 (fun k e hS => ?_), fun k e => ⟨fun e2 => ?_, (ha k e).2.1, Nat.lt_of_lt_of_le (ha k e).2.2 c3.size⟩, by rw [cell_of_row w1 cb 3 _ _ _ hc1]; rfl, free_of_row hc1⟩
  · rcases hS with e2 | e2
    · exact (ha k e).1 e2
    · exact (ha k e).2.1 e2
  · rcases hv with hv | hv
    · exact (ha k e).1 (hv.symm.trans e2)
    · have : k = w.heap.size := Option.some.inj (e2.symm.trans hv)
      have := (ha k e).2.2
      omega
theorem CR.alloc (h : CR w B cb bb sb rb s ln st text rem vt vl) (o : Obj) : CR (w.alloc o) B cb bb sb rb s ln st text rem vt vl :=
  h.only ((Only.refl (fun _ => False) w).alloc o) id id id id (fun _ _ => id) (fun _ _ => id)
theorem RowB.alloc (h : RowB w v L) (o : Obj) : RowB (w.alloc o) v L := h.only ((Only.refl (fun _ => False) w).alloc o) (fun _ _ => id)
theorem Apart.alloc (h : Apart v vt cb w) (o : Obj) : Apart v vt cb (w.alloc o) := fun k e => ⟨(h k e).1, (h k e).2.1, by simp; have := (h k e).2.2; omega⟩
theorem row_new (w : World) (c : UInt8) : RowB (w.alloc (.cells #[.int .u8 (c.toNat : Int)] 5)) (.slice (some ⟨w.heap.size, 0, none⟩) 1 1) [c] := .inr ⟨_, 0, 1, rfl, Nat.le_refl _, in_new w c⟩
end

theorem line_rest (rem : List UInt8) : (lineOf rem).length + (restOf rem).length ≤ rem.length := by
  unfold lineOf restOf
  have h := congrArg List.length (List.takeWhile_append_dropWhile (p := (· != (10 : UInt8))) (l := rem))
  rw [List.length_append] at h
  rw [List.length_drop]
  omega
theorem new_cell0 (w : World) (x y : Value) : (w.alloc (.cells #[x, y] 52)).drew.cell? ⟨w.heap.size, 0, none⟩ = some x := by
  show (w.alloc (.cells #[x, y] 52)).cell? _ = _
  rw [cell_of_row _ w.heap.size 0 _ _ _ (heap_alloc_new w _)]; rfl
theorem new_cell1 (w : World) (x y : Value) : (w.alloc (.cells #[x, y] 52)).drew.cell? ⟨w.heap.size, 1, none⟩ = some y := by
  show (w.alloc (.cells #[x, y] 52)).cell? _ = _
  rw [cell_of_row _ w.heap.size 1 _ _ _ (heap_alloc_new w _)]; rfl
theorem row_from {w : World} {b off n c : Nat} {l : List UInt8} (h : RowB w (.slice (some ⟨b, off, none⟩) n c) l) (k : Nat) (hk : k ≤ n) :
    ∃ off3, (if c = k then some (⟨b, off, none⟩ : Addr) else some ⟨b, off + k, none⟩) = some ⟨b, off3, none⟩ ∧ RowB w (.slice (some ⟨b, off3, none⟩) (n - k) (c - k)) (l.drop k) := by
  rcases h with ⟨h, _⟩ | ⟨b', off', c', h1, h2, h3⟩
  · cases h
  · simp only [Value.slice.injEq, Option.some.injEq, Addr.mk.injEq] at h1
    obtain ⟨⟨rfl, rfl, _⟩, rfl, rfl⟩ := h1
    have hl : (l.drop k).length = l.length - k := List.length_drop
    by_cases e : c = k
    · refine ⟨off, by rw [if_pos e], .inr ⟨b, off, c - k, by rw [hl], by omega, ?_⟩⟩
      have h0 := h3.take 0
      have : l.drop k = [] := List.drop_eq_nil_of_le (by omega)
      rw [this]
      simpa using h0
    · exact ⟨off + k, by rw [if_neg e], .inr ⟨b, off + k, c - k, by rw [hl], by omega, h3.drop k⟩⟩
theorem row_to {w : World} {b off n c : Nat} {l : List UInt8} (h : RowB w (.slice (some ⟨b, off, none⟩) n c) l) (k : Nat) (hk : k ≤ n) : RowB w (.slice (some ⟨b, off, none⟩) k c) (l.take k) := by
  rcases h with ⟨h, _⟩ | ⟨b', off', c', h1, h2, h3⟩
  · cases h
  · simp only [Value.slice.injEq, Option.some.injEq, Addr.mk.injEq] at h1
    obtain ⟨⟨rfl, rfl, _⟩, rfl, rfl⟩ := h1
    have hl : (l.take k).length = k := by rw [List.length_take]; omega
    exact .inr ⟨b, off, c, by rw [hl], by omega, h3.take k⟩

set_option maxRecDepth 1000000 in
set_option maxHeartbeats 8000000 in
theorem quoted_any (w : World) (B cb bb sb rb : Nat) (s : ByteArray) (st : Int) (rem L : List UInt8) (v vl : Value) (a0 a1 a2 : Addr) (h : CR w B cb bb sb rb s 0 st [] rem (.slice none 0 0) vl) (hS : Sen w B a0 a1 a2) (hB : B ≤ w.heap.size) (hrl : rem.length ≤ 1048576) (hL : L.length ≤ 1048576) (hr : RowB w v L) (ha : Apart v (.slice none 0 0) cb w) :
    Calls Tryd.prog 18 #[.pointer (some ⟨cb, 0, none⟩), v] w fun e w' => Below B w w' ∧ Ends w' B st a0 (rq L rem).2.1 e ∧ ∃ rem' vt' vl', CR w' B cb bb sb rb s ((rq L rem).2.2 : Nat) st (rq L rem).1 rem' vt' vl' := by
  have HC : Hid (CR w B cb bb sb rb s 0 st [] rem (.slice none 0 0) vl) := h
  have HS : Hid (Sen w B a0 a1 a2) := hS
  have HR : Hid (RowB w v L) := hr
  have HA : Hid (Apart v (.slice none 0 0) cb w) := ha
  obtain ⟨av, cv, rfl⟩ := hr.slice
  clear h hS hr ha
  go_enter Tryd.func18, Tryd.ntmps18
  go_wp2_with fail
  go_loopw [1, 4, 5, 6, 7] (fun x1 x4 x5 x6 x7 wr => ∃ (L1 rem1 T1 : List UInt8) (k n1 : Nat) (a1' : Option Addr) (c1 : Nat) (vt1 vl1 : Value), x1 = .slice a1' n1 c1 ∧ Hid (L1.length = n1) ∧ n1 ≤ 1048576 ∧ Hid (rem1.length ≤ 1048576) ∧ Hid (CR wr B cb bb sb rb s k st T1 rem1 vt1 vl1) ∧ Hid (RowB wr (.slice a1' n1 c1) L1) ∧ Hid (Apart (.slice a1' n1 c1) vt1 cb wr) ∧ Hid (Below B w wr) ∧ Hid (k + rem1.length ≤ rem.length ∧ T1.length + L1.length + rem1.length ≤ L.length + rem.length + k) ∧
      Hid ((rq L rem).1 = T1 ++ (rq L1 rem1).1 ∧ (rq L rem).2.1 = (rq L1 rem1).2.1 ∧ (rq L rem).2.2 = k + (rq L1 rem1).2.2)) (fun x1 _ _ _ _ wr => remN bb sb wr * 2097152 + sliceLen x1)
  case atStart => exact ⟨L, rem, [], 0, L.length, av, cv, _, vl, rfl, rfl, hL, hrl, HC, HR, HA, Below.refl _ _, ⟨by omega, by simp⟩, ⟨rfl, rfl, by omega⟩⟩
  case round =>
    obtain ⟨L1, rem1, T1, k, n1, a1', c1, vt1, vl1, rfl, HN, hn1, HRL, HCR, HRW, HAP, HBW, HNUM, HRQ⟩ := hrel
    have HSE : Hid (Sen wr B a0 a1 a2) := HS.out.below HBW.out
    have hszB : B ≤ wr.heap.size := Nat.le_trans hB HBW.out.size
    have kc3 : wr.cell? ⟨cb, 3, none⟩ = some vt1 := by rw [cell_of_row wr cb 3 _ _ _ HCR.out.hc]; rfl
    rcases idx_cases L1 34 with ⟨hm, hno⟩ | ⟨o, hm, hol, hsp, hno⟩
    · have HIX : Hid (Calls Tryd.prog 20 #[.slice a1' n1 c1, .int .u8 34] wr fun e w' => e = .returned (.int .i64 (-1)) ∧ wr = w') := by rw [← hm]; exact idx_any _ L1 34 wr HRW.out
      have HNO : Hid ((34 : UInt8) ∉ L1) := hno
      clear hm hno
      go_wp2_with fail
      refine Calls.mono HIX.out ?_
      rintro e w' ⟨rfl, rfl⟩
      have hb1 : T1.length + L1.length ≤ 140737488355328 := by have h1 := HNUM.out.1; have h2 := HNUM.out.2; omega
      have hbx : T1.length + L1.length + 1 ≤ 140737488355328 := by have h1 := HNUM.out.1; have h2 := HNUM.out.2; omega
      go_wp2_with (first
        | (at_builtin; refine wpList_append_row rfl _ _ rfl B T1.length vt1 (.slice a1' n1 c1) (Lib.byteCells T1) L1 rfl rfl HCR.out.tx HRW.out hb1 hszB ?_; intro v2 w2 ho2 hg2 hv2; obtain ⟨a2', c2', hv2'⟩ := own_slice ho2; obtain ⟨N2, hN2⟩ : ∃ N2, T1.length + L1.length = N2 := ⟨_, rfl⟩; rw [hN2] at hv2'; subst hv2'; have HAPP : Hid _ := HCR.out.app ho2 hg2 hv2 hszB HRW.out HAP.out; have k32 := HAPP.out.2.2.2.2.1; have f32 := HAPP.out.2.2.2.2.2; clear ho2 hg2 hv2 hN2)
        | (at_builtin; refine wpList_append_row rfl _ _ rfl B (T1 ++ L1).length (.slice a2' N2 c2') (.slice (some ⟨w2.heap.size, 0, none⟩) 1 1) (Lib.byteCells (T1 ++ L1)) [10] rfl rfl (HAPP.out.1.alloc _).tx (by { have h := row_new (w2.setCell ⟨cb, 3, none⟩ (.slice a2' N2 c2')) 10; rw [show (w2.setCell ⟨cb, 3, none⟩ (.slice a2' N2 c2')).heap.size = w2.heap.size from by simp] at h; exact h }) (by { rw [List.length_append]; simp; omega }) (Nat.le_trans hszB (Nat.le_trans HAPP.out.2.1.size (by simp))) ?_; intro v3 w3 ho3 hg3 hv3; obtain ⟨a3', c3', hv3'⟩ := own_slice ho3; obtain ⟨N3, hN3⟩ : ∃ N3, (T1 ++ L1).length + ([10] : List UInt8).length = N3 := ⟨_, rfl⟩; rw [hN3] at hv3'; subst hv3'; have HAPP3 : Hid _ := (HAPP.out.1.alloc (.cells #[.int .u8 10] 5)).app ho3 hg3 hv3 (Nat.le_trans hszB (Nat.le_trans HAPP.out.2.1.size (by simp))) (HAPP.out.2.2.1.alloc _) (HAPP.out.2.2.2.1.alloc _); have k33 := HAPP3.out.2.2.2.2.1; have f33 := HAPP3.out.2.2.2.2.2; clear ho3 hg3 hv3 hN3)
        | fail)
      obtain ⟨w4, hw4⟩ : ∃ w4, w3.setCell ⟨cb, 3, none⟩ (.slice a3' N3 c3') = w4 := ⟨_, rfl⟩
      rw [hw4] at HAPP3 ⊢
      have HC4 : Hid (CR w4 B cb bb sb rb s k st (T1 ++ L1 ++ [10]) rem1 (.slice a3' N3 c3') vl1) := HAPP3.out.1
      have HB4 : Hid (Below B wr w4) := (HAPP.out.2.1.alloc (Nat.le_trans hszB HAPP.out.2.1.size) _).trans HAPP3.out.2.1
      have HS4 : Hid (Sen w4 B a0 a1 a2) := HSE.out.below HB4.out
      have hsz4 : B ≤ w4.heap.size := Nat.le_trans hszB HB4.out.size
      clear hw4 HAPP HAPP3 k32 f32 k33 f33 kc3
      refine Calls.mono (line_any w4 B cb bb sb rb s k st (T1 ++ L1 ++ [10]) rem1 (.slice a3' N3 c3') vl1 a0 a1 a2 HC4.out HS4.out hsz4 ⟨by omega, by have := HNUM.out.1; omega⟩ HRL.out) ?_
      rintro e w5 ⟨hb5, hcase⟩
      have HB5 : Hid (Below B wr w5) := HB4.out.trans hb5
      have HS5 : Hid (Sen w5 B a0 a1 a2) := HS4.out.below hb5
      have g1 : w5.cell? ⟨1, 0, none⟩ = some (I a1) := HS5.out.g1
      have g0 : w5.cell? ⟨0, 0, none⟩ = some (I a0) := HS5.out.g0
      have sm1 := eq_same a1 w5
      have nl1 := eq_nil a1 w5
      clear hb5
      rcases hcase with ⟨hr0, rfl, vl5, hcr5⟩ | ⟨hr0, v5, vl5, rfl, hrw5, hap5, hcr5⟩
      · have HCR5 : Hid (CR w5 B cb bb sb rb s k st (T1 ++ L1 ++ [10]) [] (.slice a3' N3 c3') vl5) := hcr5
        have HRQ2 : Hid (rq L1 rem1 = (L1 ++ [10], none, 0)) := rq_none HNO.out hr0
        have kc2 : w5.cell? ⟨cb, 2, none⟩ = some (.int .i64 st) := by rw [cell_of_row w5 cb 2 _ _ _ hcr5.hc]; rfl
        clear hcr5 hr0
        go_wp2_with fail
        go_region
        go_wp2_with fail
        refine bodyPost_ret (v := .tuple #[.slice none 0 0, .iface 49 (.pointer (some ⟨w5.heap.size, 0, none⟩))]) (by simp [results, Tryd.results18, go_sem]) rfl ⟨(HBW.out.trans HB5.out).alloc (Nat.le_trans hszB HB5.out.size) _ |>.drew, .inr ⟨by rw [HRQ.out.2.1, HRQ2.out], w5.heap.size, Nat.le_trans hszB HB5.out.size, rfl, ?_, ?_⟩, [], .slice a3' N3 c3', vl5, ?_⟩
        · exact new_cell0 w5 _ _
        · exact new_cell1 w5 _ _
        · have h := (HCR5.out.alloc (.cells #[.int .i64 st, I a0] 52)).only ((Only.refl (fun _ => False) _).drew) id id id id (fun _ _ => id) (fun _ _ => id)
          rw [HRQ.out.1, HRQ.out.2.2, HRQ2.out]
          simpa using h
      · have HCR5 : Hid (CR w5 B cb bb sb rb s ((k : Int) + 1) st (T1 ++ L1 ++ [10]) (restOf rem1) (.slice a3' N3 c3') vl5) := hcr5
        have HRQ2 : Hid _ := rq_more HNO.out hr0
        have HRW5 : Hid (RowB w5 v5 (dropEnd 13 (lineOf rem1))) := hrw5
        have HAP5 : Hid (∀ k, blockOf v5 = some k → (Value.slice a3' N3 c3').ownBlock ≠ some k ∧ k ≠ cb) := hap5
        have HR0 : Hid (rem1 ≠ []) := hr0
        obtain ⟨av5, cv5, rfl⟩ := hrw5.slice
        obtain ⟨n5, hn5⟩ : ∃ n5, (dropEnd 13 (lineOf rem1)).length = n5 := ⟨_, rfl⟩
        rw [hn5] at HRW5 HAP5 ⊢
        have HN5 : Hid ((dropEnd 13 (lineOf rem1)).length = n5) := hn5
        clear hcr5 hr0 hrw5 hap5 hn5
        go_wp2_with fail
        go_roundw
        case rel =>
          have hlt := restOf_len HR0.out
          have hl5 : n5 ≤ rem1.length := by rw [← HN5.out]; exact Nat.le_trans (dropEnd_len _ _) (lineOf_len _)
          have hrl1 := HRL.out
          have hnn := HNUM.out
          have hlr := line_rest rem1
          have hl6 : n5 ≤ (lineOf rem1).length := by rw [← HN5.out]; exact dropEnd_len _ _
          refine ⟨dropEnd 13 (lineOf rem1), restOf rem1, T1 ++ L1 ++ [10], k + 1, n5, av5, cv5, _, vl5, rfl, HN5, by omega, Nat.le_trans (Nat.le_of_lt hlt) hrl1, by have h := HCR5.out; exact h, HRW5, fun k e => ⟨(HAP5.out k e).1, (HAP5.out k e).2, HRW5.out.lt k e⟩, HBW.out.trans HB5.out, ⟨by omega, ?_⟩, ⟨?_, ?_, ?_⟩⟩
          · rw [List.length_append, List.length_append, HN5.out]
            simp
            omega
          · rw [HRQ.out.1, HRQ2.out]; simp
          · rw [HRQ.out.2.1, HRQ2.out]
          · rw [HRQ.out.2.2, HRQ2.out]
            show k + ((rq (dropEnd 13 (lineOf rem1)) (restOf rem1)).2.2 + 1) = k + 1 + (rq (dropEnd 13 (lineOf rem1)) (restOf rem1)).2.2
            omega
        case measure =>
          rw [HCR5.out.remN, HCR.out.remN]
          have hlt := restOf_len HR0.out
          have hl5 : n5 ≤ rem1.length := by rw [← HN5.out]; exact Nat.le_trans (dropEnd_len _ _) (lineOf_len _)
          have hrl1 := HRL.out
          simp only [sliceLen]
          omega
    · have HIX : Hid (Calls Tryd.prog 20 #[.slice a1' n1 c1, .int .u8 34] wr fun e w' => e = .returned (.int .i64 o) ∧ wr = w') := by rw [← hm]; exact idx_any _ L1 34 wr HRW.out
      have hol' : o < n1 := by rw [← HN.out]; exact hol
      obtain ⟨b, off, rfl⟩ : ∃ b off, a1' = some ⟨b, off, none⟩ := by
        obtain ⟨b, off, _, h1, _⟩ := HRW.out.at (i := o) hol'
        exact ⟨b, off, h1⟩
      obtain ⟨hc1, hc2⟩ : n1 ≤ c1 ∧ True := by
        rcases HRW.out with ⟨h, _⟩ | ⟨b', off', c', h1, h2, _⟩
        · cases h
        · simp only [Value.slice.injEq] at h1
          obtain ⟨_, h3, h4⟩ := h1
          exact ⟨by omega, trivial⟩
      have HPRE : Hid (RowB wr (.slice (some ⟨b, off, none⟩) o c1) (L1.take o)) := row_to HRW.out o (by omega)
      have HSP : Hid (L1 = L1.take o ++ 34 :: L1.drop (o + 1)) := hsp
      have HNO : Hid ((34 : UInt8) ∉ L1.take o) := hno
      have HPL : Hid ((L1.take o).length = o) := by rw [List.length_take, Nat.min_eq_left (Nat.le_of_lt hol)]; exact rfl
      have hi0 : (0 : Int) ≤ (o : Int) := Int.natCast_nonneg _
      have hi1 : (o : Int) ≤ (c1 : Int) := by omega
      have hb1 : T1.length + (L1.take o).length ≤ 140737488355328 := by have h1 := HNUM.out.1; have h2 := HNUM.out.2; rw [HPL.out]; have := HN.out; omega
      clear hm hsp hno hol hc2
      go_wp2_with fail
      refine Calls.mono HIX.out ?_
      rintro e w' ⟨rfl, rfl⟩
      go_wp2_with fail
      go_region_law (first
        | (refine step_append_row (by rfl) _ _ (by rfl) B T1.length vt1 (.slice (some ⟨b, off, none⟩) o c1) (Lib.byteCells T1) (L1.take o) (by rfl) (by rfl) HCR.out.tx HPRE.out hb1 hszB ?_; intro v2 w2 ho2 hg2 hv2; obtain ⟨a2', c2', hv2'⟩ := own_slice ho2; obtain ⟨N2, hN2⟩ : ∃ N2, T1.length + (L1.take o).length = N2 := ⟨_, rfl⟩; rw [hN2] at hv2'; subst hv2'; have HAPP : Hid _ := HCR.out.app ho2 ⟨hg2.os, hg2.tape, hg2.output, hg2.size, hg2.block⟩ hv2 hszB HRW.out HAP.out; have k32 := HAPP.out.2.2.2.2.1; have f32 := HAPP.out.2.2.2.2.2; clear ho2 hg2 hv2 hN2)
        | fail)
      obtain ⟨w3, hw3⟩ : ∃ w3, w2.setCell ⟨cb, 3, none⟩ (.slice a2' N2 c2') = w3 := ⟨_, rfl⟩
      rw [hw3] at HAPP ⊢
      have HC3 : Hid (CR w3 B cb bb sb rb s k st (T1 ++ L1.take o) rem1 (.slice a2' N2 c2') vl1) := HAPP.out.1
      have HB3 : Hid (Below B w w3) := HBW.out.trans HAPP.out.2.1
      have HS3 : Hid (Sen w3 B a0 a1 a2) := HSE.out.below HAPP.out.2.1
      have hsz3 : B ≤ w3.heap.size := Nat.le_trans hB HB3.out.size
      obtain ⟨off3, hif, hrow3⟩ := row_from HAPP.out.2.2.1 (o + 1) (by omega)
      have HAP3 : Hid (Apart (.slice (some ⟨b, off, none⟩) n1 c1) (.slice a2' N2 c2') cb w3) := HAPP.out.2.2.2.1
      obtain ⟨m, hm⟩ : ∃ m, n1 - (o + 1) = m := ⟨_, rfl⟩
      obtain ⟨d, hd⟩ : ∃ d, c1 - (o + 1) = d := ⟨_, rfl⟩
      rw [hm, hd] at hrow3
      have HR3 : Hid (RowB w3 (.slice (some ⟨b, off3, none⟩) m d) (L1.drop (o + 1))) := hrow3
      have HML : Hid ((L1.drop (o + 1)).length = m) := by rw [List.length_drop, HN.out]; exact hm
      have htn : ((o : Int) + 1).toNat = o + 1 := by omega
      have hi2 : (o : Int) + 1 ≤ (n1 : Int) := by omega
      have hmd : m ≤ d := by omega
      have hmn : m < n1 := by omega
      have g0 : w3.cell? ⟨0, 0, none⟩ = some (I a0) := HS3.out.g0
      have kc2 : w3.cell? ⟨cb, 2, none⟩ = some (.int .i64 st) := by rw [cell_of_row w3 cb 2 _ _ _ HC3.out.hc]; rfl
      have kc33 : w3.cell? ⟨cb, 3, none⟩ = some (.slice a2' N2 c2') := by rw [cell_of_row w3 cb 3 _ _ _ HC3.out.hc]; rfl
      clear hw3 HAPP k32 f32 kc3 hrow3
      cases hpost : L1.drop (o + 1) with
      | nil =>
        have hm0 : m = 0 := by rw [← HML.out, hpost]; rfl
        have HRQ2 : Hid (rq L1 rem1 = (L1.take o, some [], 0)) := by
          have h := rq_end (rem := rem1) HNO.out
          have e : L1.take o ++ [34] = L1 := by rw [← hpost]; exact HSP.out.symm
          rw [e] at h
          exact h
        have HR4 : Hid (RowB w3 (.slice (some ⟨b, off3, none⟩) 0 d) []) := by rw [← hm0, ← hpost]; exact HR3.out
        clear hpost
        go_wp2_with fail
        refine bodyPost_ret (v := .tuple #[.slice (some ⟨b, off3, none⟩) 0 d, .nilIface]) (by simp [results, Tryd.results18, go_sem]) rfl ⟨HB3.out, .inl ⟨[], _, by rw [HRQ.out.2.1, HRQ2.out], rfl, HR4.out⟩, rem1, .slice a2' N2 c2', vl1, ?_⟩
        rw [HRQ.out.1, HRQ.out.2.2, HRQ2.out]
        simpa using HC3.out
      | cons c post =>
        have HPO : Hid (L1.drop (o + 1) = c :: post) := hpost
        have hmp : m = post.length + 1 := by rw [← HML.out, hpost]; rfl
        have hc0 : w3.cell? ⟨b, off3, none⟩ = some (.int .u8 (c.toNat : Int)) := by
          obtain ⟨b', off', hl', e', hc'⟩ := HR3.out.at (i := 0) (by omega)
          simp only [Option.some.injEq, Addr.mk.injEq] at e'
          obtain ⟨rfl, rfl, _⟩ := e'
          rw [Nat.add_zero] at hc'
          rw [hc']
          simp [hpost]
        have HRC : Hid (rq L1 rem1 = if c = 34 then (L1.take o ++ 34 :: (rq post rem1).1, (rq post rem1).2.1, (rq post rem1).2.2) else if c = 44 then (L1.take o, some (c :: post), 0) else (L1.take o, none, 0)) := by
          have h := rq_cons (rem := rem1) (post := post) (c := c) HNO.out
          have e : L1.take o ++ 34 :: c :: post = L1 := by rw [← hpost]; exact HSP.out.symm
          rw [e] at h
          exact h
        have hmi : (0 : Int) < (m : Int) := by omega
        have hmz : ¬ ((m : Int) = 0) := by omega
        have HMP : Hid (m = post.length + 1) := hmp
        have hmn0 : 1 ≤ m := by omega
        have hmzb : ((m : Int) == 0) = false := by simpa using hmz
        clear hpost hmp
        by_cases h34 : c = 34
        · have he : (((c.toNat : Nat) : Int) == 34) = true := by subst h34; rfl
          have HRQ2 : Hid (rq L1 rem1 = (L1.take o ++ 34 :: (rq post rem1).1, (rq post rem1).2.1, (rq post rem1).2.2)) := by rw [HRC.out, if_pos h34]; exact rfl
          obtain ⟨off4, hif4, hrow4⟩ := row_from HR3.out 1 (by omega)
          have HR4 : Hid (RowB w3 (.slice (some ⟨b, off4, none⟩) (m - 1) (d - 1)) ((L1.drop (o + 1)).drop 1)) := hrow4
          have f33 : w3.frozen? ⟨cb, 3, none⟩ = false := free_of_row HC3.out.hc
          have hb2 : (T1 ++ L1.take o).length + ([34] : List UInt8).length ≤ 140737488355328 := by
            have h1 := HNUM.out.1; have h2 := HNUM.out.2; have h3 := HN.out
            rw [List.length_append, HPL.out]; simp; omega
          have hi5 : (1 : Int) ≤ (m : Int) := by omega
          clear hrow4 h34
          go_wp2_with (at_builtin; refine wpList_append_row rfl _ _ rfl B (T1 ++ L1.take o).length (.slice a2' N2 c2') (.slice (some ⟨w3.heap.size, 0, none⟩) 1 1) (Lib.byteCells (T1 ++ L1.take o)) [34] rfl rfl (HC3.out.alloc _).tx (row_new w3 34) hb2 (Nat.le_trans hsz3 (by simp)) ?_; intro v4 w4 ho4 hg4 hv4; obtain ⟨a4', c4', hv4'⟩ := own_slice ho4; obtain ⟨N4, hN4⟩ : ∃ N4, (T1 ++ L1.take o).length + ([34] : List UInt8).length = N4 := ⟨_, rfl⟩; rw [hN4] at hv4'; subst hv4'; have HAPP4 : Hid _ := (HC3.out.alloc (.cells #[.int .u8 34] 5)).app ho4 hg4 hv4 (Nat.le_trans hsz3 (by simp)) (HR4.out.alloc _) (Apart.alloc (fun k e => HAP3.out k e) _); have k34 := HAPP4.out.2.2.2.2.1; have f34 := HAPP4.out.2.2.2.2.2; clear ho4 hg4 hv4 hN4)
          have e1 : (L1.drop (o + 1)).drop 1 = post := by rw [HPO.out]; rfl
          have e2 : post.length = m - 1 := by have := HMP.out; omega
          have HAPP5 : Hid _ := HAPP4.out
          go_roundw
          case rel =>
            have h1 := HNUM.out.1
            have h2 := HNUM.out.2
            have h3 := HN.out
            have hrw := HAPP5.out.2.2.1
            rw [e1] at hrw
            refine ⟨post, rem1, T1 ++ L1.take o ++ [34], k, m - 1, some ⟨b, off4, none⟩, d - 1, _, vl1, rfl, e2, by omega, HRL, HAPP5.out.1, hrw, fun k e => HAPP5.out.2.2.2.1 k e, HB3.out.trans ((Below.refl _ w3).alloc hsz3 _ |>.trans HAPP5.out.2.1), ⟨h1, ?_⟩, ⟨?_, ?_, ?_⟩⟩
            · rw [List.length_append, List.length_append, HPL.out, e2]; simp; omega
            · rw [HRQ.out.1, HRQ2.out]; simp
            · rw [HRQ.out.2.1, HRQ2.out]
            · rw [HRQ.out.2.2, HRQ2.out]
          case measure =>
            rw [HAPP5.out.1.remN, HCR.out.remN]
            simp only [sliceLen]
            omega
        · have he : (((c.toNat : Nat) : Int) == 34) = false := by
            rw [beq_eq_false_iff_ne]; intro e; exact h34 (UInt8.toNat_inj.1 (by simp; omega))
          by_cases h44 : c = 44
          · have he4 : (((c.toNat : Nat) : Int) == 44) = true := by subst h44; rfl
            have HRQ2 : Hid (rq L1 rem1 = (L1.take o, some (c :: post), 0)) := by rw [HRC.out, if_neg h34, if_pos h44]; exact rfl
            clear h34 h44
            go_wp2_with fail
            refine bodyPost_ret (v := .tuple #[.slice (some ⟨b, off3, none⟩) m d, .nilIface]) (by simp [results, Tryd.results18, go_sem]) rfl ⟨HB3.out, .inl ⟨c :: post, _, by rw [HRQ.out.2.1, HRQ2.out], rfl, by rw [← HPO.out]; exact HR3.out⟩, rem1, .slice a2' N2 c2', vl1, ?_⟩
            rw [HRQ.out.1, HRQ.out.2.2, HRQ2.out]
            simpa using HC3.out
          · have he4 : (((c.toNat : Nat) : Int) == 44) = false := by
              rw [beq_eq_false_iff_ne]; intro e; exact h44 (UInt8.toNat_inj.1 (by simp; omega))
            have HRQ2 : Hid (rq L1 rem1 = (L1.take o, none, 0)) := by rw [HRC.out, if_neg h34, if_neg h44]; exact rfl
            clear h34 h44
            go_wp2_with fail
            go_region
            go_wp2_with fail
            refine bodyPost_ret (v := .tuple #[.slice none 0 0, .iface 49 (.pointer (some ⟨w3.heap.size, 0, none⟩))]) (by simp [results, Tryd.results18, go_sem]) rfl ⟨HB3.out.alloc hsz3 _ |>.drew, .inr ⟨by rw [HRQ.out.2.1, HRQ2.out], w3.heap.size, hsz3, rfl, ?_, ?_⟩, rem1, .slice a2' N2 c2', vl1, ?_⟩
            · exact new_cell0 w3 _ _
            · exact new_cell1 w3 _ _
            · have h := (HC3.out.alloc (.cells #[.int .i64 st, I a0] 52)).only ((Only.refl (fun _ => False) _).drew) id id id id (fun _ _ => id) (fun _ _ => id)
              rw [HRQ.out.1, HRQ.out.2.2, HRQ2.out]
              simpa using h

end Go.Proofs.Qxb6613468aDoor
