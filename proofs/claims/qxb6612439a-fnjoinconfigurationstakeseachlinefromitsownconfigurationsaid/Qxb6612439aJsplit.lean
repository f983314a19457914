/-
  The walks of jsplit (7) and jstrict (8).
-/
import Derived.Test.Qxb6612439aSplit
namespace Go.Proofs.Qxb6612439a
open Go.RowKit

theorem Try.info34 : (Try.prog.info? 34).map (fun i => (i.zero, i.size, i.bytes)) = some (some (.agg #[.string ⟨#[]⟩, .string ⟨#[]⟩]), 2, 32) := by kernel_rfl

theorem below_grown {w w' : World} (h : Below w.heap.size w w') : w.grownBy w' none := ⟨h.os, h.tape, h.output, h.size, fun k hk _ => h.block k hk⟩
theorem owns_below {w w' : World} {B e s n : Nat} {v : Value} {xs : List Value} (h : w.ownsRow B e s v n xs) (hb : Below w.heap.size w w') : w'.ownsRow B e s v n xs := by
  refine h.kept (below_grown hb) ?_
  cases hv : v.ownBlock with
  | none => exact .inl rfl
  | some k => exact .inr (by simp)
theorem grownBy_setCell (w : World) (a : Addr) (u : Value) : w.grownBy (w.setCell a u) (some a.block) :=
  ⟨rfl, rfl, rfl, by simp, fun k _ hk => Below.heap_setCell w a u k (fun e => hk (by rw [e]))⟩
theorem ownsRow_form {w : World} {B e s n : Nat} {v : Value} {xs : List Value} (h : w.ownsRow B e s v n xs) : (v = .slice none 0 0 ∧ n = 0) ∨ ∃ g cap, v = .slice (some ⟨g, 0, none⟩) n cap ∧ B ≤ g ∧ n ≤ cap := by
  rcases h.2 with h | ⟨g, cap, cur, h1, h2, h3, h4, _⟩
  · exact .inl h
  · exact .inr ⟨g, cap, h1, h2, h4⟩
theorem ownsRow_slice {w : World} {B e s n : Nat} {v : Value} {xs : List Value} (h : w.ownsRow B e s v n xs) : ∃ a cap, v = .slice a n cap := by
  rcases ownsRow_form h with ⟨rfl, rfl⟩ | ⟨g, cap, rfl, _, _⟩
  · exact ⟨_, _, rfl⟩
  · exact ⟨_, _, rfl⟩

/-- The cells of a list of lines: the name, then the text. -/
def cellsL : List (ByteArray × ByteArray) → List Value
  | [] => []
  | p :: ls => .string p.1 :: .string p.2 :: cellsL ls
theorem cellsL_snoc : ∀ (ls : List (ByteArray × ByteArray)) (p : ByteArray × ByteArray), cellsL (ls ++ [p]) = cellsL ls ++ [.string p.1, .string p.2]
  | [], _ => rfl
  | q :: ls, p => by simp [cellsL, cellsL_snoc ls p]
theorem cellsL_get : ∀ (ls : List (ByteArray × ByteArray)) (i : Nat) (h : i < ls.length), (cellsL ls)[2 * i]? = some (.string ls[i].1) ∧ (cellsL ls)[2 * i + 1]? = some (.string ls[i].2)
  | p :: ls, 0, _ => ⟨rfl, rfl⟩
  | p :: ls, i + 1, h => by
    have := cellsL_get ls i (by simpa using h)
    rw [show 2 * (i + 1) = 2 * i + 1 + 1 from by omega]
    simpa [cellsL] using this

/-- ls are the first lines of c, as far as place s; each bears its name. -/
def Split (c : List UInt8) (s : Nat) (ls : List (ByteArray × ByteArray)) : Prop :=
  ls.map (fun p => bytesOf p.2) ++ splitL (c.drop s) = splitL c ∧ ls.length ≤ s ∧ ∀ p ∈ ls, bytesOf p.1 = nameL (bytesOf p.2)

theorem Split.step {c : ByteArray} {s k : Nat} {ls : List (ByteArray × ByteArray)} {nm : ByteArray} (h : Split (bytesOf c) s ls) (hs : s ≤ k) (hk : k < c.size) (h10 : c[k] = 10) (hno : ∀ j (h : j < c.size), s ≤ j → j < k → c[j] ≠ 10)
    (hn : bytesOf nm = nameL (bytesOf (c.extract s (k + 1)))) : Split (bytesOf c) (k + 1) (ls ++ [(nm, c.extract s (k + 1))]) := by
  refine ⟨?_, by simp; have := h.2.1; omega, fun p hp => ?_⟩
  · rw [← h.1, List.map_append, List.append_assoc]
    congr 1
    have e : (bytesOf c).drop s = ((bytesOf c).drop s).take (k - s) ++ 10 :: (bytesOf c).drop (k + 1) := by
      have h1 := List.take_append_drop (k - s) ((bytesOf c).drop s)
      rw [List.drop_drop, show s + (k - s) = k from by omega, drop_cons c k hk, h10] at h1
      exact h1.symm
    rw [e, splitL_cut]
    · simp only [List.map_cons, List.map_nil, List.singleton_append, List.cons.injEq, and_true]
      rw [bytes_ext, show k + 1 - s = (k - s) + 1 from by omega, List.take_succ_eq_append_getElem (by rw [List.length_drop, bytesOf_size]; omega)]
      congr 1
      have : ((bytesOf c).drop s)[k - s]'(by rw [List.length_drop, bytesOf_size]; omega) = 10 := by
        rw [List.getElem_drop]
        have e2 : (bytesOf c)[s + (k - s)]'(by rw [bytesOf_size]; omega) = c[k] := by
          have : s + (k - s) = k := by omega
          simp only [this]; rfl
        rw [e2, h10]
      rw [this]
    · intro x hx
      obtain ⟨j, hj, rfl⟩ := List.mem_iff_getElem.1 hx
      have hj' : j < k - s := by
        rw [List.length_take] at hj; omega
      rw [List.getElem_take, List.getElem_drop]
      exact hno (s + j) (by omega) (by omega) (by omega)
  · rcases List.mem_append.1 hp with e | e
    · exact h.2.2 p e
    · simp at e; subst e; exact hn

theorem Split.last {c : ByteArray} {s : Nat} {ls : List (ByteArray × ByteArray)} {nm : ByteArray} (h : Split (bytesOf c) s ls) (hs : s < c.size) (hno : ∀ j (h : j < c.size), s ≤ j → j < c.size → c[j] ≠ 10)
    (hn : bytesOf nm = nameL (bytesOf (c.extract s c.size))) : Split (bytesOf c) c.size (ls ++ [(nm, c.extract s c.size)]) := by
  refine ⟨?_, by simp; have := h.2.1; omega, fun p hp => ?_⟩
  · rw [← h.1, List.map_append, List.append_assoc, drop_end c c.size (Nat.le_refl _)]
    congr 1
    rw [splitL_last ((bytesOf c).drop s)]
    · simp [bytes_drop, splitL]
    · intro e; have := congrArg List.length e; rw [List.length_drop, bytesOf_size] at this; simp at this; omega
    · intro x hx
      obtain ⟨j, hj, rfl⟩ := List.mem_iff_getElem.1 hx
      rw [List.length_drop, bytesOf_size] at hj
      rw [List.getElem_drop]
      exact hno (s + j) (by omega) (by omega) (by omega)
  · rcases List.mem_append.1 hp with e | e
    · exact h.2.2 p e
    · simp at e; subst e; exact hn

theorem app_row {w wr w2 w3 : World} {a : Option Addr} {n cap g cap' : Nat} {ls : List (ByteArray × ByteArray)} {nm t : ByteArray} {o : Obj} (hn : ls.length = n)
    (O2 : w2.ownsRow w.heap.size 34 2 (.slice a n cap) n (cellsL ls)) (HL : Below w.heap.size w wr) (hb2 : Below wr.heap.size wr w2)
    (ho3 : w3.ownsRow w.heap.size 34 2 (.slice (some ⟨g, 0, none⟩) (n + 1) cap') (n + 1) (cellsL ls ++ [.string nm, .string t]))
    (hg3 : (w2.alloc o).grownBy w3 (Value.slice a n cap).ownBlock) :
    w3.ownsRow w.heap.size 34 2 (.slice (some ⟨g, 0, none⟩) (ls ++ [(nm, t)]).length cap') (ls ++ [(nm, t)]).length (cellsL (ls ++ [(nm, t)])) ∧ Below w.heap.size w w3 := by
  have hl2 : Below w.heap.size w w2 := HL.trans (hb2.mono HL.size)
  refine ⟨by rw [cellsL_snoc, List.length_append, hn]; exact ho3, ?_⟩
  exact (hl2.alloc hl2.size o).grown hg3 (by have := hl2.size; simp; omega) (fun k hk => (O2.lt k hk).1)

set_option maxHeartbeats 2000000 in
theorem jsplit_any (c : ByteArray) (w : World) (hc : c.size ≤ 1048576) :
    Calls Try.prog 7 #[.string c] w fun e w' => ∃ v ls, e = .returned v ∧ w'.ownsRow w.heap.size 34 2 v ls.length (cellsL ls) ∧ Split (bytesOf c) c.size ls ∧ Below w.heap.size w w' := by
  obtain ⟨i0, hi0, hz0, hz1, hz2⟩ := info_parts Try.info34
  go_enter Try.func7, Try.ntmps7
  go_wp2
  go_loopw [3, 4, 5] (fun out st i wr => ∃ (k s n cap : Nat) (a : Option Addr) (ls : List (ByteArray × ByteArray)), out = .slice a n cap ∧ st = .int .i64 s ∧ i = .int .i64 k ∧ s ≤ k ∧ k ≤ c.size ∧ n ≤ s ∧ Hid (ls.length = n) ∧
      Hid (wr.ownsRow w.heap.size 34 2 (.slice a n cap) n (cellsL ls)) ∧ Hid (Split (bytesOf c) s ls) ∧ Hid (∀ j (h : j < c.size), s ≤ j → j < k → c[j] ≠ 10) ∧ Hid (Below w.heap.size w wr)) (fun _ _ i _ => c.size - (intOf i).toNat)
  case atStart => exact ⟨0, 0, 0, 0, none, [], rfl, rfl, rfl, Nat.le_refl _, Nat.zero_le _, Nat.le_refl _, rfl, World.ownsRow_nil _ _ _ _, ⟨rfl, Nat.le_refl _, by simp⟩, fun j _ _ h => by omega, Below.refl _ _⟩
  case round =>
    obtain ⟨k, s, n, cap, a, ls, rfl, rfl, rfl, hsk, hk, hns, HN, HW, HP, HA, HL⟩ := hrel
    have hsz : w.heap.size ≤ wr.heap.size := HL.out.size
    by_cases hlt : k < c.size
    · obtain ⟨d, hd⟩ : ∃ d, c[k] = d := ⟨_, rfl⟩
      by_cases h10 : d = 10
      · have he : (((d.toNat : Nat) : Int) == 10) = true := by subst h10; rfl
        have X : Hid (c[k] = 10) := hd.trans h10
        clear h10
        go_wp2_with fail
        refine (jmake_any (c.extract s (k + 1)) wr (by rw [ByteArray.size_extract]; omega)).mono ?_
        rintro e w2 ⟨nm, rfl, hnm, hb2⟩
        have HM : Hid (bytesOf nm = nameL (bytesOf (c.extract s (k + 1)))) := hnm
        have HB2 : Hid (Below wr.heap.size wr w2) := hb2
        have O2 : Hid (w2.ownsRow w.heap.size 34 2 (.slice a n cap) n (cellsL ls)) := owns_below HW.out hb2
        have hsz2 : w.heap.size ≤ w2.heap.size := Nat.le_trans hsz hb2.size
        clear hnm hb2
        go_wp2_with (at_builtin; refine wpList_append_lies _ rfl _ _ 30 rfl w.heap.size 34 i0 _ 2 32 Try.underlying30 hi0 hz0 hz1 hz2 rfl (by decide) _ _ _ rfl (O2.out.alloc _) ⟨w2.heap.size, 0, none⟩ 1 1 [.string nm, .string (c.extract s (k + 1))] rfl rfl (World.news_of_block (cs := #[.string nm, .string (c.extract s (k + 1))]) (t := 34) (fr := (0, 0)) (heap_alloc_new w2 _)) (by simp [Value.oneCell']) (by omega) (by unfold maxLen; omega) (by omega) (by simp; omega) (w2.heap.size + 1) (by simp) ?_; intro g cap' w3 ho3 hg3 hat3 hlt3)
        obtain ⟨r1, r2⟩ := app_row HN.out O2.out HL.out HB2.out ho3 hg3
        have hst := HP.out.step hsk hlt X.out HA.out HM.out
        go_roundw
        case rel => exact ⟨k + 1, k + 1, n + 1, cap', some ⟨g, 0, none⟩, _, rfl, by go_num, by go_num, Nat.le_refl _, by omega, by omega, by rw [List.length_append, HN.out]; rfl, by rw [List.length_append, HN.out] at r1; exact r1, hst, fun j _ h1 h2 => by omega, r2⟩
        case measure => simp [intOf]; omega
      · have he : (((d.toNat : Nat) : Int) == 10) = false := by
          rw [show (((d.toNat : Nat) : Int) == 10) = (d == 10) from byte_eq (n := 10) (by omega)]; simpa using h10
        have X : Hid (c[k] ≠ 10) := by rw [hd]; exact h10
        clear h10
        go_wp2_with fail
        go_roundw
        case rel => exact ⟨k + 1, s, n, cap, a, ls, rfl, rfl, by go_num, by omega, by omega, by omega, HN, HW, HP, fun j hj h1 h2 => by
          rcases Nat.lt_or_ge j k with e | e
          · exact HA.out j hj h1 e
          · obtain rfl : j = k := by omega
            exact X.out, HL⟩
        case measure => simp [intOf]; omega
    · obtain rfl : k = c.size := by omega
      by_cases hse : s < c.size
      · go_wp2_with fail
        refine (jmake_any (c.extract s c.size) wr (by rw [ByteArray.size_extract]; omega)).mono ?_
        rintro e w2 ⟨nm, rfl, hnm, hb2⟩
        have HM : Hid (bytesOf nm = nameL (bytesOf (c.extract s c.size))) := hnm
        have HB2 : Hid (Below wr.heap.size wr w2) := hb2
        have O2 : Hid (w2.ownsRow w.heap.size 34 2 (.slice a n cap) n (cellsL ls)) := owns_below HW.out hb2
        have hsz2 : w.heap.size ≤ w2.heap.size := Nat.le_trans hsz hb2.size
        clear hnm hb2
        go_wp2_with (at_builtin; refine wpList_append_lies _ rfl _ _ 30 rfl w.heap.size 34 i0 _ 2 32 Try.underlying30 hi0 hz0 hz1 hz2 rfl (by decide) _ _ _ rfl (O2.out.alloc _) ⟨w2.heap.size, 0, none⟩ 1 1 [.string nm, .string (c.extract s c.size)] rfl rfl (World.news_of_block (cs := #[.string nm, .string (c.extract s c.size)]) (t := 34) (fr := (0, 0)) (heap_alloc_new w2 _)) (by simp [Value.oneCell']) (by omega) (by unfold maxLen; omega) (by omega) (by simp; omega) (w2.heap.size + 1) (by simp) ?_; intro g cap' w3 ho3 hg3 hat3 hlt3)
        obtain ⟨r1, r2⟩ := app_row HN.out O2.out HL.out HB2.out ho3 hg3
        have hst := HP.out.last hse (fun j hj h1 _ => HA.out j hj h1 hj) HM.out
        go_ret
        exact ⟨_, _, rfl, by rw [List.length_append, HN.out] at r1 ⊢; exact r1, hst, r2⟩
      · obtain rfl : s = c.size := by omega
        go_wp2_with fail
        go_ret
        exact ⟨_, ls, rfl, by rw [HN.out]; exact HW.out, HP.out, HL.out⟩

end Go.Proofs.Qxb6612439a
