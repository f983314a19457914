/-
  The small functions: bytes.IndexByte (20), Equal (30), HasSuffix (29), TrimSuffix (25), zzDropCR (14), zzSameBytes (12).
-/
import Derived.Test.Qxb6613468aDoorBase
import Derived.Lib.BufferRead
namespace Go.Proofs.Qxb6613468aDoor
open Go.RowKit

set_option maxHeartbeats 1000000 in
theorem idx_any (v : Value) (l : List UInt8) (c : UInt8) (w : World) (h : RowB w v l) :
    Calls Tryd.prog 20 #[v, .int .u8 (c.toNat : Int)] w fun e w' => e = .returned (.int .i64 (Lib.indexByte l c)) ∧ w = w' := by
  have hc : ((c.toNat : Int)).toNat.toUInt8 = c := by simp
  rcases h with ⟨rfl, rfl⟩ | ⟨b, off, cap, rfl, h2, h3⟩
  · go_enter Tryd.func20, Tryd.ntmps20
    go_wp2
    rw [run_callFunc_extern Tryd.func23 (by kernel_rfl) (by kernel_rfl) (by kernel_rfl) (e := Extern.BytealgIndexByte.indexByte) (by kernel_rfl), Lib.run_indexByteNil w 0 0 _]
    simp only [Result.andThen]
    rw [Oper.upon_value]
    go_wp2
    go_ret
    exact ⟨rfl, rfl⟩
  · have hrun := Lib.run_indexByteSlice (P := Tryd.prog) w b off l.length cap (l.map fun x => (x.toNat : Int)) (by simp) (fun i hi => by rw [h3.cell hi]; simp [List.getD, hi]) (c.toNat : Int)
    have hbl : Lib.bytesOf (l.map fun x => (x.toNat : Int)) = l := by
      simp [Lib.bytesOf, Function.comp_def]
    rw [hbl, hc] at hrun
    have HR : Hid _ := hrun
    clear hrun h3 hbl
    go_enter Tryd.func20, Tryd.ntmps20
    go_wp2
    rw [run_callFunc_extern Tryd.func23 (by kernel_rfl) (by kernel_rfl) (by kernel_rfl) (e := Extern.BytealgIndexByte.indexByte) (by kernel_rfl), HR.out]
    simp only [Result.andThen]
    rw [Oper.upon_value]
    go_wp2
    go_ret
    exact ⟨rfl, rfl⟩

/-- 'string(..)' of a slice of bytes. -/
theorem conv_row {w : World} {v : Value} {l : List UInt8} (h : RowB w v l) : (convert 22 9 v).run Tryd.prog w = .ok (.string ⟨l.toArray⟩) w := by
  rcases h with ⟨rfl, rfl⟩ | ⟨b, off, cap, rfl, h2, h3⟩
  · exact Lib.run_convert_nil_bytes w 22 9 5 0 Tryd.underlying22 Tryd.underlying5 Tryd.underlying9
  · exact run_convert_bytes_back w 22 9 5 ⟨b, off, none⟩ cap l Tryd.underlying22 Tryd.underlying5 Tryd.underlying9 (fun j hj => by rw [Go.Addr.add_lit]; exact h3.cell hj)

set_option maxHeartbeats 1000000 in
theorem equal_any (v u : Value) (l m : List UInt8) (w : World) (h : RowB w v l) (h' : RowB w u m) :
    Calls Tryd.prog 30 #[v, u] w fun e w' => e = .returned (.bool (decide (l = m))) ∧ w = w' := by
  have c1 := conv_row h
  have c2 := conv_row h'
  have hd : ((⟨l.toArray⟩ : ByteArray).toList == (⟨m.toArray⟩ : ByteArray).toList) = decide (l = m) := by
    rw [Lib.toList_data, Lib.toList_data]
    by_cases e : l = m
    · subst e; simp
    · simp [e]
  obtain ⟨x, hx⟩ : ∃ x, (⟨l.toArray⟩ : ByteArray) = x := ⟨_, rfl⟩
  obtain ⟨y, hy⟩ : ∃ y, (⟨m.toArray⟩ : ByteArray) = y := ⟨_, rfl⟩
  rw [hx] at c1 hd
  rw [hy] at c2 hd
  have HD : Hid _ := hd
  clear h h' hd hx hy
  go_enter Tryd.func30, Tryd.ntmps30
  go_wp2
  go_ret
  refine ⟨?_, rfl⟩
  rw [← HD.out]
  rfl

/-- Without one byte c that ends it. -/
def dropEnd (c : UInt8) (l : List UInt8) : List UInt8 := if l.getLast? = some c then l.dropLast else l
theorem dropEnd_nil (c : UInt8) : dropEnd c [] = [] := by simp [dropEnd]
theorem dropEnd_snoc (c x : UInt8) (l : List UInt8) : dropEnd c (l ++ [x]) = if x = c then l else l ++ [x] := by simp [dropEnd]

set_option maxHeartbeats 1000000 in
theorem suffix_any (v : Value) (l : List UInt8) (c : UInt8) (sb : Nat) (w : World) (h : RowB w v l) (hs : In w sb 0 [c]) (hlen : l.length ≤ 1048576) :
    Calls Tryd.prog 29 #[v, .slice (some ⟨sb, 0, none⟩) 1 1] w fun e w' => e = .returned (.bool (decide (l.getLast? = some c))) ∧ w = w' := by
  have hrs : RowB w (.slice (some ⟨sb, 0, none⟩) 1 1) [c] := .inr ⟨sb, 0, 1, rfl, Nat.le_refl _, hs⟩
  rcases h with ⟨rfl, rfl⟩ | ⟨b, off, cap, rfl, h2, h3⟩
  · clear hs hrs
    go_enter Tryd.func29, Tryd.ntmps29
    go_wp2
    go_ret
    exact ⟨by simp, rfl⟩
  · rcases List.eq_nil_or_concat l with e | ⟨l0, x, e⟩
    · subst e
      clear hs hrs h3
      go_enter Tryd.func29, Tryd.ntmps29
      go_wp2
      go_ret
      exact ⟨by simp, rfl⟩
    · rw [List.concat_eq_append] at e
      subst e
      obtain ⟨n, hn⟩ : ∃ n, l0.length = n := ⟨_, rfl⟩
      have hl : (l0 ++ [x]).length = n + 1 := by simp [hn]
      have hx : RowB w (.slice (some ⟨b, off + n, none⟩) 1 (cap - n)) [x] := by
        refine .inr ⟨b, off + n, cap - n, rfl, by simp; omega, ?_⟩
        have := h3.drop n
        rw [← hn, List.drop_left] at this
        rw [← hn]
        exact this
      have HE : Hid (Calls Tryd.prog 30 #[.slice (some ⟨b, off + n, none⟩) 1 (cap - n), .slice (some ⟨sb, 0, none⟩) 1 1] w fun e w' => e = .returned (.bool (decide ([x] = [c]))) ∧ w = w') := equal_any _ _ _ _ w hx hrs
      have HD : Hid (decide ([x] = [c]) = decide ((l0 ++ [x]).getLast? = some c)) := by
        have : ([x] = [c]) = ((l0 ++ [x]).getLast? = some c) := by simp
        rw [show decide ([x] = [c]) = decide ((l0 ++ [x]).getLast? = some c) from decide_eq_decide.2 (by rw [this])]
        exact rfl
      obtain ⟨dd, hdd⟩ : ∃ dd, decide ([x] = [c]) = dd := ⟨_, rfl⟩
      rw [hdd] at HE HD
      rw [hl] at h2 hlen ⊢
      clear hx hrs hs h3 hn hl hdd
      go_enter Tryd.func29, Tryd.ntmps29
      go_wp2_with fail
      refine Calls.mono HE.out ?_
      rintro e w' ⟨rfl, rfl⟩
      go_wp2_with fail
      go_ret
      refine ⟨?_, rfl⟩
      rw [← HD.out]
      rfl

set_option maxHeartbeats 1000000 in
theorem trim_any (v : Value) (l : List UInt8) (c : UInt8) (sb : Nat) (w : World) (h : RowB w v l) (hs : In w sb 0 [c]) (hlen : l.length ≤ 1048576) :
    Calls Tryd.prog 25 #[v, .slice (some ⟨sb, 0, none⟩) 1 1] w fun e w' => ∃ v', e = .returned v' ∧ RowB w v' (dropEnd c l) ∧ blockOf v' = blockOf v ∧ w = w' := by
  have hsf := suffix_any v l c sb w h hs hlen
  by_cases hc : l.getLast? = some c
  · rcases h with ⟨rfl, rfl⟩ | ⟨b, off, cap, rfl, h2, h3⟩
    · simp at hc
    · rcases List.eq_nil_or_concat l with e | ⟨l0, x, e⟩
      · subst e; simp at hc
      · rw [List.concat_eq_append] at e
        subst e
        obtain rfl : x = c := by simpa using hc
        have hd : decide ((l0 ++ [x]).getLast? = some x) = true := by simp
        rw [hd] at hsf
        obtain ⟨n, hn⟩ : ∃ n, l0.length = n := ⟨_, rfl⟩
        have hl : (l0 ++ [x]).length = n + 1 := by simp [hn]
        rw [hl] at hsf h2 hlen ⊢
        have HS : Hid _ := hsf
        have HR : Hid (RowB w (.slice (some ⟨b, off, none⟩) n cap) (dropEnd x (l0 ++ [x]))) := by
          rw [dropEnd_snoc, if_pos rfl]
          refine .inr ⟨b, off, cap, by rw [hn], by omega, ?_⟩
          have := h3.take n
          rw [← hn, List.take_left] at this
          exact this
        clear hsf h3 hs hc hd hl hn
        go_enter Tryd.func25, Tryd.ntmps25
        go_wp2_with fail
        refine Calls.mono HS.out ?_
        rintro e w' ⟨rfl, rfl⟩
        go_wp2_with fail
        go_ret
        exact ⟨_, rfl, HR.out, rfl, rfl⟩
  · have hd : decide (l.getLast? = some c) = false := by simpa using hc
    rw [hd] at hsf
    have HS : Hid _ := hsf
    have HR : Hid (RowB w v (dropEnd c l)) := by rw [dropEnd, if_neg hc]; exact h
    clear hsf h hs hd hc
    go_enter Tryd.func25, Tryd.ntmps25
    go_wp2_with fail
    refine Calls.mono HS.out ?_
    rintro e w' ⟨rfl, rfl⟩
    go_wp2_with fail
    go_ret
    exact ⟨_, rfl, HR.out, rfl, rfl⟩

set_option maxHeartbeats 1000000 in
theorem dropcr_any (v : Value) (l : List UInt8) (w : World) (h : RowB w v l) (hlen : l.length ≤ 1048576) :
    Calls Tryd.prog 14 #[v] w fun e w' => ∃ v', e = .returned v' ∧ RowB w v' (dropEnd 13 l) ∧ blockOf v' = blockOf v ∧ w = w' := by
  rcases h with ⟨rfl, rfl⟩ | ⟨b, off, cap, rfl, h2, h3⟩
  · go_enter Tryd.func14, Tryd.ntmps14
    go_wp2
    go_ret
    exact ⟨_, rfl, .inl ⟨rfl, dropEnd_nil _⟩, rfl, rfl⟩
  · rcases List.eq_nil_or_concat l with e | ⟨l0, x, e⟩
    · subst e
      have HR : Hid (RowB w (.slice (some ⟨b, off, none⟩) 0 cap) (dropEnd 13 [])) := .inr ⟨b, off, cap, by simp [dropEnd], by simp [dropEnd], by simpa [dropEnd] using h3⟩
      clear h3
      go_enter Tryd.func14, Tryd.ntmps14
      go_wp2
      go_ret
      exact ⟨_, rfl, HR.out, rfl, rfl⟩
    · rw [List.concat_eq_append] at e
      subst e
      obtain ⟨n, hn⟩ : ∃ n, l0.length = n := ⟨_, rfl⟩
      have hl : (l0 ++ [x]).length = n + 1 := by simp [hn]
      have hcell := h3.cell (i := n) (by omega)
      have hx : (l0 ++ [x])[n]'(by omega) = x := by simp [← hn]
      rw [hx] at hcell
      rw [hl] at h2 hlen ⊢
      have hi1 : (0 : Int) ≤ (n : Int) := Int.natCast_nonneg _
      by_cases h13 : x = 13
      · have HR : Hid (RowB w (.slice (some ⟨b, off, none⟩) n cap) (dropEnd 13 (l0 ++ [x]))) := by
          rw [dropEnd_snoc, if_pos h13]
          refine .inr ⟨b, off, cap, by rw [hn], by omega, ?_⟩
          have := h3.take n
          rw [← hn, List.take_left] at this
          exact this
        have he : (((x.toNat : Nat) : Int) == 13) = true := by subst h13; rfl
        clear h3 hl hn hx h13
        go_enter Tryd.func14, Tryd.ntmps14
        go_wp2
        go_ret
        exact ⟨_, rfl, HR.out, rfl, rfl⟩
      · have HR : Hid (RowB w (.slice (some ⟨b, off, none⟩) (n + 1) cap) (dropEnd 13 (l0 ++ [x]))) := by
          rw [dropEnd_snoc, if_neg h13]
          exact .inr ⟨b, off, cap, by rw [hl], by omega, h3⟩
        have he : (((x.toNat : Nat) : Int) == 13) = false := by
          rw [beq_eq_false_iff_ne]
          intro e
          exact h13 (UInt8.toNat_inj.1 (by simp; omega))
        clear h3 hl hn hx h13
        go_enter Tryd.func14, Tryd.ntmps14
        go_wp2
        go_ret
        exact ⟨_, rfl, HR.out, rfl, rfl⟩

/-- A slice in the form that the walk wants. -/
theorem RowB.slice {w : World} {v : Value} {l : List UInt8} (h : RowB w v l) : ∃ a cap, v = .slice a l.length cap := by
  rcases h with ⟨rfl, rfl⟩ | ⟨b, off, cap, rfl, _, _⟩
  · exact ⟨_, _, rfl⟩
  · exact ⟨_, _, rfl⟩
theorem RowB.at {w : World} {a : Option Addr} {n cap : Nat} {l : List UInt8} (h : RowB w (.slice a n cap) l) {i : Nat} (hi : i < n) : ∃ b off, ∃ hl : i < l.length, a = some ⟨b, off, none⟩ ∧ w.cell? ⟨b, off + i, none⟩ = some (.int .u8 (l[i].toNat : Int)) := by
  rcases h with ⟨h1, rfl⟩ | ⟨b, off, cap', h1, h2, h3⟩
  · simp only [Value.slice.injEq] at h1
    omega
  · simp only [Value.slice.injEq] at h1
    obtain ⟨rfl, rfl, rfl⟩ := h1
    exact ⟨b, off, hi, rfl, h3.cell hi⟩

set_option maxHeartbeats 1000000 in
theorem same_any (v u : Value) (l m : List UInt8) (w : World) (h : RowB w v l) (h' : RowB w u m) (hlen : l.length ≤ 1048576) (hlen' : m.length ≤ 1048576) :
    Calls Tryd.prog 12 #[v, u] w fun e w' => e = .returned (.bool (decide (l = m))) ∧ ∃ q, w.drewN q = w' := by
  obtain ⟨a, cap, rfl⟩ := h.slice
  obtain ⟨a', cap', rfl⟩ := h'.slice
  obtain ⟨n, hn⟩ : ∃ n, l.length = n := ⟨_, rfl⟩
  obtain ⟨n', hn'⟩ : ∃ n', m.length = n' := ⟨_, rfl⟩
  rw [hn] at h hlen ⊢
  rw [hn'] at h' hlen' ⊢
  have HR : Hid (RowB w (.slice a n cap) l) := h
  have HR' : Hid (RowB w (.slice a' n' cap') m) := h'
  have HN : Hid (l.length = n) := hn
  have HN' : Hid (m.length = n') := hn'
  clear h h' hn hn'
  by_cases hne : n = n'
  · subst hne
    go_enter Tryd.func12, Tryd.ntmps12
    go_wp2
    go_loopw [4, 5] (fun r i wr => ∃ (k q : Nat), i = .int .i64 k ∧ r = .bool false ∧ k ≤ n ∧ Hid (l.take k = m.take k) ∧ Hid (wr = w.drewN q)) (fun _ i _ => n - (intOf i).toNat)
    case atStart => exact ⟨0, 0, rfl, rfl, Nat.zero_le _, by rw [List.take_zero, List.take_zero]; exact rfl, rfl⟩
    case round =>
      obtain ⟨k, q, rfl, rfl, hk, HT, HQ⟩ := hrel
      have hw := HQ.out
      subst hw
      clear HQ
      by_cases hlt : k < n
      · obtain ⟨b, off, hl, rfl, hc⟩ := HR.out.at hlt
        obtain ⟨b', off', hl', rfl, hc'⟩ := HR'.out.at hlt
        obtain ⟨x, hx⟩ : ∃ x, l[k] = x := ⟨_, rfl⟩
        obtain ⟨y, hy⟩ : ∃ y, m[k] = y := ⟨_, rfl⟩
        rw [hx] at hc
        rw [hy] at hc'
        have HX : Hid (l[k] = x) := hx
        have HY : Hid (m[k] = y) := hy
        clear hx hy
        have hi0 : (0 : Int) ≤ (k : Int) := Int.natCast_nonneg _
        have hi1 : (k : Int) < (n : Int) := by omega
        by_cases hxy : x = y
        · have he : (((x.toNat : Nat) : Int) != ((y.toNat : Nat) : Int)) = false := by subst hxy; simp
          have HT2 : Hid (l.take (k + 1) = m.take (k + 1)) := by
            rw [List.take_succ_eq_append_getElem hl, List.take_succ_eq_append_getElem hl', HT.out, HX.out, HY.out, hxy]
            exact rfl
          clear hxy
          go_wp2_with fail
          go_quiet (fail)
          go_wp2_with fail
          go_roundw
          case rel => exact ⟨k + 1, q + nq, by go_num, rfl, by omega, HT2, rfl⟩
          case measure => simp [intOf]; omega
        · have he : (((x.toNat : Nat) : Int) != ((y.toNat : Nat) : Int)) = true := by
            rw [bne_iff_ne]
            intro e
            exact hxy (UInt8.toNat_inj.1 (by omega))
          have HF : Hid (decide (l = m) = false) := by
            have : l ≠ m := by
              intro e
              subst e
              exact hxy (HX.out.symm.trans HY.out)
            exact decide_eq_false this
          clear hxy
          go_wp2_with fail
          go_quiet (fail)
          go_wp2_with fail
          go_ret
          refine ⟨?_, q + nq, (World.drewN_drewN w q nq).symm⟩
          rw [HF.out]; rfl
      · obtain rfl : k = n := by omega
        have HF : Hid (decide (l = m) = true) := by
          have : l = m := by
            have := HT.out
            rw [List.take_of_length_le (by rw [HN.out]; exact Nat.le_refl _), List.take_of_length_le (by rw [HN'.out]; exact Nat.le_refl _)] at this
            exact this
          exact decide_eq_true this
        go_wp2_with fail
        go_ret
        refine ⟨?_, q, rfl⟩
        rw [HF.out]; rfl
  · have HF : Hid (decide (l = m) = false) := by
      have : l ≠ m := by intro e; subst e; exact hne (HN.out.symm.trans HN'.out)
      exact decide_eq_false this
    go_enter Tryd.func12, Tryd.ntmps12
    go_wp2
    go_ret
    refine ⟨?_, 0, rfl⟩
    rw [HF.out]; rfl

end Go.Proofs.Qxb6613468aDoor
