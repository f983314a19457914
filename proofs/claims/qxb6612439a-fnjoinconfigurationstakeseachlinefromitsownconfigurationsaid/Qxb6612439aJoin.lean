/-
  JoinConfigurations (10).
-/
import Derived.Test.Qxb6612439aTail
import Derived.Maps.OwnIn
namespace Go.Proofs.Qxb6612439a
open Go.RowKit Go.Shelf
attribute [local go_sem] Oper.semAt_some

theorem name_size {nm x : ByteArray} (h : bytesOf nm = nameL (bytesOf x)) (hx : x.size ≤ 1048576) : nm.size ≤ maxLen := by
  have h1 := congrArg List.length h
  have h2 : (nameL (bytesOf x)).length ≤ (bytesOf x).length := (List.takeWhile_sublist _).length_le
  rw [bytesOf_size] at h1 h2
  unfold maxLen
  omega

/-- What JoinConfigurations hands back. -/
def Joined (Fn : List UInt8 → Int) (ss : List ByteArray) (r : ByteArray) : Prop :=
  ∃ d d' : List (ByteArray × ByteArray), d.map (fun p => bytesOf p.2) = pickAll Fn 0 ss ∧ (∀ p ∈ d, bytesOf p.1 = nameL (bytesOf p.2)) ∧ d'.Perm d ∧ d'.Pairwise (fun x y => lessP y x = false) ∧ bytesOf r = (d'.map (fun p => bytesOf p.2)).flatten

set_option maxRecDepth 100000 in
set_option maxHeartbeats 2000000 in
theorem join_any (g : Nat) (cb : Array Value) (Fn : List UInt8 → Int) (a : Option Addr) (n cap : Nat) (ss : List ByteArray) (w : World) (hn : ss.length = n) (h : RowS w w.heap.size (.slice a n cap) ss) (hmax : n ≤ 1048576)
    (hsum : sumS 0 ss ≤ 1048576) (m : Int) (hm : w.cell? ⟨0, 0, none⟩ = some (.int .i64 m))
    (hen : ∀ args w, (callFunc g args).run Try.prog w = .ok (.enter g args) w)
    (hg : ∀ (nm : ByteArray) W, nm.size ≤ maxLen → Below w.heap.size w W → Calls Try.prog g (#[.string nm] ++ cb) W fun e w' => e = .returned (.int .i64 (Fn (bytesOf nm))) ∧ W = w') :
    Calls Try.prog 10 #[.slice a n cap, .func (.func g) #[] cb] w fun e w' => ∃ r, e = .returned (.string r) ∧ Joined Fn ss r ∧ Below w.heap.size w w' := by
  obtain ⟨i0, hi0, hz0, hz1, hz2⟩ := info_parts Try.info50
  refine (callsIn_wide (n := 6)).1 ?_
  refine callsIn_of_wp_marks Try.func10 rfl trivial ?_ rfl
  simp only [Try.ntmps10, List.size_toArray, List.length_cons, List.length_nil, Nat.reduceAdd, Nat.reduceSub, Array.replicate_succ, Array.replicate_zero, List.push_toArray, List.append_toArray, List.nil_append, List.cons_append]
  gi_wp2
  have HG : Hid (∀ (nm : ByteArray) W, nm.size ≤ maxLen → Below w.heap.size w W → Calls Try.prog g (#[.string nm] ++ cb) W fun e w' => e = .returned (.int .i64 (Fn (bytesOf nm))) ∧ W = w') := hg
  have HR : Hid (RowS w w.heap.size (.slice a n cap) ss) := h
  have HM : Hid (w.cell? ⟨0, 0, none⟩ = some (.int .i64 m)) := hm
  have HN : Hid (ss.length = n) := hn
  have HS : Hid (sumS 0 ss ≤ 1048576) := hsum
  clear hg h hm hn hsum
  refine wpIn_loop (fun a' W => ∃ (k : Nat) (Ds : List Nat) (v : Value) (ls : List (ByteArray × ByteArray)) (x6 x7 x18 x19 x20 x21 x22 x23 x42 : Value), k ≤ n ∧
    a' = { tmps := #[Value.slice a n cap, Value.func (Go.Fn.func g) #[] cb, undef, Value.pointer (some ⟨w.heap.size, 0, none⟩), Value.string ⟨#[]⟩, Value.pointer (some ⟨w.heap.size + 1, 0, none⟩), x6, x7, undef, undef, undef, undef, undef, undef, undef, Value.slice a n cap, Value.int IntKind.i64 n, Value.int IntKind.i64 k, x18, x19, x20, x21, x22, x23, undef, undef, undef, undef, undef, undef, undef, undef, undef, undef, undef, undef, undef, undef, undef, undef, undef, undef, x42, undef, undef, undef, undef, undef, undef, undef, undef, undef, undef, undef, undef, undef], defers := Ds.map fun D => { target := .collected D, args := #[] } } ∧
    Hid (Lin w W (.func (.func g) #[] cb) v ls Ds) ∧ Hid (ls.map (fun p => bytesOf p.2) = pickAll Fn 0 (ss.take k)) ∧ Hid (∀ p ∈ ls, bytesOf p.1 = nameL (bytesOf p.2)))
    (fun a' _ => n - (intOf (a'.tmps[17]?.getD undef)).toNat) ?_ ?_
  · refine ⟨0, [], .slice none 0 0, [], undef, undef, undef, undef, undef, undef, undef, undef, undef, Nat.zero_le _, rfl, Lin.start w _, rfl, ?_⟩
    · intro p hp; cases hp
  · rintro a' W ⟨k, Ds, v, ls, x6, x7, x18, x19, x20, x21, x22, x23, x42, hk, rfl, HL, HT, HP⟩
    by_cases hlt : k < n
    · obtain ⟨b, off, rfl, hb, hcell⟩ := HR.out.at HN.out hlt
      obtain ⟨s, hs⟩ : ∃ s, ss[k]?.getD ByteArray.empty = s := ⟨_, rfl⟩
      rw [hs] at hcell
      have HB : Hid (Below w.heap.size w W) := HL.out.bel
      have hcW : W.cell? ⟨b, off + k, none⟩ = some (.string s) := (HB.out.cell (p := ⟨b, off + k, none⟩) hb).trans hcell
      have HSk : Hid (ss[k]?.getD ByteArray.empty = s) := hs
      clear hcell hs
      gi_wp2_with fail
      refine ⟨trivial, ?_⟩
      refine ((callsIn_wide (n := 5)).2 (lines_any s _)).mono ?_
      rintro e W2 ⟨rfl, hW2⟩
      have HW2 : Hid ((W.alloc (Obj.cells #[Value.int IntKind.i64 ↑k] 3)).alloc (.cells #[.string s] 9) = W2) := hW2
      clear hW2
      have hw2s : W2.heap.size = W.heap.size + 2 := by rw [← HW2.out]; simp
      have hwsz : w.heap.size + 1 < W.heap.size := HL.out.sz
      have hc2 : W2.cell? ⟨W.heap.size + 1, 0, none⟩ = some (.string s) := by rw [← HW2.out]; exact (two_new W _ _ 9).1
      have hf2 : W2.frozen? ⟨W.heap.size + 1, 0, none⟩ = false := by rw [← HW2.out]; exact (two_new W _ (.string s) 9).2
      have hss : s.size ≤ 1048576 := by
        rw [← HSk.out]
        have h1 := sumS_take 0 ss k (by rw [HN.out]; exact hlt)
        have h2 := sumS_le 0 ss (k + 1)
        have := HS.out
        omega
      have hI2 : Hid (InnV w W (.func (.func g) #[] cb) v ls Ds k (pickAll Fn 0 (ss.take k) ++ pickL Fn k ([] : List (List UInt8))) W2) := by
        rw [← HW2.out]
        exact InnV.start HL.out (by rw [HT.out]; simp [pickL]) HP.out
      gi_wp2_with fail
      refine wpIn_range_lines (W.heap.size + 1) s hss rfl hc2 hf2 rfl (fun pre X => ∃ v ls, Hid (InnV w W (.func (.func g) #[] cb) v ls Ds k (pickAll Fn 0 (ss.take k) ++ pickL Fn k (pre.map bytesOf)) X)) ?_ ⟨v, ls, hI2⟩
        (fun x => { tmps := #[Value.slice (some ⟨b, off, none⟩) n cap, Value.func (Go.Fn.func g) #[] cb, undef, Value.pointer (some ⟨w.heap.size, 0, none⟩), Value.string ⟨#[]⟩, Value.pointer (some ⟨w.heap.size + 1, 0, none⟩), Value.pointer (some ⟨W.heap.size, 0, none⟩), Value.string s, Value.string x, undef, undef, undef, undef, undef, undef, Value.slice (some ⟨b, off, none⟩) n cap, Value.int IntKind.i64 n, Value.int IntKind.i64 k, Value.bool true, Value.int IntKind.i64 k, Value.pointer (some ⟨b, off + k, none⟩), Value.string s, Value.string s, Value.func (Go.Fn.func 24) #[] #[Value.pointer (some ⟨W.heap.size + 1, 0, none⟩)], Value.string x, undef, undef, undef, undef, undef, undef, undef, undef, undef, undef, undef, undef, undef, undef, undef, undef, undef, x42, undef, undef, undef, undef, undef, undef, undef, undef, undef, undef, undef, undef, undef], defers := [] }) ?_ ?_ ?_
      · rintro pre X X' row ⟨v1, ls1, H1⟩ hgr hrow
        refine ⟨v1, ls1, H1.out.grown hgr fun r e => ?_⟩
        rcases hrow r e with rfl | ⟨hr, o, ho, hoc⟩
        · exact ⟨by omega, H1.out.ns⟩
        · exact ⟨by omega, H1.out.row ho hoc⟩
      · intro l x X K hK
        gi_wp2
        exact hK
      · rintro l pre x X ⟨r0, hLf⟩ ⟨v1, ls1, H1⟩ hX
        obtain ⟨hpl, hxs⟩ := hLf.bounds
        clear hLf
        have hmX : X.cell? ⟨0, 0, none⟩ = some (.int .i64 m) := (H1.out.lin.bel.cell (p := ⟨0, 0, none⟩) (World.block_lt_of_cell? w _ HM.out)).trans HM.out
        have hcut := Try.strings_Cut x ⟨#[32]⟩ m X (by omega) hmX
        obtain ⟨nm, hnm⟩ : ∃ nm : ByteArray, (⟨(Lib.cut x.data.toList [32]).1.toArray⟩ : ByteArray) = nm := ⟨_, rfl⟩
        have hnm2 : bytesOf nm = nameL (bytesOf x) := by rw [← hnm]; show (Lib.cut x.data.toList [32]).1 = _; rw [cut_name]; rfl
        have hcut2 : Calls Try.prog 16 #[.string x, .string ⟨#[32]⟩] X fun e w' => (∃ c2 c3, e = .returned (.tuple #[.string nm, .string c2, .bool c3])) ∧ ∃ q, X.drewN q = w' := by
          refine hcut.mono ?_
          rintro e w' ⟨rfl, q, rfl⟩
          exact ⟨⟨_, _, by rw [← hnm]⟩, q, rfl⟩
        have HC : Hid (Calls Try.prog 16 #[.string x, .string ⟨#[32]⟩] X fun e w' => (∃ c2 c3, e = .returned (.tuple #[.string nm, .string c2, .bool c3])) ∧ ∃ q, X.drewN q = w') := hcut2
        have HNM : Hid (bytesOf nm = nameL (bytesOf x)) := hnm2
        clear hcut hcut2 hnm hnm2 hmX
        gi_wp2_with fail
        refine ⟨trivial, ?_⟩
        refine (CallsIn.inRound l ((callsIn_wide (n := 3)).2 HC.out)).mono ?_
        rintro e X1 ⟨⟨c2, c3, rfl⟩, q, hq⟩
        have H2 : Hid (InnV w W (.func (.func g) #[] cb) v1 ls1 Ds k (pickAll Fn 0 (ss.take k) ++ pickL Fn k (pre.map bytesOf)) X1) := H1.out.grown (hq ▸ grown_drewN X q) (fun r e => by cases e)
        have HQ : Hid (X.drewN q = X1) := hq
        clear hq
        have hc0 : X1.cell? ⟨w.heap.size, 0, none⟩ = some (.func (.func g) #[] cb) := H2.out.lin.c0
        have hck : X1.cell? ⟨W.heap.size, 0, none⟩ = some (.int .i64 k) := H2.out.kb
        obtain ⟨fv, hfv⟩ : ∃ fv, Fn (bytesOf nm) = fv := ⟨_, rfl⟩
        have hmix : Try.prog.follows .mixedOrders = true := by kernel_rfl
        have eg : ∀ args w, (callFunc g args).run Try.prog w = .ok (.enter g args) w := hen
        have hgX : Calls Try.prog g (#[.string nm] ++ cb) X1.drew fun e w' => e = .returned (.int .i64 fv) ∧ X1.drew = w' := by
          rw [← hfv]; exact HG.out nm X1.drew (name_size HNM.out (by omega)) (H2.out.lin.bel.drew)
        have HGX : Hid (Calls Try.prog g (#[.string nm] ++ cb) X1.drew fun e w' => e = .returned (.int .i64 fv) ∧ X1.drew = w') := hgX
        have HFV : Hid (Fn (bytesOf nm) = fv) := hfv
        clear hgX hfv
        have hkoX : KeepsOthers X X1.drew := by rw [← HQ.out]; exact ⟨Nat.le_refl _, fun _ _ h _ => h⟩
        have hcX : X1.drew.cell? ⟨W.heap.size + 1, 0, none⟩ = X.cell? ⟨W.heap.size + 1, 0, none⟩ := by rw [← HQ.out]; rfl
        have hfX : X1.drew.frozen? ⟨W.heap.size + 1, 0, none⟩ = X.frozen? ⟨W.heap.size + 1, 0, none⟩ := by rw [← HQ.out]; rfl
        have H3 : Hid (InnV w W (.func (.func g) #[] cb) v1 ls1 Ds k (pickAll Fn 0 (ss.take k) ++ pickL Fn k (pre.map bytesOf)) X1.drew) := H2.out.grown (grown_drewN X1 1) (fun r e => by cases e)
        have HKO : Hid (KeepsOthers X X1.drew ∧ X1.drew.cell? ⟨W.heap.size + 1, 0, none⟩ = X.cell? ⟨W.heap.size + 1, 0, none⟩ ∧ X1.drew.frozen? ⟨W.heap.size + 1, 0, none⟩ = X.frozen? ⟨W.heap.size + 1, 0, none⟩) := ⟨hkoX, hcX, hfX⟩
        clear hkoX hcX hfX
        by_cases hfk : fv = k
        · subst hfk
          have hlen : ls1.length ≤ 4194304 := by
            have h1 := congrArg List.length H2.out.t
            rw [List.length_map, List.length_append] at h1
            have h2 := pickAll_len Fn ss k 0
            have h3 := pickL_len Fn k (pre.map bytesOf)
            rw [List.length_map] at h3
            have h4 := HS.out
            omega
          have htx : pickAll Fn 0 (ss.take k) ++ pickL Fn k (pre.map bytesOf) ++ [bytesOf x] = pickAll Fn 0 (ss.take k) ++ pickL Fn k ((pre ++ [x]).map bytesOf) := by
            rw [List.map_append, List.map_cons, List.map_nil, pickL_snoc, ← HNM.out, HFV.out, List.append_assoc]
            simp
          gi_wp2_with fail
          rename_i K hK
          have key : K { tmps := #[Value.slice (some ⟨b, off, none⟩) n cap, Value.func (Go.Fn.func g) #[] cb, undef, Value.pointer (some ⟨w.heap.size, 0, none⟩), Value.string ⟨#[]⟩, Value.pointer (some ⟨w.heap.size + 1, 0, none⟩), Value.pointer (some ⟨W.heap.size, 0, none⟩), Value.string s, Value.string x, Value.string nm, Value.string c2, Value.bool c3, undef, undef, undef, Value.slice (some ⟨b, off, none⟩) n cap, Value.int IntKind.i64 n, Value.int IntKind.i64 k, Value.bool true, Value.int IntKind.i64 k, Value.pointer (some ⟨b, off + k, none⟩), Value.string s, Value.string s, Value.func (Go.Fn.func 24) #[] #[Value.pointer (some ⟨W.heap.size + 1, 0, none⟩)], Value.string x, Value.tuple #[Value.string nm, Value.string c2, Value.bool c3], Value.string x, Value.tuple #[Value.string nm, Value.string c2, Value.bool c3], Value.string nm, Value.string c2, Value.bool c3, Value.func (Go.Fn.func g) #[] cb, Value.string nm, Value.int IntKind.i64 k, Value.int IntKind.i64 k, Value.bool true, undef, undef, undef, undef, undef, undef, x42, undef, undef, undef, undef, undef, undef, undef, undef, undef, undef, undef, undef, undef], defers := [] } X1.drew := by
            refine hK _ _ ?_
            clear hK K
            obtain ⟨X3, hX3⟩ : ∃ X3, X1.drew = X3 := ⟨_, rfl⟩
            rw [hX3] at H3 HKO ⊢
            clear HGX hX3 HQ hck hc0
            have hc1 : X3.cell? ⟨w.heap.size + 1, 0, none⟩ = some v1 := H3.out.lin.c1
            have hf1 : X3.frozen? ⟨w.heap.size + 1, 0, none⟩ = false := H3.out.lin.f1
            have hsz3 : w.heap.size ≤ X3.heap.size := H3.out.lin.bel.size
            gi_wp2_with (gi_at_builtin; (refine wpListIn_append_own_at _ rfl _ _ 43 rfl w.heap.size 50 i0 _ 2 32 Try.underlying43 hi0 hz0 hz1 hz2 rfl (by decide) _ _ _ rfl (H3.out.lin.own.alloc _) ⟨X3.heap.size, 0, none⟩ 1 1 [.string nm, .string x] rfl rfl (World.news_of_block (cs := #[.string nm, .string x]) (t := 50) (fr := (0, 0)) (heap_alloc_new X3 _)) (by simp [Value.oneCell']) (by unfold maxLen; omega) (by omega) (by simp; omega) ?_; intro v2 X4 ho4 hg4 hnil4 hv4; obtain ⟨a2, cap2, rfl⟩ := ownsRow_slice ho4; obtain ⟨hc4, hf4⟩ := H3.out.box hg4; have HA : Hid _ := H3.out.add ho4 hg4 hv4 HNM.out; clear ho4 hg4 hv4 hnil4))
            obtain ⟨h5, h6, h7, h8⟩ := HA.out
            rw [htx] at h5
            exact ⟨HKO.out.1.trans h6, ⟨h7.trans HKO.out.2.1, h8.trans HKO.out.2.2⟩, _, _, h5⟩
          gi_region_with_o (refine ⟨trivial, ?_⟩; refine (CallsIn.inRound l ((callsIn_wide (n := 3)).2 HGX.out)).mono ?_; rintro e X2 ⟨rfl, rfl⟩)
          all_goals exact key
        · have hfe : (fv == (k : Int)) = false := by simpa using hfk
          have hI4 : InnV w W (.func (.func g) #[] cb) v1 ls1 Ds k (pickAll Fn 0 (ss.take k) ++ pickL Fn k ((pre ++ [x]).map bytesOf)) X1.drew := by
            rw [List.map_append, List.map_cons, List.map_nil, pickL_snoc, ← HNM.out, HFV.out, hfe]
            simpa using H3.out
          have keepF : KeepsOthers X X1.drew ∧ (X1.drew.cell? ⟨W.heap.size + 1, 0, none⟩ = X.cell? ⟨W.heap.size + 1, 0, none⟩ ∧ X1.drew.frozen? ⟨W.heap.size + 1, 0, none⟩ = X.frozen? ⟨W.heap.size + 1, 0, none⟩) ∧ ∃ v ls, Hid (InnV w W (.func (.func g) #[] cb) v ls Ds k (pickAll Fn 0 (ss.take k) ++ pickL Fn k ((pre ++ [x]).map bytesOf)) X1.drew) :=
            ⟨HKO.out.1, HKO.out.2, v1, ls1, hI4⟩
          gi_wp2_with fail
          gi_region_with_o (refine ⟨trivial, ?_⟩; refine (CallsIn.inRound l ((callsIn_wide (n := 3)).2 HGX.out)).mono ?_; rintro e X2 ⟨rfl, rfl⟩)
          all_goals (gi_wp2; exact keepF)
      · rintro D xs X hxs ⟨v1, ls1, H1⟩ hDe hD
        have HL1 : Hid (Lin w X (.func (.func g) #[] cb) v1 ls1 (D :: Ds)) := H1.out.done (by omega) hD
        have HT1 : Hid (ls1.map (fun p => bytesOf p.2) = pickAll Fn 0 (ss.take (k + 1))) := by
          rw [pickAll_take Fn ss k (by rw [HN.out]; exact hlt), HSk.out, ← hxs]
          exact H1.out.t
        have HP1 : Hid (∀ p ∈ ls1, bytesOf p.1 = nameL (bytesOf p.2)) := H1.out.nm
        clear H1 hD hxs hDe
        gi_wp2
        exact ⟨⟨k + 1, D :: Ds, v1, ls1, _, _, _, _, _, _, _, _, _, hlt, rfl, HL1, HT1, HP1⟩, by simp [intOf]; omega⟩
    · obtain rfl : k = n := by omega
      obtain ⟨va, vc, hv⟩ := ownsRow_slice HL.out.own
      subst hv
      have hc1 : W.cell? ⟨w.heap.size + 1, 0, none⟩ = some (.slice va ls.length vc) := HL.out.c1
      have hll : ls.length ≤ 1048576 := by
        have h1 := congrArg List.length HT.out
        rw [List.length_map] at h1
        have h2 := pickAll_len Fn ss k 0
        have h4 := HS.out
        omega
      gi_wp2_with fail
      refine ⟨trivial, ?_⟩
      refine ((callsIn_wide (n := 5)).2 (sort_any W w.heap.size (.slice va ls.length vc) ls HL.out.own (by omega))).mono ?_
      rintro e W5 ⟨rfl, ls', hpm, hso, hrow, hg5⟩
      have hsz := HL.out.sz
      have hc5 : W5.cell? ⟨w.heap.size + 1, 0, none⟩ = some (.slice va ls.length vc) := hg5.cell (a := ⟨w.heap.size + 1, 0, none⟩) hc1 (fun e => HL.out.v1 e.symm)
      have HPM : Hid (ls'.Perm ls) := hpm
      have HSO : Hid (ls'.Pairwise (fun x y => lessP y x = false)) := hso
      have HG5 : Hid (W.grownBy W5 (Value.slice va ls.length vc).ownBlock) := hg5
      have HLN : Hid (ls'.length = ls.length) := hpm.length_eq
      have hs5 : w.heap.size + 1 < W5.heap.size := Nat.lt_of_lt_of_le hsz hg5.size
      have HB5 : Hid (Below w.heap.size w W5) := HL.out.bel.grown hg5 (by omega) (fun r e => (HL.out.own.lt r e).1)
      clear hpm hso hg5 hc1
      obtain ⟨N, hN⟩ : ∃ N, ls.length = N := ⟨_, rfl⟩
      have HNN : Hid (ls.length = N) := hN
      rw [hN] at hc5 hll hrow ⊢
      have HRW : Hid (RowL W5 (.slice va N vc) ls') := hrow
      have HLN2 : Hid (ls'.length = N) := HLN.out.trans hN
      clear hrow
      clear hN
      gi_wp2_with fail
      gi_loopw [47] (fun i wr => ∃ j : Nat, i = .int .i64 j ∧ j ≤ N ∧ Hid (Lib.IsBuilder 56 5 W5.heap.size W5.heap.size (Lib.byteCells (textsTo ls' j)) wr) ∧ Hid (Below W5.heap.size W5 wr)) (fun i _ => N - (intOf i).toNat)
      case atStart => exact ⟨0, rfl, Nat.zero_le _, builder_new W5, (Below.refl _ W5).alloc (Nat.le_refl _) _⟩
      case round =>
        obtain ⟨j, rfl, hj, HB, HBe⟩ := hrel
        by_cases hjl : j < N
        · obtain ⟨b, rfl, hb, r1, r2⟩ := HRW.out.at HLN2.out hjl
          have hlj : j < ls'.length := by rw [HLN2.out]; exact hjl
          have c1 : wr.cell? ⟨b, j * 2, none⟩ = some (.string ls'[j].1) := (HBe.out.cell (p := ⟨b, j * 2, none⟩) hb).trans r1
          have c2 : wr.cell? ⟨b, j * 2 + 1, none⟩ = some (.string ls'[j].2) := (HBe.out.cell (p := ⟨b, j * 2 + 1, none⟩) hb).trans r2
          obtain ⟨x1, hx1⟩ : ∃ x1, ls'[j].1 = x1 := ⟨_, rfl⟩
          obtain ⟨x2, hx2⟩ : ∃ x2, ls'[j].2 = x2 := ⟨_, rfl⟩
          rw [hx1] at c1
          rw [hx2] at c2
          have HX2 : Hid (textsTo ls' (j + 1) = textsTo ls' j ++ bytesOf x2) := by rw [← hx2]; exact textsTo_succ ls' j hlj
          have hlen : (Lib.byteCells (textsTo ls' j)).length + x2.size ≤ 140737488355328 := by
            have h1 := textsTo_le ls' (j + 1)
            rw [flat_perm HPM.out, HT.out] at h1
            have h2 := pickAll_flat Fn ss k 0
            have h3 := HS.out
            rw [HX2.out, List.length_append, bytesOf_size] at h1
            rw [Lib.byteCells_length]
            omega
          have hwr : W5.heap.size ≤ wr.heap.size := HBe.out.size
          clear r1 r2 hx1 hx2
          gi_wp2_with fail
          refine ⟨trivial, ?_⟩
          refine ((callsIn_wide (n := 5)).2 (Try.Builder_WriteString W5.heap.size W5.heap.size _ x2 _ (builder_alloc _ HB.out) hlen (by simp; omega))).mono ?_
          rintro e X6 ⟨rfl, hB6, hb6⟩
          have HB6 : Hid (Lib.IsBuilder 56 5 W5.heap.size W5.heap.size (Lib.byteCells (textsTo ls' (j + 1))) X6) := by
            rw [HX2.out, Lib.byteCells_append]; exact .inr hB6
          have HBe6 : Hid (Below W5.heap.size W5 X6) := (HBe.out.alloc hwr _).trans hb6
          clear hB6 hb6
          gi_wp2_with fail
          go_roundw
          case rel => exact ⟨j + 1, by go_num, by omega, HB6, HBe6⟩
          case measure => simp [intOf]; omega
        · obtain rfl : j = N := by omega
          have hwr : W5.heap.size ≤ wr.heap.size := HBe.out.size
          gi_wp2_with fail
          refine ⟨trivial, ?_⟩
          refine ((callsIn_wide (n := 5)).2 (Try.Builder_String_any W5.heap.size W5.heap.size _ wr HB.out hwr)).mono ?_
          rintro e X7 ⟨rfl, hb7⟩
          have HBe7 : Hid (Below W5.heap.size W5 X7) := HBe.out.trans hb7
          clear hb7
          gi_wp2_with fail
          have hbf : Below w.heap.size w X7 := HB5.out.trans (HBe7.out.mono (by omega))
          refine leave_marks w.heap.size w (Nat.le_refl _) Ds X7 HL.out.nd HL.out.dl (fun D hD => ?_) hbf (fun X' hX' => ?_)
          · have hk5 := HL.out.kept HG5.out D hD
            exact (HBe7.out.block D (Array.getElem?_eq_some_iff.1 hk5).1).trans hk5
          · refine ⟨_, results_tmp rfl _ _ _, _, rfl, ⟨ls, ls', ?_, HP.out, HPM.out, HSO.out, ?_⟩, hX'⟩
            · rw [HT.out, List.take_of_length_le (by rw [HN.out]; exact Nat.le_refl _)]
            · rw [← textsTo_all, HLN2.out]; rfl
end Go.Proofs.Qxb6612439a
