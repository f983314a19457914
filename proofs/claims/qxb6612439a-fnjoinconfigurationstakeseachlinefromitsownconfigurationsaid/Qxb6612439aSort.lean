/-
  slices.SortFunc (17) over the lines gathered, by their names; its closure (18).
-/
import Derived.Test.Qxb6612439aLin
namespace Go.Proofs.Qxb6612439a
open Go.RowKit Go.Shelf

/-- A line's two cells; the comparison of two lines. -/
def encP (p : ByteArray × ByteArray) : List Value := [.string p.1, .string p.2]
def cmpP (p q : ByteArray × ByteArray) : Int := Lib.compareBytes (bytesOf p.1) (bytesOf q.1)
def lessP (p q : ByteArray × ByteArray) : Bool := Op.bytesLess (bytesOf p.1) (bytesOf q.1)

theorem ltOf_cmpP (p q : ByteArray × ByteArray) : ltOf cmpP p q = lessP p q := by
  unfold ltOf cmpP lessP
  rw [Bool.eq_iff_iff, decide_eq_true_iff]
  exact cmp_less _ _

theorem swoP : Sort.SWO (ltOf cmpP) where
  irrefl x := by rw [ltOf_cmpP]; exact less_irrefl _
  trans x y z h1 h2 := by rw [ltOf_cmpP] at *; exact less_trans h1 h2
  ntrans x y z h1 h2 := by rw [ltOf_cmpP] at *; exact less_ntrans h1 h2

set_option maxHeartbeats 1000000 in
theorem closure18 (x y : ByteArray × ByteArray) (W : World) : Calls Try.prog 18 #[.agg #[.string x.1, .string x.2], .agg #[.string y.1, .string y.2]] W fun e w' => e = .returned (.int .i64 (cmpP x y)) ∧ ∃ q os', w' = Sort.grow (W.drewN q) os' := by
  have hcon := fun W' => Try.strings_Compare x.1 y.1 W'
  change ∀ W', Calls Try.prog 19 _ W' (fun e w' => e = .returned (.int .i64 (cmpP x y)) ∧ w' = W') at hcon
  generalize cmpP x y = r at hcon ⊢
  go_enter Try.func18, Try.ntmps18
  go_wp2_with (go_at_call 19; refine (hcon _).mono ?_; rintro e w' ⟨rfl, rfl⟩)
  go_ret
  exact ⟨rfl, 0, _, by rw [Sort.alloc_eq_grow, Sort.alloc_eq_grow, Sort.grow_grow]; rfl⟩

theorem cmpLays18 (blk off size : Nat) (w : World) : CmpLays Try.prog 18 #[] encP 2 cmpP blk off size w :=
  fun _ _ _ _ x y => closure18 x y _

/-- The slice value v reads as the lines ls. -/
def RowL (w : World) (v : Value) (ls : List (ByteArray × ByteArray)) : Prop :=
  ls = [] ∨ ∃ b cap, v = .slice (some ⟨b, 0, none⟩) ls.length cap ∧ ∀ i (h : i < ls.length), w.cell? ⟨b, 2 * i, none⟩ = some (.string ls[i].1) ∧ w.cell? ⟨b, 2 * i + 1, none⟩ = some (.string ls[i].2)

theorem grownBy_sortWorld (w : World) (blk off m : Nat) (d : Array (ByteArray × ByteArray)) (os : Array Obj) : w.grownBy (sortWorldK encP 2 w blk off m d os) (some blk) := by
  refine ⟨rfl, rfl, rfl, ?_, fun k hk hn => ?_⟩
  · simp [sortWorldK, Sort.grow, Sort.putRowK, Sort.putRow, Sort.mapBlock, Sort.ahead]
  · have hne : blk ≠ k := fun e => hn (by rw [e])
    simp [sortWorldK, Sort.grow, Sort.putRowK, Sort.putRow, Sort.mapBlock, Sort.ahead, Array.getElem?_append, hk, Array.getElem_modify, hne]

theorem sort_any (W : World) (B : Nat) (v : Value) (ls : List (ByteArray × ByteArray)) (hown : W.ownsRow B 50 2 v ls.length (cellsL ls)) (hsz : ls.length < 4611686018427387904) :
    Calls Try.prog 17 #[v, .func (.func 18) #[] #[]] W fun e W' => e = .returned (.tuple #[]) ∧ ∃ ls', ls'.Perm ls ∧ ls'.Pairwise (fun x y => lessP y x = false) ∧ RowL W' v ls' ∧ W.grownBy W' v.ownBlock := by
  rcases hown.2 with ⟨rfl, h0⟩ | ⟨g, cap, cur, rfl, hB, hcur, hc1, hc2, hc3, hc4⟩
  · have hls : ls = [] := List.eq_nil_of_length_eq_zero h0
    subst hls
    refine Calls.mono (AnyF.slices_SortFunc_none Try.sortLine none 0 (.func (.func 18) #[] #[]) W) ?_
    rintro e w' ⟨rfl, rfl⟩
    exact ⟨rfl, [], List.Perm.refl _, List.Pairwise.nil, .inl rfl, World.grownBy.refl _ _⟩
  · have eg : ∀ args w, (callFunc 18 args).run Try.prog w = .ok (.enter 18 args) w := enters_of Try.func18 (by kernel_rfl) rfl
    have hH : Sort.HoldsK encP 2 W g 0 ls.toArray := by
      intro j hj
      rw [Sort.size_flatK] at hj
      simp only [List.size_toArray] at hj
      rw [Sort.get_flatK _ _ _ _ (by simpa using hj)]
      have hlt : j / 2 < ls.length := by omega
      have hx := cellsL_get ls (j / 2) hlt
      have hread : W.cell? ⟨g, 0 + j, none⟩ = (cellsL ls)[j]? := by
        rw [← hc4, List.getElem?_take, if_pos hj, Nat.zero_add]
        simp [World.cell?, hcur]
      have hfr : W.frozen? ⟨g, 0 + j, none⟩ = false := by
        simp [World.frozen?, hcur]
      refine ⟨?_, hfr⟩
      rw [hread]
      have hg : ls.toArray[j / 2]! = ls[j / 2] := by simp [hlt]
      rw [hg]
      rcases Nat.mod_two_eq_zero_or_one j with e | e
      · rw [e]
        have : j = 2 * (j / 2) := by omega
        conv => lhs; rw [this]
        exact hx.1
      · rw [e]
        have : j = 2 * (j / 2) + 1 := by omega
        conv => lhs; rw [this]
        exact hx.2
    have hblk : g < W.heap.size := (Array.getElem?_eq_some_iff.1 hcur).1
    have hcon := AnyQ.slices_SortFunc Try.sortLine 2 Try.isAgg50 Try.sizeOf50 encP (fun _ => rfl) (fun x v hv => by simp [encP] at hv; rcases hv with rfl | rfl <;> rfl) cmpP swoP 18 #[] g 0 cap ls.toArray W eg (cmpLays18 g 0 _ W) hH hblk hsz
    refine Calls.mono hcon ?_
    rintro e w' ⟨rfl, d', n, os, hp, hs, rfl⟩
    obtain ⟨hp1, hp2, hp3⟩ := hp
    simp only [List.size_toArray] at hp1 hp3 hs
    have hpm : d'.toList.Perm ls := by
      rw [show d'.extract 0 ls.length = d' from by rw [← hp1]; simp] at hp3
      simpa using hp3
    have hlen : d'.toList.length = ls.length := hpm.length_eq
    refine ⟨rfl, d'.toList, hpm, ?_, ?_, grownBy_sortWorld ..⟩
    · rw [List.pairwise_iff_getElem]
      intro i j hi hj hij
      have := hs i j (Nat.zero_le _) hij (by omega)
      rw [ltOf_cmpP] at this
      rw [getElem!_pos d' i (by simpa using hi), getElem!_pos d' j (by simpa using hj)] at this
      simpa using this
    · right
      refine ⟨g, cap, by rw [hlen], fun i hi => ?_⟩
      have hH2 := holdsK_sortWorldK_c encP 2 W g 0 ls.toArray d' n os hH hblk (by simpa using hp1)
      have hi' : i < d'.size := by simpa using hi
      have h0 := (hH2.cell (i := i) (c := 0) hi' (by decide)).1
      have h1 := (hH2.cell (i := i) (c := 1) hi' (by decide)).1
      rw [getElem!_pos d' i hi'] at h0 h1
      rw [show 0 + i * 2 + 0 = 2 * i from by omega] at h0
      rw [show 0 + i * 2 + 1 = 2 * i + 1 from by omega] at h1
      exact ⟨h0, h1⟩

end Go.Proofs.Qxb6612439a
