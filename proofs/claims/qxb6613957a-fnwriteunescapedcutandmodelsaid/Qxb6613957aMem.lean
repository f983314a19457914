/-
  What a textBuilder of the call's own holds in memory ('Bld'), what a slice of bytes reads as ('RowAt'); the walks of begin (41) and writeByte (36).
-/
import Derived.Test.Qxb6613957aRows
import Derived.WalkKit
import Derived.WalkSpells
import Derived.WalkLawsBesides
import Derived.PlainAid
import Derived.Deep.RegionHeld3
import Derived.Deep.AppendLies
import Derived.Deep.DrawnRows
import Derived.Deep.RegionLaw
namespace Go.Proofs.Qxb6613957a
open Go.RowKit
attribute [local go_sem ↓] Go.wp_at_zero Go.wp_at_succ

theorem Try.info5 : (Try.prog.info? 5).map (fun i => (i.zero, i.size, i.bytes)) = some (some (.int .u8 0), 1, 1) := by kernel_rfl

/-- A byte as a value. -/
def byteV (c : UInt8) : Value := .int .u8 (c.toNat : Int)

/-- The builder at block T, its command text at block C: bytes xs, open flag, start; all in blocks from B on. -/
structure Bld (w : World) (B C T : Nat) (v : Value) (xs : List UInt8) (op : Bool) (st : Int) : Prop where
  bc : B ≤ C
  bt : B ≤ T
  ct : C ≠ T
  cl : C < w.heap.size
  tl : T < w.heap.size
  t0 : w.cell? ⟨T, 0, none⟩ = some (.pointer (some ⟨C, 0, none⟩))
  t1 : w.cell? ⟨T, 1, none⟩ = some (.slice none 0 0)
  t2 : w.cell? ⟨T, 2, none⟩ = some (.bool op)
  t3 : w.cell? ⟨T, 3, none⟩ = some (.int .i64 st)
  f2 : w.frozen? ⟨T, 2, none⟩ = false
  f3 : w.frozen? ⟨T, 3, none⟩ = false
  c0 : w.cell? ⟨C, 0, none⟩ = some v
  g0 : w.frozen? ⟨C, 0, none⟩ = false
  own : w.ownsRow B 5 1 v xs.length (xs.map byteV)
  vc : v.ownBlock ≠ some C
  vt : v.ownBlock ≠ some T

theorem ownsRow_form {w : World} {B e s n : Nat} {v : Value} {xs : List Value} (h : w.ownsRow B e s v n xs) : (v = .slice none 0 0 ∧ n = 0) ∨ ∃ g cap, v = .slice (some ⟨g, 0, none⟩) n cap ∧ B ≤ g ∧ n ≤ cap := by
  rcases h.2 with h | ⟨g, cap, cur, h1, h2, h3, h4, _⟩
  · exact .inl h
  · exact .inr ⟨g, cap, h1, h2, h4⟩

theorem ownsRow_slice {w : World} {B e s n : Nat} {v : Value} {xs : List Value} (h : w.ownsRow B e s v n xs) : ∃ a cap, v = .slice a n cap := by
  rcases ownsRow_form h with ⟨rfl, rfl⟩ | ⟨g, cap, rfl, _, _⟩
  · exact ⟨_, _, rfl⟩
  · exact ⟨_, _, rfl⟩

set_option maxHeartbeats 400000 in
theorem begin_open (T : Nat) (w : World) (h2 : w.cell? ⟨T, 2, none⟩ = some (.bool true)) :
    Calls Try.prog 41 #[.pointer (some ⟨T, 0, none⟩)] w fun e w' => e = .returned (.tuple #[]) ∧ w = w' := by
  go_enter Try.func41, Try.ntmps41
  go_wp2
  go_end0
  exact ⟨rfl, rfl⟩

set_option maxHeartbeats 400000 in
theorem begin_closed (C T n cap : Nat) (a : Option Addr) (st : Int) (w : World) (_ct : C ≠ T) (h0 : w.cell? ⟨T, 0, none⟩ = some (.pointer (some ⟨C, 0, none⟩)))
    (h2 : w.cell? ⟨T, 2, none⟩ = some (.bool false)) (h3 : w.cell? ⟨T, 3, none⟩ = some (.int .i64 st)) (f2 : w.frozen? ⟨T, 2, none⟩ = false) (f3 : w.frozen? ⟨T, 3, none⟩ = false)
    (c0 : w.cell? ⟨C, 0, none⟩ = some (.slice a n cap)) :
    Calls Try.prog 41 #[.pointer (some ⟨T, 0, none⟩)] w fun e w' => e = .returned (.tuple #[]) ∧ (w.setCell ⟨T, 2, none⟩ (.bool true)).setCell ⟨T, 3, none⟩ (.int .i64 n) = w' := by
  go_enter Try.func41, Try.ntmps41
  go_wp2
  go_end0
  exact ⟨rfl, rfl⟩

theorem grownBy_setCell (w : World) (a : Addr) (u : Value) : w.grownBy (w.setCell a u) (some a.block) :=
  ⟨rfl, rfl, rfl, by simp, fun k _ hk => Below.heap_setCell w a u k (fun e => hk (by rw [e]))⟩

theorem map_snoc (xs : List UInt8) (c : UInt8) : (xs ++ [c]).map byteV = xs.map byteV ++ [.int .u8 (c.toNat : Int)] := by simp [byteV]

/-- What the append of one byte and the store of the new slice do to the builder. -/
theorem bld_step {w w1 : World} {B C T gg cap' : Nat} {v : Value} {xs : List UInt8} {op : Bool} {st : Int} {c : UInt8} {o : Obj} (H : Bld w B C T v xs op st)
    (hown1 : w1.ownsRow B 5 1 (.slice (some ⟨gg, 0, none⟩) (xs.length + 1) cap') (xs.length + 1) (xs.map byteV ++ [.int .u8 (c.toNat : Int)]))
    (hgrow : (w.alloc o).drew.grownBy w1 v.ownBlock) (hat : v.ownBlock = some gg ∨ gg = w.heap.size + 1) :
    (∃ v', Bld (w1.setCell ⟨C, 0, none⟩ (.slice (some ⟨gg, 0, none⟩) (xs.length + 1) cap')) B C T v' (xs ++ [c]) op st) ∧
    Below B w (w1.setCell ⟨C, 0, none⟩ (.slice (some ⟨gg, 0, none⟩) (xs.length + 1) cap')) := by
  have hgC : gg ≠ C := by
    rcases hat with h | h
    · exact fun e => H.vc (by rw [h, e])
    · have := H.cl; omega
  have hgT : gg ≠ T := by
    rcases hat with h | h
    · exact fun e => H.vt (by rw [h, e])
    · have := H.tl; omega
  have hB : B ≤ w.heap.size := Nat.le_trans H.bc (Nat.le_of_lt H.cl)
  have bel0 : Below w.heap.size w (w.alloc o).drew := ((Below.refl w.heap.size w).alloc (Nat.le_refl _) o).drew
  have hsz : w.heap.size < (w.alloc o).drew.heap.size := by simp
  have cT : ∀ j, w1.cell? ⟨T, j, none⟩ = w.cell? ⟨T, j, none⟩ := fun j => (hgrow.cell_far ⟨T, j, none⟩ (Nat.lt_trans H.tl hsz) (Ne.symm H.vt)).trans (bel0.cell (p := ⟨T, j, none⟩) H.tl)
  have zT : ∀ j, w1.frozen? ⟨T, j, none⟩ = w.frozen? ⟨T, j, none⟩ := fun j => (hgrow.frozen_far ⟨T, j, none⟩ (Nat.lt_trans H.tl hsz) (Ne.symm H.vt)).trans (bel0.frozen (p := ⟨T, j, none⟩) H.tl)
  have cC : ∀ j, w1.cell? ⟨C, j, none⟩ = w.cell? ⟨C, j, none⟩ := fun j => (hgrow.cell_far ⟨C, j, none⟩ (Nat.lt_trans H.cl hsz) (Ne.symm H.vc)).trans (bel0.cell (p := ⟨C, j, none⟩) H.cl)
  have zC : ∀ j, w1.frozen? ⟨C, j, none⟩ = w.frozen? ⟨C, j, none⟩ := fun j => (hgrow.frozen_far ⟨C, j, none⟩ (Nat.lt_trans H.cl hsz) (Ne.symm H.vc)).trans (bel0.frozen (p := ⟨C, j, none⟩) H.cl)
  have hne : ∀ j, (⟨C, 0, none⟩ : Addr) ≠ ⟨T, j, none⟩ := fun j e => H.ct (by cases e; rfl)
  have kT : ∀ u j, (w1.setCell ⟨C, 0, none⟩ u).cell? ⟨T, j, none⟩ = w.cell? ⟨T, j, none⟩ := fun u j => (World.cell?_setCell_other _ _ _ _ (hne j)).trans (cT j)
  have hs1 : w.heap.size ≤ w1.heap.size := Nat.le_trans (by simp) hgrow.size
  refine ⟨⟨.slice (some ⟨gg, 0, none⟩) (xs.length + 1) cap', H.bc, H.bt, H.ct, by simp; have := H.cl; omega, by simp; have := H.tl; omega, (kT _ 0).trans H.t0, (kT _ 1).trans H.t1, (kT _ 2).trans H.t2, (kT _ 3).trans H.t3,
    by rw [World.frozen?_setCell]; exact (zT 2).trans H.f2, by rw [World.frozen?_setCell]; exact (zT 3).trans H.f3, World.cell?_setCell_same _ _ _ ((cC 0).trans H.c0), by rw [World.frozen?_setCell]; exact (zC 0).trans H.g0, ?_, ?_, ?_⟩, ?_⟩
  · rw [map_snoc, List.length_append]
    exact hown1.kept (grownBy_setCell _ _ _) (.inr (by simp [Value.ownBlock]; exact hgC))
  · simp [Value.ownBlock]; exact hgC
  · simp [Value.ownBlock]; exact hgT
  · exact (((((Below.refl B w).alloc hB o).drew).grown hgrow (by simp; omega) (fun k hk => (H.own.lt k hk).1))).setCell H.bc _

/-- Where the builder's bytes of its own begin, once one has been written. -/
def startOf (op : Bool) (st : Int) (n : Nat) : Int := if op then st else (n : Int)

theorem begin_any (B C T : Nat) (v : Value) (xs : List UInt8) (op : Bool) (st : Int) (w : World) (H : Bld w B C T v xs op st) :
    Calls Try.prog 41 #[.pointer (some ⟨T, 0, none⟩)] w fun e w' => e = .returned (.tuple #[]) ∧ Bld w' B C T v xs true (startOf op st xs.length) ∧ Below B w w' := by
  cases op with
  | true =>
    refine (begin_open T w H.t2).mono ?_
    rintro e w' ⟨rfl, rfl⟩
    exact ⟨rfl, H, Below.refl _ _⟩
  | false =>
    obtain ⟨a, cap, rfl⟩ := ownsRow_slice H.own
    refine (begin_closed C T xs.length cap a st w H.ct H.t0 H.t2 H.t3 H.f2 H.f3 H.c0).mono ?_
    rintro e w' ⟨rfl, rfl⟩
    have n2 : ∀ j, (⟨T, 2, none⟩ : Addr) ≠ ⟨C, j, none⟩ := fun j e => H.ct (by cases e; rfl)
    have n3 : ∀ j, (⟨T, 3, none⟩ : Addr) ≠ ⟨C, j, none⟩ := fun j e => H.ct (by cases e; rfl)
    have m23 : (⟨T, 2, none⟩ : Addr) ≠ ⟨T, 3, none⟩ := fun e => by cases e
    have m20 : (⟨T, 2, none⟩ : Addr) ≠ ⟨T, 0, none⟩ := fun e => by cases e
    have m21 : (⟨T, 2, none⟩ : Addr) ≠ ⟨T, 1, none⟩ := fun e => by cases e
    have m30 : (⟨T, 3, none⟩ : Addr) ≠ ⟨T, 0, none⟩ := fun e => by cases e
    have m31 : (⟨T, 3, none⟩ : Addr) ≠ ⟨T, 1, none⟩ := fun e => by cases e
    refine ⟨rfl, ⟨H.bc, H.bt, H.ct, by simpa using H.cl, by simpa using H.tl, ?_, ?_, ?_, ?_, ?_, ?_, ?_, ?_, ?_, H.vc, H.vt⟩, ((Below.refl B w).setCell H.bt _).setCell H.bt _⟩
    · rw [World.cell?_setCell_other _ _ _ _ m30, World.cell?_setCell_other _ _ _ _ m20]; exact H.t0
    · rw [World.cell?_setCell_other _ _ _ _ m31, World.cell?_setCell_other _ _ _ _ m21]; exact H.t1
    · rw [World.cell?_setCell_other _ _ _ _ (Ne.symm m23)]; exact World.cell?_setCell_same _ _ _ H.t2
    · exact World.cell?_setCell_same _ _ _ ((World.cell?_setCell_other _ _ _ _ m23).trans H.t3)
    · rw [World.frozen?_setCell, World.frozen?_setCell]; exact H.f2
    · rw [World.frozen?_setCell, World.frozen?_setCell]; exact H.f3
    · rw [World.cell?_setCell_other _ _ _ _ (n3 0), World.cell?_setCell_other _ _ _ _ (n2 0)]; exact H.c0
    · rw [World.frozen?_setCell, World.frozen?_setCell]; exact H.g0
    · exact (H.own.kept (grownBy_setCell w ⟨T, 2, none⟩ _) (.inr H.vt)).kept (grownBy_setCell _ ⟨T, 3, none⟩ _) (.inr H.vt)

set_option maxHeartbeats 1000000 in
theorem byte_any (B C T : Nat) (v : Value) (xs : List UInt8) (op : Bool) (st : Int) (c : UInt8) (w0 : World) (h : Bld w0 B C T v xs op st) (hlen : xs.length ≤ 10000000) :
    Calls Try.prog 36 #[.pointer (some ⟨T, 0, none⟩), .int .u8 (c.toNat : Int)] w0 fun e w' => e = .returned (.tuple #[]) ∧ ∃ v', Bld w' B C T v' (xs ++ [c]) true (startOf op st xs.length) ∧ Below B w0 w' := by
  obtain ⟨i0, hi0, hz0, hz1, hz2⟩ := info_parts Try.info5
  have hb := begin_any B C T v xs op st w0 h
  have HB : Hid _ := hb
  clear hb h
  go_enter Try.func36, Try.ntmps36
  go_wp2_with fail
  refine Calls.mono HB.out ?_
  rintro e w ⟨rfl, h, hbel⟩
  clear HB
  have t0 := h.t0
  have c0 := h.c0
  have g0 := h.g0
  have tl := h.tl
  have cl := h.cl
  have ct := h.ct
  have hB : B ≤ w.heap.size := Nat.le_trans h.bc (Nat.le_of_lt cl)
  have HL : Hid (Below B w0 w) := hbel
  have H : Hid (Bld w B C T v xs true (startOf op st xs.length)) := h
  obtain ⟨a, cap, rfl⟩ := ownsRow_slice h.own
  have HF : Hid (∀ o, (w.alloc o).drew.frozen? ⟨C, 0, none⟩ = false) := fun o => (((Below.refl w.heap.size w).alloc (Nat.le_refl _) o).drew.frozen (p := ⟨C, 0, none⟩) cl).trans g0
  have HT : Hid (∀ o, (w.alloc o).drew.cell? ⟨T, 0, none⟩ = some (.pointer (some ⟨C, 0, none⟩))) := fun o => (((Below.refl w.heap.size w).alloc (Nat.le_refl _) o).drew.cell (p := ⟨T, 0, none⟩) tl).trans t0
  have HG : Hid (∀ o, (w.alloc o).drew.cell? ⟨C, 0, none⟩ = some (.slice a xs.length cap)) := fun o => (((Below.refl w.heap.size w).alloc (Nat.le_refl _) o).drew.cell (p := ⟨C, 0, none⟩) cl).trans c0
  clear h hbel
  go_wp2_with fail
  go_region_law ((refine step_append_lies _ (by rfl) _ _ _ (by rfl) B 5 i0 _ 1 1 Try.underlying27 hi0 hz0 hz1 hz2 rfl (by omega) (.slice a xs.length cap) xs.length (xs.map byteV) (by rfl) ((H.out.own.alloc _).drew) ⟨w.heap.size, 0, none⟩ 1 1 [.int .u8 (c.toNat : Int)] (by rfl) (by rfl) (World.news_of_block (cs := #[.int .u8 (c.toNat : Int)]) (t := 5) (fr := (0, 0)) (heap_alloc_new w _)) (by simp [Value.oneCell']) (by omega) (by unfold maxLen; omega) (by omega) (by simp; omega) (w.heap.size + 1) (by simp) ?_; intro gg cap' w1 hown1 hgrow hat hlt; have hfz : w1.frozen? ⟨C, 0, none⟩ = false := (hgrow.frozen_far _ (by simp; omega) (Ne.symm H.out.vc)).trans (HF.out _); have hq0 : w1.cell? ⟨T, 0, none⟩ = some (.pointer (some ⟨C, 0, none⟩)) := (hgrow.cell_far _ (by simp; omega) (Ne.symm H.out.vt)).trans (HT.out _); have hq1 : w1.cell? ⟨C, 0, none⟩ = some (.slice a xs.length cap) := (hgrow.cell_far _ (by simp; omega) (Ne.symm H.out.vc)).trans (HG.out _)))
  all_goals
    go_end0
    obtain ⟨⟨v', hb1⟩, hb2⟩ := bld_step H.out hown1 hgrow hat
    exact ⟨rfl, v', hb1, HL.out.trans hb2⟩

end Go.Proofs.Qxb6613957a
