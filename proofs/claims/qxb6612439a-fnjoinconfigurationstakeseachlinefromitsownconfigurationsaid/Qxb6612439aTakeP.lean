/-
  Plain laws for TakesEachLine: the kept lines of each configuration, merged round by round, are the joined text.
-/
import Derived.Test.Qxb6612439aMerge
namespace Go.Proofs.Qxb6612439a
open Go.RowKit Go.Shelf

abbrev Line := ByteArray × ByteArray

/-- l are the lines of c whose name is taken from number j. -/
def KeptAt (Fn : List UInt8 → Int) (j : Nat) (c : ByteArray) (l : List Line) : Prop :=
  l.map (fun p => bytesOf p.2) = pickL Fn j (splitL (bytesOf c)) ∧ (∀ p ∈ l, bytesOf p.1 = nameL (bytesOf p.2)) ∧ l.Pairwise (fun x y => lessP x y = true) ∧ ∀ p ∈ l, Fn (bytesOf p.1) = (j : Int)

/-- One run for each configuration, from number j on. -/
def KeptAll (Fn : List UInt8 → Int) : Nat → List ByteArray → List (List Line) → Prop
  | _, [], [] => True
  | j, c :: cs, l :: lss => KeptAt Fn j c l ∧ KeptAll Fn (j + 1) cs lss
  | _, _, _ => False

theorem KeptAll.snoc {Fn : List UInt8 → Int} : ∀ {j : Nat} {cs : List ByteArray} {lss : List (List Line)} {c : ByteArray} {l : List Line}, KeptAll Fn j cs lss → KeptAt Fn (j + cs.length) c l → KeptAll Fn j (cs ++ [c]) (lss ++ [l])
  | j, [], [], c, l, _, h => ⟨by simpa using h, trivial⟩
  | j, d :: cs, m :: lss, c, l, h, h2 => ⟨h.1, KeptAll.snoc h.2 (by simpa [Nat.add_assoc, Nat.add_comm 1] using h2)⟩
  | _, [], _ :: _, _, _, h, _ => h.elim
  | _, _ :: _, [], _, _, h, _ => h.elim

theorem KeptAll.length {Fn : List UInt8 → Int} : ∀ {j : Nat} {cs : List ByteArray} {lss : List (List Line)}, KeptAll Fn j cs lss → lss.length = cs.length
  | _, [], [], _ => rfl
  | _, c :: cs, l :: lss, h => by simp [KeptAll.length h.2]
  | _, [], _ :: _, h => h.elim
  | _, _ :: _, [], h => h.elim

/-- The runs rise, and share no name. -/
def Good (lss : List (List Line)) : Prop :=
  (∀ l ∈ lss, l.Pairwise (fun x y => lessP x y = true)) ∧ lss.Pairwise (fun a b => ∀ x ∈ a, ∀ y ∈ b, bytesOf x.1 ≠ bytesOf y.1)

theorem KeptAll.from {Fn : List UInt8 → Int} : ∀ {j : Nat} {cs : List ByteArray} {lss : List (List Line)}, KeptAll Fn j cs lss → ∀ l ∈ lss, ∀ p ∈ l, (j : Int) ≤ Fn (bytesOf p.1)
  | _, [], [], _, l, hl => by cases hl
  | j, c :: cs, l :: lss, h, m, hm => by
    intro p hp
    rcases List.mem_cons.1 hm with e | e
    · subst e; rw [h.1.2.2.2 p hp]; exact Int.le_refl _
    · have := KeptAll.from h.2 m e p hp; omega
  | _, [], _ :: _, h, _, _ => h.elim
  | _, _ :: _, [], h, _, _ => h.elim

theorem KeptAll.good {Fn : List UInt8 → Int} : ∀ {j : Nat} {cs : List ByteArray} {lss : List (List Line)}, KeptAll Fn j cs lss → Good lss
  | _, [], [], _ => ⟨by simp, .nil⟩
  | j, c :: cs, l :: lss, h => by
    have ih := KeptAll.good h.2
    refine ⟨fun m hm => ?_, List.pairwise_cons.2 ⟨fun b hb x hx y hy e => ?_, ih.2⟩⟩
    · rcases List.mem_cons.1 hm with e | e
      · subst e; exact h.1.2.2.1
      · exact ih.1 m e
    · have h1 := h.1.2.2.2 x hx
      have h2 := KeptAll.from h.2 b hb y hy
      rw [e] at h1
      omega
  | _, [], _ :: _, h => h.elim
  | _, _ :: _, [], h => h.elim

theorem KeptAll.texts {Fn : List UInt8 → Int} : ∀ {j : Nat} {cs : List ByteArray} {lss : List (List Line)}, KeptAll Fn j cs lss → lss.flatten.map (fun p => bytesOf p.2) = pickAll Fn j cs ∧ ∀ p ∈ lss.flatten, bytesOf p.1 = nameL (bytesOf p.2)
  | _, [], [], _ => ⟨rfl, by simp⟩
  | j, c :: cs, l :: lss, h => by
    have ih := KeptAll.texts h.2
    refine ⟨by rw [List.flatten_cons, List.map_append, ih.1, h.1.1, pickAll], fun p hp => ?_⟩
    rcases List.mem_append.1 (by simpa [List.flatten_cons] using hp : p ∈ l ++ lss.flatten) with e | e
    · exact h.1.2.1 p e
    · exact ih.2 p e
  | _, [], _ :: _, h => h.elim
  | _, _ :: _, [], h => h.elim

/-- One round of merging. -/
def mergeR : List (List Line) → List (List Line)
  | a :: b :: r => mergeL a b :: mergeR r
  | r => r

theorem mergeR_length : ∀ lss : List (List Line), (mergeR lss).length = (lss.length + 1) / 2
  | [] => rfl
  | [a] => by simp [mergeR]
  | a :: b :: r => by rw [mergeR, List.length_cons, mergeR_length r]; simp; omega

theorem mergeR_flat : ∀ lss : List (List Line), (mergeR lss).flatten.Perm lss.flatten
  | [] => .refl _
  | [a] => .refl _
  | a :: b :: r => by
    rw [mergeR, List.flatten_cons, List.flatten_cons, List.flatten_cons, ← List.append_assoc]
    exact (mergeL_perm a b).append (mergeR_flat r)

theorem mergeR_mem : ∀ {lss : List (List Line)} {l : List Line} {x : Line}, l ∈ mergeR lss → x ∈ l → ∃ m ∈ lss, x ∈ m
  | [], _, _, hl, _ => by cases hl
  | [a], l, x, hl, hx => ⟨l, hl, hx⟩
  | a :: b :: r, l, x, hl, hx => by
    rw [mergeR] at hl
    rcases List.mem_cons.1 hl with e | e
    · subst e
      rcases List.mem_append.1 ((mergeL_perm a b).mem_iff.1 hx) with e | e
      · exact ⟨a, by simp, e⟩
      · exact ⟨b, by simp, e⟩
    · obtain ⟨m, hm, hxm⟩ := mergeR_mem e hx
      exact ⟨m, by simp [hm], hxm⟩

theorem Good.round : ∀ {lss : List (List Line)}, Good lss → Good (mergeR lss)
  | [], h => h
  | [a], h => h
  | a :: b :: r, h => by
    have hp := List.pairwise_cons.1 h.2
    have hq := List.pairwise_cons.1 hp.2
    have ih : Good (mergeR r) := Good.round ⟨fun l hl => h.1 l (by simp [hl]), hq.2⟩
    rw [mergeR]
    refine ⟨fun l hl => ?_, List.pairwise_cons.2 ⟨fun l hl x hx y hy => ?_, ih.2⟩⟩
    · rcases List.mem_cons.1 hl with e | e
      · subst e
        exact mergeL_rises a b (h.1 a (by simp)) (h.1 b (by simp)) (hp.1 b (by simp))
      · exact ih.1 l e
    · obtain ⟨m, hm, hym⟩ := mergeR_mem hl hy
      rcases List.mem_append.1 ((mergeL_perm a b).mem_iff.1 hx) with e | e
      · exact hp.1 m (by simp [hm]) x e y hym
      · exact hq.1 m hm x e y hym

theorem mergeR_two {lss : List (List Line)} {i : Nat} (h : i + 1 < lss.length) : mergeR (lss.drop i) = mergeL lss[i] lss[i + 1] :: mergeR (lss.drop (i + 2)) := by
  rw [List.drop_eq_getElem_cons (by omega : i < lss.length), List.drop_eq_getElem_cons (by omega : i + 1 < lss.length), mergeR]
theorem mergeR_one {lss : List (List Line)} {i : Nat} (h : i + 1 = lss.length) : mergeR (lss.drop i) = [lss[i]'(by omega)] := by
  rw [List.drop_eq_getElem_cons (by omega : i < lss.length), List.drop_eq_nil_of_le (by omega)]
  rfl
theorem mergeR_nil {lss : List (List Line)} {i : Nat} (h : lss.length ≤ i) : mergeR (lss.drop i) = [] := by
  rw [List.drop_eq_nil_of_le h]
  rfl

theorem flat_two {lss : List (List Line)} {i : Nat} (h : i + 1 < lss.length) : lss[i].length + lss[i + 1].length ≤ lss.flatten.length := by
  have e : lss.flatten = (lss.take i).flatten ++ (lss.drop i).flatten := by rw [← List.flatten_append, List.take_append_drop]
  rw [e, List.drop_eq_getElem_cons (by omega : i < lss.length), List.drop_eq_getElem_cons (by omega : i + 1 < lss.length)]
  simp only [List.length_append, List.flatten_cons]
  omega
theorem flat_one {lss : List (List Line)} {i : Nat} (h : i < lss.length) : lss[i].length ≤ lss.flatten.length := by
  have e : lss.flatten = (lss.take i).flatten ++ (lss.drop i).flatten := by rw [← List.flatten_append, List.take_append_drop]
  rw [e, List.drop_eq_getElem_cons h]
  simp only [List.length_append, List.flatten_cons]
  omega

theorem pairs_eq : ∀ {d e : List Line}, d.map (fun p => bytesOf p.2) = e.map (fun p => bytesOf p.2) → (∀ p ∈ d, bytesOf p.1 = nameL (bytesOf p.2)) → (∀ p ∈ e, bytesOf p.1 = nameL (bytesOf p.2)) → d = e
  | [], [], _, _, _ => rfl
  | p :: d, q :: e, h, h1, h2 => by
    simp only [List.map_cons, List.cons.injEq] at h
    have ih := pairs_eq h.2 (fun x hx => h1 x (by simp [hx])) (fun x hx => h2 x (by simp [hx]))
    have e2 : p.2 = q.2 := bytesOf_inj h.1
    have e1 : p.1 = q.1 := bytesOf_inj (by rw [h1 p (by simp), h2 q (by simp), e2])
    rw [ih, Prod.ext e1 e2]
  | [], _ :: _, h, _, _ => by simp at h
  | _ :: _, [], h, _, _ => by simp at h

/-- THE PLAIN LAW. -/
theorem take_plain {Fn : List UInt8 → Int} {ss : List ByteArray} {lss fin : List (List Line)} {r : ByteArray} (hk : KeptAll Fn 0 ss lss) (hj : Joined Fn ss r) (hf : fin.flatten.Perm lss.flatten) (hg : Good fin) (hl : fin.length ≤ 1) :
    bytesOf r = (fin.flatten.map fun p => bytesOf p.2).flatten := by
  obtain ⟨d, d', h1, h2, h3, h4, h5⟩ := hj
  obtain ⟨t1, t2⟩ := hk.texts
  have hd : d = lss.flatten := pairs_eq (by rw [h1, t1]) h2 t2
  have hs : fin.flatten.Pairwise (fun x y => lessP x y = true) := by
    match fin, hl, hg with
    | [], _, _ => exact .nil
    | [l], _, hg => simpa using hg.1 l (by simp)
    | _ :: _ :: _, hl, _ => simp at hl
  have e : d' = fin.flatten := sorted_unique lessP fin.flatten d' hs h4 (h3.trans (by rw [hd]; exact hf.symm))
  rw [h5, e]

/-- What one configuration's kept lines are. -/
theorem kept_at {Fn : List UInt8 → Int} {j : Nat} {c : ByteArray} {ls : List Line} (hs : Split (bytesOf c) c.size ls) (hr : Rises ls) : KeptAt Fn j c (ls.filter fun p => Fn (bytesOf p.1) == (j : Int)) := by
  obtain ⟨s1, s2, s3⟩ := hs
  clear s2
  have e1 : ls.map (fun p => bytesOf p.2) = splitL (bytesOf c) := by
    rw [drop_end c c.size (Nat.le_refl _)] at s1
    simpa [splitL] using s1
  have hp := rises_pairwise _ hr
  rw [List.pairwise_map] at hp
  refine ⟨?_, fun p hp => s3 p (List.mem_filter.1 hp).1, hp.sublist List.filter_sublist, fun p hp => by simpa using (List.mem_filter.1 hp).2⟩
  rw [← e1]
  clear s1 e1 hr hp
  unfold pickL
  induction ls with
  | nil => rfl
  | cons p ls ih =>
    have ih' := ih (fun q hq => s3 q (by simp [hq]))
    have hn := s3 p (by simp)
    rw [List.filter_cons, List.map_cons, List.filter_cons, ← hn]
    split
    · rw [List.map_cons, ih']
    · exact ih'

theorem pick_len {Fn : List UInt8 → Int} {ss : List ByteArray} {lss : List (List Line)} (hk : KeptAll Fn 0 ss lss) : lss.flatten.length ≤ sumS 0 ss := by
  have h := congrArg List.length hk.texts.1
  rw [List.length_map] at h
  have h2 := pickAll_len Fn ss ss.length 0
  rw [List.take_length] at h2
  omega

theorem texts_len {Fn : List UInt8 → Int} {ss : List ByteArray} {lss fin : List (List Line)} (hk : KeptAll Fn 0 ss lss) (hf : fin.flatten.Perm lss.flatten) : (fin.flatten.map fun p => bytesOf p.2).flatten.length ≤ sumS 0 ss := by
  rw [flat_perm hf, hk.texts.1]
  have h2 := pickAll_flat Fn ss ss.length 0
  rw [List.take_length] at h2
  exact h2

end Go.Proofs.Qxb6612439a
