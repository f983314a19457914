/-
  THE PLAIN LAW: what token a dollar sign at place i begins, said of the bytes 'f' of a text of n bytes; no Go in it.
-/
namespace Go.Proofs.Qxb6000792a

def isD (c : Int) : Prop := 48 ≤ c ∧ c ≤ 57
def isN (c : Int) : Prop := (97 ≤ c ∧ c ≤ 122) ∨ (65 ≤ c ∧ c ≤ 90) ∨ (48 ≤ c ∧ c ≤ 57) ∨ c = 95 ∨ 128 ≤ c

/-- No digit stands behind place i. -/
def NoDig (f : Nat → Int) (n i : Nat) : Prop := i + 1 < n → ¬ isD (f (i + 1))
/-- From behind i up to j all bytes are names' bytes and none is the dollar sign. -/
def NameTo (f : Nat → Int) (i j : Nat) : Prop := i + 1 ≤ j ∧ ∀ k, i + 1 ≤ k → k < j → f k ≠ 36 ∧ isN (f k)
/-- From behind i up to j all bytes are digits, and j is the run's end. -/
def DigTo (f : Nat → Int) (n i j : Nat) : Prop := i + 1 ≤ j ∧ j ≤ n ∧ (∀ k, i + 1 ≤ k → k < j → isD (f k)) ∧ (j < n → ¬ isD (f j))
/-- A tag opens at i and closes at j. -/
def Tag (f : Nat → Int) (n i j : Nat) : Prop := NoDig f n i ∧ j < n ∧ NameTo f i j ∧ f j = 36
/-- The L bytes from a on are those from b on. -/
def Eqs (f : Nat → Int) (a b L : Nat) : Prop := ∀ m, m < L → f (a + m) = f (b + m)

def Quo (f : Nat → Int) (n i j p : Nat) : Prop := Tag f n i j ∧ j + 1 ≤ p ∧ p + (j + 1 - i) ≤ n ∧ Eqs f p i (j + 1 - i) ∧ ∀ p', j + 1 ≤ p' → p' < p → ¬ Eqs f p' i (j + 1 - i)
def Unt (f : Nat → Int) (n i j : Nat) : Prop := Tag f n i j ∧ ∀ p', j + 1 ≤ p' → p' + (j + 1 - i) ≤ n → ¬ Eqs f p' i (j + 1 - i)
def Pln (f : Nat → Int) (n i j : Nat) : Prop := NoDig f n i ∧ j ≤ n ∧ NameTo f i j ∧ (j < n → f j ≠ 36 ∧ ¬ isN (f j))

/-- The token at i: its kind and its end. -/
def Tok (f : Nat → Int) (n i : Nat) (kind e : Int) : Prop :=
  (kind = 3 ∧ ∃ j, i + 1 < j ∧ DigTo f n i j ∧ e = (j : Int)) ∨
  (kind = 0 ∧ e = (i : Int) + 1 ∧ ∃ j, Pln f n i j) ∨
  (kind = 1 ∧ ∃ j p, Quo f n i j p ∧ e = ((p + (j + 1 - i) : Nat) : Int)) ∨
  (kind = 4 ∧ e = 0 ∧ ∃ j, Unt f n i j)

theorem tag_unique {f : Nat → Int} {n i j j' : Nat} (h : Tag f n i j) (h' : Tag f n i j') : j = j' := by
  obtain ⟨_, _, ⟨a1, a2⟩, a3⟩ := h
  obtain ⟨_, _, ⟨b1, b2⟩, b3⟩ := h'
  rcases Nat.lt_trichotomy j j' with c | c | c
  · exact absurd a3 (b2 j a1 c).1
  · exact c
  · exact absurd b3 (a2 j' b1 c).1

theorem dig_unique {f : Nat → Int} {n i j j' : Nat} (h : DigTo f n i j) (h' : DigTo f n i j') : j = j' := by
  obtain ⟨a1, a2, a3, a4⟩ := h
  obtain ⟨b1, b2, b3, b4⟩ := h'
  rcases Nat.lt_trichotomy j j' with c | c | c
  · exact absurd (b3 j a1 c) (a4 (by omega))
  · exact c
  · exact absurd (a3 j' b1 c) (b4 (by omega))

theorem dig_nodig {f : Nat → Int} {n i j : Nat} (h : DigTo f n i j) (hj : i + 1 < j) (h' : NoDig f n i) : False :=
  h' (by have := h.2.1; omega) (h.2.2.1 (i + 1) (Nat.le_refl _) hj)

theorem pln_tag {f : Nat → Int} {n i j j' : Nat} (h : Pln f n i j) (h' : Tag f n i j') : False := by
  obtain ⟨_, a0, ⟨a1, a2⟩, a3⟩ := h
  obtain ⟨_, b0, ⟨b1, b2⟩, b3⟩ := h'
  rcases Nat.lt_trichotomy j j' with c | c | c
  · exact (a3 (by omega)).2 (b2 j a1 c).2
  · subst c; exact (a3 b0).1 b3
  · exact (a2 j' b1 c).1 b3

theorem quo_unique {f : Nat → Int} {n i j p j' p' : Nat} (h : Quo f n i j p) (h' : Quo f n i j' p') : j = j' ∧ p = p' := by
  have e := tag_unique h.1 h'.1
  subst e
  refine ⟨rfl, ?_⟩
  obtain ⟨_, a1, a2, a3, a4⟩ := h
  obtain ⟨_, b1, b2, b3, b4⟩ := h'
  rcases Nat.lt_trichotomy p p' with c | c | c
  · exact absurd a3 (b4 p a1 c)
  · exact c
  · exact absurd b3 (a4 p' b1 c)

theorem quo_unt {f : Nat → Int} {n i j p j' : Nat} (h : Quo f n i j p) (h' : Unt f n i j') : False := by
  have e := tag_unique h.1 h'.1
  subst e
  exact h'.2 p h.2.1 h.2.2.1 h.2.2.2.1

theorem tok_unique {f : Nat → Int} {n i : Nat} {k e k' e' : Int} (h : Tok f n i k e) (h' : Tok f n i k' e') : k = k' ∧ e = e' := by
  rcases h with ⟨rfl, j, hj, h, rfl⟩ | ⟨rfl, rfl, j, h⟩ | ⟨rfl, j, p, h, rfl⟩ | ⟨rfl, rfl, j, h⟩ <;>
  rcases h' with ⟨rfl, j', hj', h', rfl⟩ | ⟨rfl, rfl, j', h'⟩ | ⟨rfl, j', p', h', rfl⟩ | ⟨rfl, rfl, j', h'⟩
  · exact ⟨rfl, by rw [dig_unique h h']⟩
  · exact (dig_nodig h hj h'.1).elim
  · exact (dig_nodig h hj h'.1.1).elim
  · exact (dig_nodig h hj h'.1.1).elim
  · exact (dig_nodig h' hj' h.1).elim
  · exact ⟨rfl, rfl⟩
  · exact (pln_tag h h'.1).elim
  · exact (pln_tag h h'.1).elim
  · exact (dig_nodig h' hj' h.1.1).elim
  · exact (pln_tag h' h.1).elim
  · obtain ⟨rfl, rfl⟩ := quo_unique h h'; exact ⟨rfl, rfl⟩
  · exact (quo_unt h h').elim
  · exact (dig_nodig h' hj' h.1.1).elim
  · exact (pln_tag h' h.1).elim
  · exact (quo_unt h' h).elim
  · exact ⟨rfl, rfl⟩

section shift
variable {f g : Nat → Int} {n i a : Nat}

theorem NoDig.shift (hg : ∀ k, k < n → g (a + k) = f k) (h : NoDig f n i) : NoDig g (a + n) (a + i) := fun hlt => by
  have := h (by omega)
  rw [show a + i + 1 = a + (i + 1) from by omega, hg _ (by omega)]; exact this

theorem NameTo.shift {j : Nat} (hg : ∀ k, k < n → g (a + k) = f k) (hj : j ≤ n) (h : NameTo f i j) : NameTo g (a + i) (a + j) :=
  ⟨by have := h.1; omega, fun k h1 h2 => by
    have := h.2 (k - a) (by omega) (by omega)
    have e : g k = f (k - a) := by rw [← hg _ (by omega)]; congr 1; omega
    rw [e]; exact this⟩

theorem Tag.shift {j : Nat} (hg : ∀ k, k < n → g (a + k) = f k) (h : Tag f n i j) : Tag g (a + n) (a + i) (a + j) :=
  ⟨h.1.shift hg, by have := h.2.1; omega, h.2.2.1.shift hg (by have := h.2.1; omega), by rw [hg _ h.2.1]; exact h.2.2.2⟩

theorem Eqs.shift {x y L : Nat} (hg : ∀ k, k < n → g (a + k) = f k) (hx : x + L ≤ n) (hy : y + L ≤ n) : Eqs g (a + x) (a + y) L ↔ Eqs f x y L := by
  constructor
  · intro h m hm
    have := h m hm
    rw [show a + x + m = a + (x + m) from by omega, show a + y + m = a + (y + m) from by omega, hg _ (by omega), hg _ (by omega)] at this
    exact this
  · intro h m hm
    rw [show a + x + m = a + (x + m) from by omega, show a + y + m = a + (y + m) from by omega, hg _ (by omega), hg _ (by omega)]
    exact h m hm

theorem Tok.shift {k e : Int} (hg : ∀ k, k < n → g (a + k) = f k) (h : Tok f n i k e) : Tok g (a + n) (a + i) k (if k = 4 then 0 else e + (a : Int)) := by
  rcases h with ⟨rfl, j, hj, h, rfl⟩ | ⟨rfl, rfl, j, h⟩ | ⟨rfl, j, p, h, rfl⟩ | ⟨rfl, rfl, j, h⟩
  · refine .inl ⟨rfl, a + j, by omega, ⟨by omega, by have := h.2.1; omega, fun k h1 h2 => ?_, fun hlt => ?_⟩, by simp; omega⟩
    · have := h.2.2.1 (k - a) (by omega) (by omega)
      have e : g k = f (k - a) := by rw [← hg _ (by have := h.2.1; omega)]; congr 1; omega
      rw [e]; exact this
    · rw [hg _ (by omega)]; exact h.2.2.2 (by omega)
  · refine .inr (.inl ⟨rfl, by simp; omega, a + j, h.1.shift hg, by have := h.2.1; omega, h.2.2.1.shift hg h.2.1, fun hlt => ?_⟩)
    rw [hg _ (by omega)]; exact h.2.2.2 (by omega)
  · obtain ⟨ht, h1, h2, h3, h4⟩ := h
    have hij := ht.2.2.1.1
    refine .inr (.inr (.inl ⟨rfl, a + j, a + p, ⟨ht.shift hg, by omega, by omega, ?_, fun p' q1 q2 => ?_⟩, by simp; omega⟩))
    · rw [show a + j + 1 - (a + i) = j + 1 - i from by omega]; exact (Eqs.shift hg (by omega) (by omega)).2 h3
    · rw [show a + j + 1 - (a + i) = j + 1 - i from by omega]
      have := h4 (p' - a) (by omega) (by omega)
      rw [show p' = a + (p' - a) from by omega]
      exact fun hh => this ((Eqs.shift hg (by omega) (by omega)).1 hh)
  · obtain ⟨ht, h4⟩ := h
    have hij := ht.2.2.1.1
    have hjn := ht.2.1
    refine .inr (.inr (.inr ⟨rfl, by simp, a + j, ht.shift hg, fun p' q1 q2 => ?_⟩))
    rw [show a + j + 1 - (a + i) = j + 1 - i from by omega] at *
    have := h4 (p' - a) (by omega) (by omega)
    rw [show p' = a + (p' - a) from by omega]
    exact fun hh => this ((Eqs.shift hg (by omega) (by omega)).1 hh)

end shift

/-- A quoted token hangs on no byte behind its end. -/
theorem Tok.cut {f g : Nat → Int} {n n' i : Nat} {e : Int} (h : Tok f n i 1 e) (hn : e ≤ (n' : Int)) (hg : ∀ k : Nat, (k : Int) < e → g k = f k) : Tok g n' i 1 e := by
  rcases h with ⟨h, _⟩ | ⟨h, _⟩ | ⟨_, j, p, ⟨ht, h1, h2, h3, h4⟩, rfl⟩ | ⟨h, _⟩
  · exact absurd h (by decide)
  · exact absurd h (by decide)
  · obtain ⟨t1, t2, ⟨t3, t4⟩, t5⟩ := ht
    refine .inr (.inr (.inl ⟨rfl, j, p, ⟨⟨fun hlt => ?_, by omega, ⟨t3, fun k q1 q2 => ?_⟩, by rw [hg _ (by omega)]; exact t5⟩, h1, by omega, fun m hm => ?_, fun p' q1 q2 hh => h4 p' q1 q2 fun m hm => ?_⟩, rfl⟩))
    · rw [hg _ (by omega)]; exact t1 (by omega)
    · rw [hg _ (by omega)]; exact t4 k q1 q2
    · rw [hg _ (by omega), hg _ (by omega)]; exact h3 m hm
    · have := hh m hm
      rw [hg _ (by omega), hg _ (by omega)] at this; exact this
  · exact absurd h (by decide)

theorem Tok.bounds {f : Nat → Int} {n i : Nat} {k e : Int} (h : Tok f n i k e) (hi : i < n) : 0 ≤ e ∧ e ≤ (n : Int) := by
  rcases h with ⟨rfl, j, hj, h, rfl⟩ | ⟨rfl, rfl, j, h⟩ | ⟨rfl, j, p, h, rfl⟩ | ⟨rfl, rfl, j, h⟩
  · have := h.2.1; omega
  · omega
  · have := h.2.2.1; omega
  · omega

end Go.Proofs.Qxb6000792a
