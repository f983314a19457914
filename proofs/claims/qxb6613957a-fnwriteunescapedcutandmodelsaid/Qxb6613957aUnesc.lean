/-
  THE PLAIN LAW: what unescaping a literal gives, byte by byte and run by run; no Go in it.
-/
namespace Go.Proofs.Qxb6613957a

def special (d : UInt8) : Bool := d == 36 || d == 96 || d == 34 || d == 92

/-- The literal without the backslashes that escape a byte. -/
def unesc (q : Bool) : List UInt8 → List UInt8
  | [] => []
  | [c] => [c]
  | c :: d :: rest => if c == 92 && (!q || special d) then d :: unesc q rest else c :: unesc q (d :: rest)

theorem unesc_ne (q : Bool) {c : UInt8} (h : c ≠ 92) (rest : List UInt8) : unesc q (c :: rest) = c :: unesc q rest := by
  cases rest with
  | nil => rfl
  | cons d r =>
    have hc : (c == 92) = false := by simpa using h
    rw [unesc, hc]
    simp

theorem unesc_esc (q : Bool) (d : UInt8) (rest : List UInt8) (h : q = false ∨ special d = true) : unesc q (92 :: d :: rest) = d :: unesc q rest := by
  rw [unesc]
  rcases h with h | h <;> simp [h]

theorem unesc_keep (d : UInt8) (rest : List UInt8) (h : special d = false) : unesc true (92 :: d :: rest) = 92 :: unesc true (d :: rest) := by
  rw [unesc]
  simp [h]

theorem unesc_pair (q : Bool) (rest : List UInt8) : unesc q (92 :: 92 :: rest) = 92 :: unesc q rest := unesc_esc q 92 rest (.inr rfl)

theorem unesc_runs (q : Bool) (rest : List UInt8) : ∀ h : Nat, unesc q (List.replicate (2 * h) 92 ++ rest) = List.replicate h 92 ++ unesc q rest
  | 0 => rfl
  | h + 1 => by
    rw [show 2 * (h + 1) = 2 * h + 1 + 1 from by omega, List.replicate_succ, List.replicate_succ, List.cons_append, List.cons_append, unesc_pair, unesc_runs q rest h, List.replicate_succ, List.cons_append]

/-- What an odd backslash ahead of 'rest' leaves. -/
def oddLeft (q : Bool) (rest : List UInt8) : List UInt8 :=
  match rest with
  | [] => [92]
  | d :: _ => if q && !special d then [92] else []

theorem unesc_odd (q : Bool) (rest : List UInt8) (hr : rest.head? ≠ some 92) : unesc q (92 :: rest) = oddLeft q rest ++ unesc q rest := by
  cases rest with
  | nil => rfl
  | cons d r =>
    have hd : d ≠ 92 := by simpa using hr
    unfold oddLeft
    cases q with
    | false => rw [unesc_esc false d r (.inl rfl), unesc_ne false hd]; simp
    | true =>
      cases hs : special d with
      | true => rw [unesc_esc true d r (.inr hs), unesc_ne true hd]; simp [hs]
      | false => rw [unesc_keep d r hs]; simp [hs]

/-- A run of k backslashes ahead of 'rest', which begins with none. -/
theorem unesc_run (q : Bool) (k : Nat) (rest : List UInt8) (hr : rest.head? ≠ some 92) :
    unesc q (List.replicate k 92 ++ rest) = List.replicate (k / 2) 92 ++ (if k % 2 = 1 then oddLeft q rest else []) ++ unesc q rest := by
  rcases Nat.mod_two_eq_zero_or_one k with h | h
  · have e : k = 2 * (k / 2) := by omega
    rw [if_neg (by omega), List.append_nil]
    have := unesc_runs q rest (k / 2)
    rw [← e] at this
    exact this
  · have e : k = 2 * (k / 2) + 1 := by omega
    rw [if_pos h]
    have := unesc_runs q (92 :: rest) (k / 2)
    have e2 : List.replicate k (92 : UInt8) ++ rest = List.replicate (2 * (k / 2)) 92 ++ 92 :: rest := by
      conv => lhs; rw [e, List.replicate_succ']
      simp
    rw [e2, this, unesc_odd q rest hr, List.append_assoc]

/-- Unescaping piece by piece, cut anywhere but right behind a backslash. -/
theorem unesc_cut (q : Bool) (b : List UInt8) : ∀ (n : Nat) (a : List UInt8), a.length ≤ n → a.getLast? ≠ some 92 → unesc q (a ++ b) = unesc q a ++ unesc q b
  | _, [], _, _ => rfl
  | 0, _ :: _, h, _ => by simp at h
  | n + 1, [c], _, h => by
    have hc : c ≠ 92 := by simpa using h
    rw [List.singleton_append, unesc_ne q hc, unesc_ne q hc]
    rfl
  | n + 1, c :: d :: r, hl, h => by
    have hl' : r.length + 1 ≤ n := by simp at hl; omega
    have h2 : (d :: r).getLast? ≠ some 92 := by simpa using h
    have ih2 := unesc_cut q b n (d :: r) (by simpa using hl') h2
    rw [List.cons_append, List.cons_append, unesc, unesc]
    by_cases hc : (c == 92 && (!q || special d)) = true
    · rw [if_pos hc, if_pos hc]
      have h3 : r.getLast? ≠ some 92 := by
        cases r with
        | nil => simp
        | cons x r => simpa using h2
      rw [unesc_cut q b n r (by omega) h3]
      rfl
    · rw [if_neg hc, if_neg hc]
      rw [List.cons_append] at ih2
      rw [ih2]
      rfl

theorem unesc_length (q : Bool) : ∀ (n : Nat) (a : List UInt8), a.length ≤ n → (unesc q a).length ≤ a.length
  | _, [], _ => by simp [unesc]
  | 0, _ :: _, h => by simp at h
  | n + 1, [c], _ => by simp [unesc]
  | n + 1, c :: d :: r, hl => by
    rw [unesc]
    simp only [List.length_cons] at hl
    have h1 := unesc_length q n r (by omega)
    have h2 := unesc_length q n (d :: r) (by simp; omega)
    split
    · simp; omega
    · simp at h2 ⊢; omega

end Go.Proofs.Qxb6613957a
