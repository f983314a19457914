/-
  Plain facts for the law FnPostgresDollarTokenShape: the first dollar sign behind i, the first byte that is none of a name's; no Go in it.
-/
import Derived.Test.Qxb6000792aIndex
import Derived.Test.Qxb6000792aBytes
namespace Go.Proofs.Qxb6000792a
open Go.PlainAid (bt get_bt bt_nonneg bt_le)

def First (f : Nat → Int) (n i q : Nat) : Prop := i + 1 ≤ q ∧ q < n ∧ f q = 36 ∧ ∀ k, i + 1 ≤ k → k < q → f k ≠ 36
def NoFirst (f : Nat → Int) (n i : Nat) : Prop := ∀ k, i + 1 ≤ k → k < n → f k ≠ 36
def AllN (f : Nat → Int) (i q : Nat) : Prop := ∀ k, i + 1 ≤ k → k < q → nameB (f k) = true
def FirstBad (f : Nat → Int) (i q b : Nat) : Prop := i + 1 ≤ b ∧ b < q ∧ nameB (f b) = false ∧ ∀ k, i + 1 ≤ k → k < b → nameB (f k) = true

theorem first_or (f : Nat → Int) (i : Nat) : ∀ n, NoFirst f n i ∨ ∃ q, First f n i q
  | 0 => .inl fun k _ h => by omega
  | n + 1 => by
    rcases first_or f i n with h | ⟨q, h1, h2, h3, h4⟩
    · by_cases hn : i + 1 ≤ n ∧ f n = 36
      · exact .inr ⟨n, hn.1, by omega, hn.2, fun k a b => h k a b⟩
      · refine .inl fun k a b => ?_
        rcases Nat.lt_or_ge k n with c | c
        · exact h k a c
        · obtain rfl : k = n := by omega
          exact fun e => hn ⟨a, e⟩
    · exact .inr ⟨q, h1, by omega, h3, h4⟩

theorem all_or (f : Nat → Int) (i : Nat) : ∀ q, AllN f i q ∨ ∃ b, FirstBad f i q b
  | 0 => .inl fun k _ h => by omega
  | q + 1 => by
    rcases all_or f i q with h | ⟨b, h1, h2, h3, h4⟩
    · by_cases hn : i + 1 ≤ q ∧ nameB (f q) = false
      · exact .inr ⟨q, hn.1, by omega, hn.2, fun k a b => h k a b⟩
      · refine .inl fun k a b => ?_
        rcases Nat.lt_or_ge k q with c | c
        · exact h k a c
        · obtain rfl : k = q := by omega
          cases e : nameB (f k)
          · exact absurd ⟨a, e⟩ hn
          · rfl
    · exact .inr ⟨b, h1, by omega, h3, h4⟩

/-- A tag's end is the first dollar sign, and all before it are names' bytes. -/
theorem tag_first {f : Nat → Int} {n i j : Nat} (h : Tag f n i j) : First f n i j ∧ AllN f i j :=
  ⟨⟨h.2.2.1.1, h.2.1, h.2.2.2, fun k a b => (h.2.2.1.2 k a b).1⟩, fun k a b => (nameB_iff _).2 (h.2.2.1.2 k a b).2⟩

theorem first_tag {f : Nat → Int} {n i q : Nat} (h : First f n i q) (ha : AllN f i q) (hd : NoDig f n i) : Tag f n i q :=
  ⟨hd, h.2.1, ⟨h.1, fun k a b => ⟨h.2.2.2 k a b, (nameB_iff _).1 (ha k a b)⟩⟩, h.2.2.1⟩

theorem nodig_bool {t : ByteArray} {i : Nat} (h : NoDig (bt t) t.size i) (hlt : i + 1 < t.size) : digB (bt t (i + 1)) = false := by
  cases e : digB (bt t (i + 1))
  · rfl
  · exact absurd ((digB_iff _).1 e) (h hlt)

theorem ext_eq {t : ByteArray} {p i L : Nat} (hp : p + L ≤ t.size) (hi : i + L ≤ t.size) (h : Eqs (bt t) p i L) : t.extract p (p + L) = t.extract i (i + L) := by
  have hs := Lib.size_eq t
  have e : (t.extract p (p + L)).data.toList = (t.extract i (i + L)).data.toList := by
    rw [Lib.extract_data, Lib.extract_data, show p + L - p = L from by omega, show i + L - i = L from by omega]
    apply List.ext_getElem?
    intro m
    by_cases hm : m < L
    · simp only [List.getElem?_take, hm, if_true, List.getElem?_drop]
      have := h m hm
      rw [bt_list, bt_list, byte_eq (by omega) (by omega)] at this
      exact this
    · simp only [List.getElem?_take, hm, if_false]
  generalize t.extract p (p + L) = x at *
  generalize t.extract i (i + L) = y at *
  obtain ⟨⟨x⟩⟩ := x
  obtain ⟨⟨y⟩⟩ := y
  simp at e
  rw [e]

end Go.Proofs.Qxb6000792a
