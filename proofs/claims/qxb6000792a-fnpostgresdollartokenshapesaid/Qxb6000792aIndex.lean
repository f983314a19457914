/-
  What strings.Index finds, said of the text's bytes 'bt t k'; no Go in it.
-/
import Derived.Test.Qxb6000792aTok
import Derived.Lib.IndexMore
import Derived.PlainAid
namespace Go.Proofs.Qxb6000792a
open Go.PlainAid (bt get_bt bt_nonneg bt_le)

theorem bt_list (t : ByteArray) (k : Nat) : bt t k = (((t.data.toList[k]?).getD 0).toNat : Int) := by
  unfold bt
  obtain ⟨⟨l⟩⟩ := t
  by_cases h : k < (ByteArray.mk ⟨l⟩).size
  · rw [dif_pos h]
    have h' : k < l.length := h
    show ((l[k]'h').toNat : Int) = _
    simp [List.getElem?_eq_getElem h']
  · rw [dif_neg h]
    have h' : l.length ≤ k := Nat.le_of_not_lt h
    simp [List.getElem?_eq_none h']

theorem byte_eq {l : List UInt8} {a b : Nat} (ha : a < l.length) (hb : b < l.length) : (((l[a]?).getD 0).toNat : Int) = (((l[b]?).getD 0).toNat : Int) ↔ l[a]? = l[b]? := by
  rw [List.getElem?_eq_getElem ha, List.getElem?_eq_getElem hb]
  simp only [Option.getD_some, Option.some.injEq]
  constructor
  · intro h; exact UInt8.toNat_inj.1 (by omega)
  · intro h; rw [h]

theorem isPre_iff (l : List UInt8) (a i L : Nat) (hi : i + L ≤ l.length) : (((l.drop i).take L).isPrefixOf (l.drop a) = true) ↔ ((L = 0 ∨ a + L ≤ l.length) ∧ ∀ m, m < L → l[a + m]? = l[i + m]?) := by
  rw [List.isPrefixOf_iff_prefix, List.prefix_iff_eq_take]
  have hlen : ((l.drop i).take L).length = L := by simp; omega
  rw [hlen]
  constructor
  · intro h
    have h2 : ((l.drop a).take L).length = L := by rw [← h]; exact hlen
    refine ⟨by simp at h2; omega, fun m hm => ?_⟩
    have := congrArg (fun x : List UInt8 => x[m]?) h
    simp only [List.getElem?_take, hm, if_true, List.getElem?_drop] at this
    exact this.symm
  · rintro ⟨h1, h2⟩
    apply List.ext_getElem?
    intro m
    by_cases hm : m < L
    · simp only [List.getElem?_take, hm, if_true, List.getElem?_drop]; exact (h2 m hm).symm
    · simp only [List.getElem?_take, hm, if_false]

theorem occ_iff (t : ByteArray) (i j m : Nat) (hij : i ≤ j) (hj : j < t.size) :
    Lib.occAt (t.data.toList.drop (j + 1)) (t.extract i (j + 1)).data.toList m = true ↔ (j + 1 + m + (j + 1 - i) ≤ t.size ∧ Eqs (bt t) (j + 1 + m) i (j + 1 - i)) := by
  have hs := Lib.size_eq t
  unfold Lib.occAt
  rw [Lib.extract_data, List.drop_drop, isPre_iff _ _ _ _ (by omega)]
  constructor
  · rintro ⟨h1, h2⟩
    refine ⟨by omega, fun q hq => ?_⟩
    rw [bt_list, bt_list, byte_eq (by omega) (by omega)]
    exact h2 q hq
  · rintro ⟨h1, h2⟩
    refine ⟨by omega, fun q hq => ?_⟩
    have := h2 q hq
    rw [bt_list, bt_list, byte_eq (by omega) (by omega)] at this
    exact this

theorem index_says (t : ByteArray) (i j : Nat) (ht : Tag (bt t) t.size i j) (r : Int) (hr : Lib.index (t.data.toList.drop (j + 1)) (t.extract i (j + 1)).data.toList = r) :
    r ≤ (t.size : Int) ∧ (r < 0 → Unt (bt t) t.size i j) ∧ (0 ≤ r → ∃ p : Nat, (j : Int) + 1 + r = (p : Int) ∧ Quo (bt t) t.size i j p) := by
  have hij := ht.2.2.1.1
  have hj := ht.2.1
  have hs := Lib.size_eq t
  rcases Lib.index_spec (t.data.toList.drop (j + 1)) (t.extract i (j + 1)).data.toList with ⟨h1, h2⟩ | ⟨q, h1, h2, h3, h4⟩
  · rw [h1] at hr
    subst hr
    refine ⟨by omega, fun _ => ⟨ht, fun p' g1 g2 ge => ?_⟩, fun h => by omega⟩
    have hn := h2 (p' - (j + 1)) (by simp; omega)
    have hy := (occ_iff t i j (p' - (j + 1)) (by omega) hj).2 ⟨by omega, by rw [show j + 1 + (p' - (j + 1)) = p' from by omega]; exact ge⟩
    rw [hy] at hn; cases hn
  · rw [h1] at hr
    subst hr
    have ho := (occ_iff t i j q (by omega) hj).1 h3
    refine ⟨by omega, fun h => by omega, fun _ => ⟨j + 1 + q, by omega, ht, by omega, ho.1, ho.2, fun p' g1 g2 ge => ?_⟩⟩
    have hn := h4 (p' - (j + 1)) (by omega)
    have hy := (occ_iff t i j (p' - (j + 1)) (by omega) hj).2 ⟨by omega, by rw [show j + 1 + (p' - (j + 1)) = p' from by omega]; exact ge⟩
    rw [hy] at hn; cases hn

end Go.Proofs.Qxb6000792a
