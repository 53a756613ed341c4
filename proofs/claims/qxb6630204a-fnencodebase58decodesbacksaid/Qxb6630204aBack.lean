/-
  Seat b6630204a: back from base 58 to base 256, plain lists.
-/
import Derived.Test.Qxb6630204aSmall
namespace Go.Proofs.Qxb6630204a
open Go.RowKit

/-- What the loop over the letters knows after j of them; es are the digits, the highest first. -/
def Dec (es : List Nat) (j : Nat) (le : List Nat) : Prop := Canon 256 le (big 58 (es.take j))
theorem dec_zero (es : List Nat) : Dec es 0 [] := ⟨fun d hd => (by cases hd), rfl, .inl rfl⟩
theorem pow_256 (m : Nat) : 58 ^ m ≤ 256 ^ m := Nat.pow_le_pow_left (by decide) m
theorem small_big58 {es : List Nat} (hs : ∀ d ∈ es, d < 58) (m : Nat) (hm : es.length ≤ m) : big 58 es < 256 ^ m :=
  Nat.lt_of_lt_of_le (big_lt (by decide) hs) (Nat.le_trans (Nat.pow_le_pow_right (by decide) hm) (pow_256 m))
theorem Dec.len {es : List Nat} {j : Nat} {le : List Nat} (h : Dec es j le) (hs : ∀ d ∈ es, d < 58) : le.length ≤ j := by
  have hb := small_big58 (es := es.take j) (fun d hd => hs d (List.mem_of_mem_take hd)) j (List.length_take_le _ _)
  rcases Canon.top h with h0 | h0
  · rw [h0]; exact Nat.zero_le _
  · have h4 : 256 ^ (le.length - 1) < 256 ^ j := by omega
    have := (Nat.pow_lt_pow_iff_right (by decide)).1 h4
    omega
/-- On the way to the bytes behind letter j. -/
def DecWay (es : List Nat) (j : Nat) (fs : List Nat) (c : Nat) : Prop := Way 256 fs c (big 58 (es.take (j + 1)))
def DecTurn (es : List Nat) (j : Nat) (ds fs : List Nat) (c : Nat) : Prop := Turn 256 58 ds (es.getD j 0) fs c
theorem dec_turn_zero (es : List Nat) (j : Nat) (ds : List Nat) : DecTurn es j ds [] (es.getD j 0) := Turn.start _ _
theorem DecTurn.step {es : List Nat} {j : Nat} {ds fs : List Nat} {c y : Nat} (h : DecTurn es j ds fs c) (hi : fs.length < ds.length) (hy : ds[fs.length] = y) : DecTurn es j ds (fs ++ [(c + y * 58) % 256]) ((c + y * 58) / 256) := by
  subst hy
  exact Turn.step (by decide) h hi
theorem Dec.way {es : List Nat} {j : Nat} {ds fs : List Nat} {c : Nat} (h : Dec es j ds) (hj : j < es.length) (ht : DecTurn es j ds fs c) (hl : fs.length = ds.length) : DecWay es j fs c := by
  unfold DecWay
  rw [List.take_succ_eq_append_getElem hj, big_snoc, ← getD_eq hj]
  exact Turn.way (by decide) ht hl h
theorem DecWay.push {es : List Nat} {j : Nat} {fs : List Nat} {c : Nat} (h : DecWay es j fs c) (hc : 0 < c) : DecWay es j (fs ++ [c % 256]) (c / 256) := Way.push (by decide) h hc
theorem DecWay.done {es : List Nat} {j : Nat} {fs : List Nat} (h : DecWay es j fs 0) : Dec es (j + 1) fs := Way.done h
theorem DecWay.len {es : List Nat} {j : Nat} {fs : List Nat} {c : Nat} (h : DecWay es j fs c) (hs : ∀ d ∈ es, d < 58) (hc : 0 < c) : fs.length < j + 1 := by
  have hb := small_big58 (es := es.take (j + 1)) (fun d hd => hs d (List.mem_of_mem_take hd)) (j + 1) (List.length_take_le _ _)
  have h1 := Way.val h
  have h2 : 256 ^ fs.length * 1 ≤ 256 ^ fs.length * c := Nat.mul_le_mul_left _ hc
  have h4 : 256 ^ fs.length < 256 ^ (j + 1) := by omega
  exact (Nat.pow_lt_pow_iff_right (by decide)).1 h4

theorem lead_head {bs : List Nat} {k : Nat} (h : Lead bs k) : bs.drop k = [] ∨ 1 ≤ (bs.drop k).headD 0 := by
  by_cases hk : k < bs.length
  · right
    have := h.stop hk
    rw [List.drop_eq_getElem_cons hk, List.headD_cons, ← getD_eq hk]
    omega
  · left
    exact List.drop_eq_nil_of_le (by omega)
/-- Back again: the bytes, the lowest first. -/
theorem back {bs ds le : List Nat} {k : Nat} (hk : Lead bs k) (hs : ∀ d ∈ bs, d < 256) (hds : Canon 58 ds (big 256 (bs.drop k))) (hle : Dec ds.reverse ds.length le) : le = (bs.drop k).reverse := by
  have h1 : Canon 256 le (big 256 (bs.drop k)) := by
    have := hle
    unfold Dec at this
    rw [List.take_of_length_le (by rw [List.length_reverse]; exact Nat.le_refl _)] at this
    unfold big at this
    rw [List.reverse_reverse, hds.val] at this
    exact this
  exact Canon.uniq (by decide) h1 (canon_big (fun d hd => hs d (List.mem_of_mem_drop hd)) (lead_head hk))
theorem text_rev {k j : Nat} {ds : List Nat} (h : j < ds.length) : (text k ds).getD (k + j) 0 = al (ds.reverse.getD j 0) := by
  have := text_digit (k := k) (ds := ds) (t := ds.length - 1 - j) (by omega)
  rw [show k + ds.length - 1 - (ds.length - 1 - j) = k + j by omega] at this
  rw [this, getD_eq (by omega), getD_eq (by rw [List.length_reverse]; exact h), List.getElem_reverse]
theorem rev_small {ds : List Nat} {n : Nat} (h : Canon 58 ds n) : ∀ d ∈ ds.reverse, d < 58 := fun d hd => h.small d (List.mem_reverse.1 hd)
/-- The first digit is no nought. -/
theorem top_ne {ds : List Nat} {n : Nat} (h : Canon 58 ds n) (hd : 0 < ds.length) : ds.reverse.getD 0 0 ≠ 0 := by
  rcases h.top with h0 | h0
  · rw [h0] at hd; exact absurd hd (Nat.lt_irrefl _)
  · intro e
    have hr : ds.reverse.length = ds.length := List.length_reverse
    have h1 : ds.reverse = 0 :: ds.reverse.tail := by
      cases hx : ds.reverse with
      | nil => rw [hx] at hr; simp at hr; omega
      | cons a t => rw [hx] at e; simp at e; rw [e]; rfl
    have h2 : ds = ds.reverse.tail.reverse ++ [0] := by
      have := congrArg List.reverse h1
      rw [List.reverse_reverse, List.reverse_cons] at this
      exact this
    have hv := h.val
    rw [h2, val_snoc] at hv
    have hl : ds.reverse.tail.reverse.length = ds.length - 1 := by rw [List.length_reverse, List.length_tail, List.length_reverse]
    have hb := val_lt (B := 58) (by decide) ds.reverse.tail.reverse (fun d hd => h.small d (by rw [h2]; exact List.mem_append_left _ hd))
    rw [hl] at hb
    omega
/-- The bytes laid from the front give the row. -/
theorem bytes_front {bs le cur : List Nat} {k : Nat} (hk : Lead bs k) (hle : le = (bs.drop k).reverse) (hl : cur.length = k + le.length) (h0 : Lz cur k) (h : Front k le cur le.length) : cur = bs := by
  have hll : le.length = bs.length - k := by rw [hle, List.length_reverse, List.length_drop]
  have hkl := hk.le
  apply List.ext_getElem (by omega)
  intro i hi hi'
  rw [← getD_eq hi, ← getD_eq hi']
  by_cases hik : i < k
  · rw [h0 i hik, hk.nought i hik]
  · have := h (i - k) (by omega)
    rw [show k + (i - k) = i by omega] at this
    rw [this, hle, List.length_reverse, List.length_drop, getD_eq (by rw [List.length_reverse, List.length_drop]; omega), List.getElem_reverse, List.getElem_drop, getD_eq hi']
    congr 1
    rw [List.length_drop]
    omega
theorem Lz.keep {cur : List Nat} {k : Nat} (h : Lz cur k) {i : Nat} (hi : k ≤ i) (x : Nat) : Lz (cur.set i x) k := fun t ht => by
  rw [getD_set_other (by omega)]; exact h t ht
theorem lz_rep (n k : Nat) : Lz (List.replicate n 0) k := fun t _ => by
  rw [List.getD_eq_getElem?_getD, List.getElem?_replicate]
  split <;> rfl
/-- How long the text is. -/
theorem len_ge {bs ds : List Nat} {k n : Nat} (hl : bs.length = n) (hk : Lead bs k) (hds : Canon 58 ds (big 256 (bs.drop k))) : n ≤ k + ds.length := by
  have hkl := hk.le
  by_cases hlt : k < bs.length
  · have hv : big 256 (bs.drop k) < 58 ^ ds.length := by
      rw [← hds.val]
      exact val_lt (by decide) ds hds.small
    have hb : 256 ^ (bs.length - k - 1) ≤ big 256 (bs.drop k) := by
      have h0 := hk.stop hlt
      rw [List.drop_eq_getElem_cons hlt, ← getD_eq hlt]
      unfold big
      rw [List.reverse_cons, val_snoc, List.length_reverse, List.length_drop]
      have : 256 ^ (bs.length - (k + 1)) * 1 ≤ 256 ^ (bs.length - (k + 1)) * bs.getD k 0 := Nat.mul_le_mul_left _ (by omega)
      rw [show bs.length - k - 1 = bs.length - (k + 1) by omega]
      omega
    have h5 := pow_256 (bs.length - k - 1)
    have h6 : 58 ^ (bs.length - k - 1) < 58 ^ ds.length := by omega
    have := (Nat.pow_lt_pow_iff_right (by decide)).1 h6
    omega
  · omega
theorem len_le {bs ds : List Nat} {k n : Nat} (hl : bs.length = n) (hs : ∀ d ∈ bs, d < 256) (hk : Lead bs k) (hds : Canon 58 ds (big 256 (bs.drop k))) : k + ds.length ≤ 2 * n := by
  have hkl := hk.le
  have := Canon.len hds (small_big (m := bs.length - k) (fun d hd => hs d (List.mem_of_mem_drop hd)) (by rw [List.length_drop]; exact Nat.le_refl _))
  omega
end Go.Proofs.Qxb6630204a
