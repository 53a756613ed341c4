/-
  Seat b6630204a: long division, plain lists.
-/
import Derived.Test.Qxb6630204aEncode
namespace Go.Proofs.Qxb6630204a
open Go.RowKit

/-- The length of a slice value. -/
def lenOf : Value → Nat
  | .slice _ n _ => n
  | _ => 0

/-- The first i bytes are laid. -/
def Laid (ys cur : List Nat) (i : Nat) : Prop := ∀ t, t < i → cur.getD t 0 = ys.getD t 0
theorem Laid.step {ys cur : List Nat} {i : Nat} (h : Laid ys cur i) (hi : i < cur.length) : Laid ys (cur.set i (ys.getD i 0)) (i + 1) := fun t ht => by
  rcases Nat.lt_succ_iff_lt_or_eq.1 ht with hlt | rfl
  · rw [getD_set_other (by omega)]; exact h t hlt
  · exact getD_set_same hi _
theorem Laid.done {ys cur : List Nat} (hl : cur.length = ys.length) (h : Laid ys cur ys.length) : cur = ys := by
  apply List.ext_getElem hl
  intro i hi hi'
  rw [← getD_eq hi, ← getD_eq hi']
  exact h i hi'

/-- Within one division: qs are the quotients so far, r the rest. -/
structure Div (xs : List Nat) (st : Nat) (qs : List Nat) (r : Nat) : Prop where
  len : st + qs.length ≤ xs.length
  small : ∀ d ∈ qs, d < 256
  rest : r < 58
  val : big 256 qs * 58 + r = big 256 ((xs.drop st).take qs.length)
/-- The row in the midst of a division. -/
def mid (xs : List Nat) (st : Nat) (qs : List Nat) : List Nat := xs.take st ++ (qs ++ xs.drop (st + qs.length))
theorem div_zero {xs : List Nat} {st : Nat} (h : st ≤ xs.length) : Div xs st [] 0 := ⟨h, fun d hd => (by cases hd), by decide, rfl⟩
theorem mid_zero (xs : List Nat) (st : Nat) : mid xs st [] = xs := by simp [mid]
theorem mid_length {xs : List Nat} {st : Nat} {qs : List Nat} (h : st + qs.length ≤ xs.length) : (mid xs st qs).length = xs.length := by
  unfold mid
  rw [List.length_append, List.length_append, List.length_take, List.length_drop]
  omega
theorem mid_next {xs : List Nat} {st : Nat} {qs : List Nat} (h : st + qs.length < xs.length) : (mid xs st qs).getD (st + qs.length) 0 = xs.getD (st + qs.length) 0 := by
  unfold mid
  rw [List.getD_eq_getElem?_getD, List.getElem?_append_right (by rw [List.length_take]; omega), List.length_take, Nat.min_eq_left (by omega),
    List.getElem?_append_right (by omega), List.getElem?_drop, List.getD_eq_getElem?_getD]
  congr 2
  omega
theorem mid_put {xs : List Nat} {st : Nat} {qs : List Nat} (h : st + qs.length < xs.length) (q : Nat) : (mid xs st qs).set (st + qs.length) q = mid xs st (qs ++ [q]) := by
  unfold mid
  rw [List.set_append_right _ _ (by rw [List.length_take]; omega), List.length_take, Nat.min_eq_left (by omega), List.set_append_right _ _ (by omega),
    show st + qs.length - st - qs.length = 0 by omega, List.drop_eq_getElem_cons h, List.length_append, List.length_singleton, List.append_assoc]
  rfl
theorem Div.step {xs : List Nat} {st : Nat} {qs : List Nat} {r x : Nat} (h : Div xs st qs r) (hi : st + qs.length < xs.length) (hx : xs.getD (st + qs.length) 0 = x) (hx8 : x < 256) : Div xs st (qs ++ [(r * 256 + x) / 58]) ((r * 256 + x) % 58) := by
  have hv := h.val
  have hr := h.rest
  refine ⟨by rw [List.length_append, List.length_singleton]; omega, fun d hd => ?_, Nat.mod_lt _ (by decide), ?_⟩
  · rcases List.mem_append.1 hd with hd | hd
    · exact h.small d hd
    · rw [List.mem_singleton.1 hd]; omega
  · rw [List.length_append, List.length_singleton, List.take_succ_eq_append_getElem (by rw [List.length_drop]; omega), big_snoc, big_snoc, List.getElem_drop, ← getD_eq hi, hx, ← hv]
    omega
/-- The whole row divided. -/
theorem Div.all {xs : List Nat} {st : Nat} {qs : List Nat} {r : Nat} (h : Div xs st qs r) (hl : st + qs.length = xs.length) : r = big 256 (xs.drop st) % 58 ∧ big 256 qs = big 256 (xs.drop st) / 58 := by
  have hv := h.val
  have hr := h.rest
  rw [List.take_of_length_le (by rw [List.length_drop]; omega)] at hv
  omega
theorem mid_all {xs : List Nat} {st : Nat} {qs : List Nat} (hl : st + qs.length = xs.length) : (mid xs st qs).drop st = qs := by
  unfold mid
  rw [List.drop_left' (by rw [List.length_take]; omega), List.drop_eq_nil_of_le (by omega), List.append_nil]

/-- A leading nought does not count. -/
theorem big_nought {xs : List Nat} {st : Nat} (h : st < xs.length) (h0 : xs.getD st 0 = 0) : big 256 (xs.drop st) = big 256 (xs.drop (st + 1)) := by
  rw [List.drop_eq_getElem_cons h, ← getD_eq h, h0]
  unfold big
  rw [List.reverse_cons, val_snoc]
  simp
theorem big_pos {xs : List Nat} {st : Nat} (h : st < xs.length) (h0 : xs.getD st 0 ≠ 0) : 0 < big 256 (xs.drop st) := by
  rw [List.drop_eq_getElem_cons h, ← getD_eq h]
  unfold big
  rw [List.reverse_cons, val_snoc]
  have : 256 ^ (xs.drop (st + 1)).reverse.length * 1 ≤ 256 ^ (xs.drop (st + 1)).reverse.length * xs.getD st 0 := Nat.mul_le_mul_left _ (by omega)
  have h2 : 0 < 256 ^ (xs.drop (st + 1)).reverse.length := Nat.pow_pos (by decide)
  omega
theorem big_end {xs : List Nat} {st : Nat} (h : xs.length ≤ st) : big 256 (xs.drop st) = 0 := by
  rw [List.drop_eq_nil_of_le h]; rfl

/-- What the outer loop knows: the digits so far, what is left. -/
structure Out (ys xs : List Nat) (st : Nat) (rs : List Nat) : Prop where
  len : xs.length = ys.length
  stle : st ≤ xs.length
  small : ∀ d ∈ xs, d < 256
  way : Way 58 rs (big 256 (xs.drop st)) (big 256 ys)
  head : st < xs.length → xs.getD st 0 ≠ 0

theorem small_mid {xs : List Nat} {st : Nat} {qs : List Nat} (hx : ∀ d ∈ xs, d < 256) (hq : ∀ d ∈ qs, d < 256) : ∀ d ∈ mid xs st qs, d < 256 := fun d hd => by
  rcases List.mem_append.1 hd with hd | hd
  · exact hx d (List.mem_of_mem_take hd)
  · rcases List.mem_append.1 hd with hd | hd
    · exact hq d hd
    · exact hx d (List.mem_of_mem_drop hd)
theorem getD_small {xs : List Nat} (h : ∀ d ∈ xs, d < 256) (i : Nat) : xs.getD i 0 < 256 := by
  rw [List.getD_eq_getElem?_getD]
  by_cases hi : i < xs.length
  · rw [List.getElem?_eq_getElem hi]; exact h _ (List.getElem_mem hi)
  · rw [List.getElem?_eq_none (by omega)]; exact (by decide : (0 : Nat) < 256)

/-- Skipping noughts: what is left stays. -/
structure Skip (ys zs : List Nat) (st : Nat) (rs : List Nat) : Prop where
  len : zs.length = ys.length
  stle : st ≤ zs.length
  small : ∀ d ∈ zs, d < 256
  way : Way 58 rs (big 256 (zs.drop st)) (big 256 ys)
theorem Out.skip {ys xs : List Nat} {st : Nat} {rs qs : List Nat} {r : Nat} (h : Out ys xs st rs) (hlt : st < xs.length) (hd : Div xs st qs r) (hl : st + qs.length = xs.length) : Skip ys (mid xs st qs) st (rs ++ [r]) := by
  obtain ⟨e1, e2⟩ := hd.all hl
  refine ⟨by rw [mid_length hd.len]; exact h.len, by rw [mid_length hd.len]; exact h.stle, small_mid h.small hd.small, ?_⟩
  rw [mid_all hl, e1, e2]
  exact h.way.push (by decide) (big_pos hlt (h.head hlt))
theorem Skip.step {ys zs : List Nat} {st : Nat} {rs : List Nat} (h : Skip ys zs st rs) (hlt : st < zs.length) (h0 : zs.getD st 0 = 0) : Skip ys zs (st + 1) rs :=
  ⟨h.len, hlt, h.small, by rw [← big_nought hlt h0]; exact h.way⟩
theorem Skip.out {ys zs : List Nat} {st : Nat} {rs : List Nat} (h : Skip ys zs st rs) (h0 : st < zs.length → zs.getD st 0 ≠ 0) : Out ys zs st rs := ⟨h.len, h.stle, h.small, h.way, h0⟩
theorem Out.done {ys xs : List Nat} {st : Nat} {rs : List Nat} (h : Out ys xs st rs) (hst : ¬ st < xs.length) : Canon 58 rs (big 256 ys) := by
  have := h.way
  rw [big_end (by omega)] at this
  exact this.done
theorem Out.len58 {ys xs : List Nat} {st : Nat} {rs : List Nat} (h : Out ys xs st rs) (hs : ∀ d ∈ ys, d < 256) (hlt : st < xs.length) : rs.length < 2 * ys.length :=
  h.way.len (big_pos hlt (h.head hlt)) (small_big (m := ys.length) hs (Nat.le_refl _))

/-- Letters laid from the front, the digits from the end. -/
def Front (k : Nat) (ls cur : List Nat) (i : Nat) : Prop := ∀ t, t < i → cur.getD (k + t) 0 = ls.getD (ls.length - 1 - t) 0
theorem Front.step {k : Nat} {ls cur : List Nat} {i : Nat} (h : Front k ls cur i) (hl : k + i < cur.length) : Front k ls (cur.set (k + i) (ls.getD (ls.length - 1 - i) 0)) (i + 1) := fun t ht => by
  rcases Nat.lt_succ_iff_lt_or_eq.1 ht with hlt | rfl
  · rw [getD_set_other (by omega)]; exact h t hlt
  · exact getD_set_same hl _
theorem text_front {k : Nat} {rs cur : List Nat} (hl : cur.length = k + rs.length) (h1 : Ones k cur) (h2 : Front k (rs.map al) cur rs.length) : cur = text k rs := by
  refine text_of hl h1 (fun t ht => ?_)
  have := h2 (rs.length - 1 - t) (by omega)
  rw [show k + (rs.length - 1 - t) = k + rs.length - 1 - t by omega, List.length_map, show rs.length - 1 - (rs.length - 1 - t) = t by omega] at this
  rw [this, List.getD_eq_getElem?_getD, List.getElem?_map, List.getElem?_eq_getElem ht, List.getD_eq_getElem?_getD, List.getElem?_eq_getElem ht]
  rfl
end Go.Proofs.Qxb6630204a
