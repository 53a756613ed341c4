/-
  Seat b6630105a: the plain part: runes of a list of bytes, as Go's decoding cuts them; line and column behind them; no Go in sight.
-/
import Derived.Laws.RangeAny
import Derived.RowKit
namespace Go.Proofs.Qxb6630105a
open Go.RowKit (wrap64)

/-- Rune and width out of the first four bytes; c1, c2, c3: is the byte there and a continuation? -/
def F (b0 b1 b2 b3 : Nat) (c1 c2 c3 : Bool) : Nat × Nat :=
  if b0 < 0x80 then (b0, 1)
  else if b0 / 32 == 6 && c1 then
    if (b0 % 32) * 64 + b1 % 64 ≥ 0x80 then ((b0 % 32) * 64 + b1 % 64, 2) else (Utf8.runeError, 1)
  else if b0 / 16 == 14 && c1 && c2 then
    if (b0 % 16) * 4096 + (b1 % 64) * 64 + b2 % 64 ≥ 0x800 && Utf8.valid ((b0 % 16) * 4096 + (b1 % 64) * 64 + b2 % 64 : Nat) then ((b0 % 16) * 4096 + (b1 % 64) * 64 + b2 % 64, 3) else (Utf8.runeError, 1)
  else if b0 / 8 == 30 && c1 && c2 && c3 then
    if (b0 % 8) * 262144 + (b1 % 64) * 4096 + (b2 % 64) * 64 + b3 % 64 ≥ 0x10000 && Utf8.valid ((b0 % 8) * 262144 + (b1 % 64) * 4096 + (b2 % 64) * 64 + b3 % 64 : Nat) then ((b0 % 8) * 262144 + (b1 % 64) * 4096 + (b2 % 64) * 64 + b3 % 64, 4) else (Utf8.runeError, 1)
  else (Utf8.runeError, 1)

/-- Byte k of a list, as a number. -/
def byteAt (l : List UInt8) (k : Nat) : Nat := (l.getD k 0).toNat
/-- Is byte k there, and a continuation? -/
def cont (l : List UInt8) (k : Nat) : Bool := decide (k < l.length) && byteAt l k / 64 == 2
/-- The first rune and its width. -/
def dec (l : List UInt8) : Nat × Nat := F (byteAt l 0) (byteAt l 1) (byteAt l 2) (byteAt l 3) (cont l 1) (cont l 2) (cont l 3)

theorem get_bang (s : ByteArray) (i : Nat) : s.get! i = s.data.toList.getD i 0 := by
  cases s with
  | mk d =>
    simp only [ByteArray.get!, List.getD_eq_getElem?_getD, Array.getElem?_toList]
    rw [getElem!_def]
    cases d[i]? <;> simp <;> rfl

theorem decode_eq (s : ByteArray) (i : Nat) : Utf8.decode s i = dec (s.data.toList.drop i) := by
  have hb : ∀ k, (s.get! (i + k)).toNat = byteAt (s.data.toList.drop i) k := fun k => by
    rw [get_bang]
    simp [byteAt, List.getD_eq_getElem?_getD, List.getElem?_drop]
  have hc : ∀ k, (decide (i + k < s.size) && byteAt (s.data.toList.drop i) k / 64 == 2) = cont (s.data.toList.drop i) k := fun k => by
    have : (i + k < s.size) ↔ (k < (s.data.toList.drop i).length) := by
      rw [List.length_drop, Array.length_toList]
      show _ ↔ k < s.size - i
      omega
    simp only [cont, this]
  unfold Utf8.decode dec F
  simp only [hb, hc]

theorem F_c1 (b0 b1 b2 b3 : Nat) (c2 c3 : Bool) : F b0 b1 b2 b3 false c2 c3 = F b0 0 0 0 false false false := by simp [F]
theorem F_c2 (b0 b1 b2 b3 : Nat) (c1 c3 : Bool) : F b0 b1 b2 b3 c1 false c3 = F b0 b1 0 0 c1 false false := by simp [F]
theorem F_c3 (b0 b1 b2 b3 : Nat) (c1 c2 : Bool) : F b0 b1 b2 b3 c1 c2 false = F b0 b1 b2 0 c1 c2 false := by simp [F]
theorem F_w (b0 b1 b2 b3 : Nat) (c1 c2 c3 : Bool) : 1 ≤ (F b0 b1 b2 b3 c1 c2 c3).2 ∧ (F b0 b1 b2 b3 c1 c2 c3).2 ≤ 4 ∧ (c1 = false → (F b0 b1 b2 b3 c1 c2 c3).2 ≤ 1) ∧ (c2 = false → (F b0 b1 b2 b3 c1 c2 c3).2 ≤ 2) ∧ (c3 = false → (F b0 b1 b2 b3 c1 c2 c3).2 ≤ 3) := by
  unfold F
  repeat' split
  all_goals simp_all

theorem dec_pos (l : List UInt8) : 1 ≤ (dec l).2 := (F_w _ _ _ _ _ _ _).1

/-- No character is split at b's head. -/
def Cut (b : List UInt8) : Prop := cont b 0 = false

theorem byteAt_append {a : List UInt8} (b : List UInt8) {k : Nat} (h : k < a.length) : byteAt (a ++ b) k = byteAt a k := by
  simp [byteAt, List.getD_eq_getElem?_getD, List.getElem?_append_left h]
theorem cont_append {a : List UInt8} (b : List UInt8) {k : Nat} (h : k < a.length) : cont (a ++ b) k = cont a k := by
  unfold cont
  rw [byteAt_append b h, decide_eq_true h, decide_eq_true (by rw [List.length_append]; omega)]
theorem cont_cut {a b : List UInt8} (hb : Cut b) : cont (a ++ b) a.length = false := by
  unfold Cut cont at hb
  unfold cont
  have e1 : byteAt (a ++ b) a.length = byteAt b 0 := by
    unfold byteAt
    rw [List.getD_eq_getElem?_getD, List.getD_eq_getElem?_getD, List.getElem?_append_right (Nat.le_refl _), Nat.sub_self]
  rw [e1, ← hb]
  congr 1
  simp
theorem cont_out {a : List UInt8} {k : Nat} (h : a.length ≤ k) : cont a k = false := by
  unfold cont
  rw [decide_eq_false (by omega)]
  rfl

/-- Where no character is split the first rune is cut alike. -/
theorem dec_append {a b : List UInt8} (ha : 0 < a.length) (hb : Cut b) : dec (a ++ b) = dec a ∧ (dec a).2 ≤ a.length := by
  have h0 := byteAt_append b ha
  by_cases h1 : a.length = 1
  · have hc := cont_cut (a := a) hb
    rw [h1] at hc
    have hc' := cont_out (a := a) (k := 1) (by omega)
    have e1 : dec (a ++ b) = F (byteAt a 0) 0 0 0 false false false := by unfold dec; rw [h0, hc, F_c1]
    have e2 : dec a = F (byteAt a 0) 0 0 0 false false false := by unfold dec; rw [hc', F_c1]
    rw [e1, e2]
    exact ⟨rfl, Nat.le_trans ((F_w _ _ _ _ _ _ _).2.2.1 rfl) (by omega)⟩
  have k1 := cont_append b (a := a) (k := 1) (by omega)
  have b1 := byteAt_append b (a := a) (k := 1) (by omega)
  by_cases h2 : a.length = 2
  · have hc := cont_cut (a := a) hb
    rw [h2] at hc
    have hc' := cont_out (a := a) (k := 2) (by omega)
    have e1 : dec (a ++ b) = F (byteAt a 0) (byteAt a 1) 0 0 (cont a 1) false false := by unfold dec; rw [h0, b1, k1, hc, F_c2]
    have e2 : dec a = F (byteAt a 0) (byteAt a 1) 0 0 (cont a 1) false false := by unfold dec; rw [hc', F_c2]
    rw [e1, e2]
    exact ⟨rfl, Nat.le_trans ((F_w _ _ _ _ _ _ _).2.2.2.1 rfl) (by omega)⟩
  have k2 := cont_append b (a := a) (k := 2) (by omega)
  have b2 := byteAt_append b (a := a) (k := 2) (by omega)
  by_cases h3 : a.length = 3
  · have hc := cont_cut (a := a) hb
    rw [h3] at hc
    have hc' := cont_out (a := a) (k := 3) (by omega)
    have e1 : dec (a ++ b) = F (byteAt a 0) (byteAt a 1) (byteAt a 2) 0 (cont a 1) (cont a 2) false := by unfold dec; rw [h0, b1, k1, b2, k2, hc, F_c3]
    have e2 : dec a = F (byteAt a 0) (byteAt a 1) (byteAt a 2) 0 (cont a 1) (cont a 2) false := by unfold dec; rw [hc', F_c3]
    rw [e1, e2]
    exact ⟨rfl, Nat.le_trans ((F_w _ _ _ _ _ _ _).2.2.2.2 rfl) (by omega)⟩
  have k3 := cont_append b (a := a) (k := 3) (by omega)
  have b3 := byteAt_append b (a := a) (k := 3) (by omega)
  unfold dec
  rw [h0, b1, k1, b2, k2, b3, k3]
  exact ⟨rfl, Nat.le_trans (F_w _ _ _ _ _ _ _).2.1 (by omega)⟩

theorem cut_nil : Cut [] := rfl
theorem dec_le {a : List UInt8} (ha : 0 < a.length) : (dec a).2 ≤ a.length := (dec_append ha cut_nil).2

/-! ### line and column -/
/-- What one rune does to line and column. -/
def step (c : Nat) (p : Int × Int) : Int × Int := if c = 10 then (wrap64 (p.1 + 1), 1) else (p.1, wrap64 (p.2 + 1))

/-- What all runes of l do, one behind the other, with fuel. -/
def goF {α : Type} (st : Nat → α → α) : Nat → List UInt8 → α → α
  | 0, _, p => p
  | f + 1, l, p => if l.length = 0 then p else goF st f (l.drop (dec l).2) (st (dec l).1 p)
/-- What all runes of l do, one behind the other. -/
def goG {α : Type} (st : Nat → α → α) (l : List UInt8) (p : α) : α := goF st l.length l p

section
variable {α : Type} (st : Nat → α → α)
theorem goF_two : ∀ (f g : Nat) (l : List UInt8) (p : α), l.length ≤ f → l.length ≤ g → goF st f l p = goF st g l p
  | 0, 0, _, _, _, _ => rfl
  | 0, g + 1, l, p, h, _ => by
    have : l.length = 0 := by omega
    simp [goF, this]
  | f + 1, 0, l, p, _, h => by
    have : l.length = 0 := by omega
    simp [goF, this]
  | f + 1, g + 1, l, p, h1, h2 => by
    have := dec_pos l
    unfold goF
    split
    · rfl
    · exact goF_two f g _ _ (by rw [List.length_drop]; omega) (by rw [List.length_drop]; omega)

theorem go_nil (p : α) : goG st [] p = p := rfl
theorem go_step {l : List UInt8} (p : α) (h : 0 < l.length) : goG st l p = goG st (l.drop (dec l).2) (st (dec l).1 p) := by
  have h1 := dec_pos l
  unfold goG
  rw [goF_two st l.length ((l.length - 1) + 1) l p (Nat.le_refl _) (by omega)]
  rw [goF, if_neg (by omega)]
  exact goF_two st _ _ _ _ (by rw [List.length_drop]; omega) (Nat.le_refl _)

/-- Where no character is split, the runes of a ++ b are those of a, then those of b. -/
theorem go_append' : ∀ (n : Nat) (a b : List UInt8) (p : α), a.length ≤ n → Cut b → goG st (a ++ b) p = goG st b (goG st a p)
  | 0, a, b, p, h, _ => by
    have : a = [] := List.length_eq_zero_iff.1 (by omega)
    subst this
    rfl
  | n + 1, a, b, p, h, hb => by
    by_cases ha : 0 < a.length
    · obtain ⟨e, hw⟩ := dec_append ha hb
      have h1 := dec_pos a
      rw [go_step st p (l := a ++ b) (by rw [List.length_append]; omega), e, List.drop_append_of_le_length hw, go_append' n _ b _ (by rw [List.length_drop]; omega) hb, ← go_step st p ha]
    · have : a = [] := List.length_eq_zero_iff.1 (by omega)
      subst this
      rfl
theorem go_append (a b : List UInt8) (p : α) (hb : Cut b) : goG st (a ++ b) p = goG st b (goG st a p) := go_append' st a.length a b p (Nat.le_refl _) hb
end

/-- Line and column behind all runes of l. -/
def go (l : List UInt8) (p : Int × Int) : Int × Int := goG step l p
/-- How many runes. -/
def rc (l : List UInt8) : Nat := goG (fun _ n => n + 1) l 0

/-! ### newlines -/
/-- How many newline bytes. -/
def nl (l : List UInt8) : Nat := (l.filter (· == 10)).length

theorem F_ten (b0 b1 b2 b3 : Nat) (c1 c2 c3 : Bool) : ((F b0 b1 b2 b3 c1 c2 c3).1 = 10 → b0 = 10 ∧ (F b0 b1 b2 b3 c1 c2 c3).2 = 1) ∧ (b0 = 10 → F b0 b1 b2 b3 c1 c2 c3 = (10, 1)) := by
  constructor
  · unfold F
    repeat' split
    all_goals simp_all [Utf8.runeError]
    all_goals omega
  · rintro rfl
    simp [F]
theorem F_wide (b0 b1 b2 b3 : Nat) (c1 c2 c3 : Bool) : (2 ≤ (F b0 b1 b2 b3 c1 c2 c3).2 → c1 = true) ∧ (3 ≤ (F b0 b1 b2 b3 c1 c2 c3).2 → c2 = true) ∧ (4 ≤ (F b0 b1 b2 b3 c1 c2 c3).2 → c3 = true) := by
  unfold F
  repeat' split
  all_goals simp_all

theorem byte_zero {l : List UInt8} {x : UInt8} {r : List UInt8} (h : l = x :: r) : byteAt l 0 = x.toNat := by subst h; rfl

/-- The first rune's bytes hold a newline just if it is one. -/
theorem nl_take {l : List UInt8} (h : 0 < l.length) : nl (l.take (dec l).2) = if (dec l).1 = 10 then 1 else 0 := by
  obtain ⟨x, r, e⟩ : ∃ x r, l = x :: r := by
    cases l with
    | nil => simp at h
    | cons x r => exact ⟨x, r, rfl⟩
  have hb := byte_zero e
  obtain ⟨t1, t2⟩ := F_ten (byteAt l 0) (byteAt l 1) (byteAt l 2) (byteAt l 3) (cont l 1) (cont l 2) (cont l 3)
  by_cases hx : x = 10
  · have ed : dec l = (10, 1) := t2 (by rw [hb, hx]; rfl)
    rw [ed, if_pos rfl, e, hx]
    rfl
  · have hne : (dec l).1 ≠ 10 := fun h10 => hx (by
      have := (t1 h10).1
      rw [hb] at this
      exact UInt8.toNat_inj.1 (by rw [this]; rfl))
    rw [if_neg hne]
    unfold nl
    rw [List.length_eq_zero_iff, List.filter_eq_nil_iff]
    intro y hy
    obtain ⟨j, hj, rfl⟩ := List.getElem_of_mem hy
    obtain ⟨w1, w2, w3⟩ := F_wide (byteAt l 0) (byteAt l 1) (byteAt l 2) (byteAt l 3) (cont l 1) (cont l 2) (cont l 3)
    have w4 := (F_w (byteAt l 0) (byteAt l 1) (byteAt l 2) (byteAt l 3) (cont l 1) (cont l 2) (cont l 3)).2.1
    rw [List.length_take] at hj
    have hjw : j < (dec l).2 := by omega
    have hjl : j < l.length := by omega
    rw [List.getElem_take]
    have hcn : ∀ k, (hk : k < l.length) → cont l k = true → ¬ (l[k] == 10) = true := by
      intro k hk hc h10
      have e10 : l[k] = 10 := by simpa using h10
      simp [cont, byteAt, List.getD_eq_getElem?_getD, hk, e10] at hc
    unfold dec at hjw
    match j, hj, hjw, hjl with
    | 0, _, _, _ => simp [e, hx]
    | 1, _, hjw, hjl => exact hcn 1 hjl (w1 (by omega))
    | 2, _, hjw, hjl => exact hcn 2 hjl (w2 (by omega))
    | 3, _, hjw, hjl => exact hcn 3 hjl (w3 (by omega))
    | j + 4, _, hjw, _ => omega

theorem nl_append (a b : List UInt8) : nl (a ++ b) = nl a + nl b := by simp [nl]
theorem nl_split {l : List UInt8} (h : 0 < l.length) : nl l = (if (dec l).1 = 10 then 1 else 0) + nl (l.drop (dec l).2) := by
  rw [← nl_take h, ← nl_append, List.take_append_drop]

theorem wrap_wrap (a b : Int) : wrap64 (wrap64 a + b) = wrap64 (a + b) := by
  unfold wrap64
  omega

/-- The line: so many newlines on. -/
theorem go_line : ∀ (n : Nat) (l : List UInt8) (p : Int × Int), l.length ≤ n → wrap64 p.1 = p.1 → (go l p).1 = wrap64 (p.1 + nl l)
  | 0, l, p, h, hp => by
    have : l = [] := List.length_eq_zero_iff.1 (by omega)
    subst this
    show p.1 = wrap64 (p.1 + ((0 : Nat) : Int))
    rw [show p.1 + ((0 : Nat) : Int) = p.1 by omega, hp]
  | n + 1, l, p, h, hp => by
    by_cases hl : 0 < l.length
    · have h1 := dec_pos l
      have hs : wrap64 (step (dec l).1 p).1 = (step (dec l).1 p).1 := by
        unfold step
        split
        · have := wrap_wrap (p.1 + 1) 0
          rwa [Int.add_zero, Int.add_zero] at this
        · exact hp
      have e : go l p = go (l.drop (dec l).2) (step (dec l).1 p) := go_step step p hl
      rw [e, go_line n _ _ (by rw [List.length_drop]; omega) hs, nl_split hl]
      unfold step
      split
      · show wrap64 (wrap64 (p.1 + 1) + _) = _
        rw [wrap_wrap]
        congr 1
        omega
      · congr 1
        simp
    · have : l = [] := List.length_eq_zero_iff.1 (by omega)
      subst this
      show p.1 = wrap64 (p.1 + ((0 : Nat) : Int))
      rw [show p.1 + ((0 : Nat) : Int) = p.1 by omega, hp]

theorem rc_from : ∀ (n : Nat) (l : List UInt8) (m : Nat), l.length ≤ n → goG (fun _ n => n + 1) l m = m + rc l
  | 0, l, m, h => by
    have : l = [] := List.length_eq_zero_iff.1 (by omega)
    subst this
    rfl
  | n + 1, l, m, h => by
    by_cases hl : 0 < l.length
    · have h1 := dec_pos l
      have hd : (l.drop (dec l).2).length ≤ n := by rw [List.length_drop]; omega
      unfold rc
      rw [go_step _ m hl, go_step _ 0 hl, rc_from n _ (m + 1) hd, rc_from n _ (0 + 1) hd]
      omega
    · have : l = [] := List.length_eq_zero_iff.1 (by omega)
      subst this
      rfl
theorem rc_step {l : List UInt8} (hl : 0 < l.length) : rc l = rc (l.drop (dec l).2) + 1 := by
  have e : rc l = goG (fun _ n => n + 1) (l.drop (dec l).2) (0 + 1) := go_step _ 0 hl
  rw [e, rc_from _ _ _ (Nat.le_refl _)]
  omega

/-- The column: so many runes on, where there is no newline. -/
theorem go_col : ∀ (n : Nat) (l : List UInt8) (p : Int × Int), l.length ≤ n → nl l = 0 → wrap64 p.2 = p.2 → (go l p).2 = wrap64 (p.2 + rc l)
  | 0, l, p, h, _, hp => by
    have : l = [] := List.length_eq_zero_iff.1 (by omega)
    subst this
    show p.2 = wrap64 (p.2 + ((0 : Nat) : Int))
    rw [show p.2 + ((0 : Nat) : Int) = p.2 by omega, hp]
  | n + 1, l, p, h, hn, hp => by
    by_cases hl : 0 < l.length
    · have h1 := dec_pos l
      have hs := nl_split hl
      have h10 : (dec l).1 ≠ 10 := fun h10 => by rw [if_pos h10] at hs; omega
      rw [if_neg h10] at hs
      have e : go l p = go (l.drop (dec l).2) (step (dec l).1 p) := go_step step p hl
      have es : step (dec l).1 p = (p.1, wrap64 (p.2 + 1)) := by unfold step; rw [if_neg h10]
      rw [e, es, go_col n _ _ (by rw [List.length_drop]; omega) (by omega) (by have := wrap_wrap (p.2 + 1) 0; rwa [Int.add_zero, Int.add_zero] at this), rc_step hl]
      show wrap64 (wrap64 (p.2 + 1) + _) = _
      rw [wrap_wrap]
      congr 1
      omega
    · have : l = [] := List.length_eq_zero_iff.1 (by omega)
      subst this
      show p.2 = wrap64 (p.2 + ((0 : Nat) : Int))
      rw [show p.2 + ((0 : Nat) : Int) = p.2 by omega, hp]

/-- Behind a newline: the column is counted from one. -/
theorem go_col_nl (a b : List UInt8) (p : Int × Int) (hb : nl b = 0) : (go (a ++ 10 :: b) p).2 = wrap64 (1 + rc b) := by
  have e : go (a ++ 10 :: b) p = go (10 :: b) (go a p) := go_append step a (10 :: b) p (by simp [Cut, cont, byteAt])
  have e2 : go (10 :: b) (go a p) = go ((10 :: b).drop (dec (10 :: b)).2) (step (dec (10 :: b)).1 (go a p)) := go_step step _ (by simp)
  have ed : dec (10 :: b) = (10, 1) := (F_ten _ _ _ _ _ _ _).2 rfl
  rw [e, e2, ed]
  show (go b (wrap64 ((go a p).1 + 1), 1)).2 = _
  rw [go_col _ _ _ (Nat.le_refl _) hb (show wrap64 1 = 1 by decide)]

end Go.Proofs.Qxb6630105a
