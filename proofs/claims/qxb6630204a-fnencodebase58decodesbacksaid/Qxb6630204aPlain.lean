/-
  Seat b6630204a: the plain part: numbers in a base, least significant digit first; no Go in sight.
-/
namespace Go.Proofs.Qxb6630204a

/-- The value of digits in base B, least significant first. -/
def val (B : Nat) : List Nat → Nat
  | [] => 0
  | d :: r => d + B * val B r

theorem val_append (B : Nat) : ∀ (a b : List Nat), val B (a ++ b) = val B a + B ^ a.length * val B b
  | [], b => by simp [val]
  | x :: a, b => by
    simp only [List.cons_append, val, List.length_cons]
    rw [val_append B a b, Nat.mul_add, Nat.pow_succ, Nat.mul_comm (B ^ a.length) B, Nat.mul_assoc, Nat.add_assoc]
theorem val_snoc (B : Nat) (a : List Nat) (d : Nat) : val B (a ++ [d]) = val B a + B ^ a.length * d := by
  rw [val_append]; simp [val]
theorem val_lt {B : Nat} (hB : 1 ≤ B) : ∀ (a : List Nat), (∀ d ∈ a, d < B) → val B a < B ^ a.length
  | [], _ => by simp [val]
  | x :: a, h => by
    have h1 := val_lt hB a (fun d hd => h d (List.mem_cons_of_mem _ hd))
    have h2 := h x List.mem_cons_self
    simp only [val, List.length_cons, Nat.pow_succ]
    have h3 : val B a + 1 ≤ B ^ a.length := h1
    have h4 := Nat.mul_le_mul_left B h3
    rw [Nat.mul_add, Nat.mul_one] at h4
    rw [Nat.mul_comm (B ^ a.length) B]
    omega

/-- ds are THE digits of n in base B: each below B, the value n, no leading nought. -/
structure Canon (B : Nat) (ds : List Nat) (n : Nat) : Prop where
  small : ∀ d ∈ ds, d < B
  val : val B ds = n
  top : ds = [] ∨ B ^ (ds.length - 1) ≤ n

theorem Canon.cons {B : Nat} {d : Nat} {ds : List Nat} {n : Nat} (hB : 2 ≤ B) (h : Canon B (d :: ds) n) : d = n % B ∧ Canon B ds (n / B) ∧ 0 < n := by
  have hd := h.small d List.mem_cons_self
  have hv : d + B * Qxb6630204a.val B ds = n := h.val
  have e1 : n % B = d := by rw [← hv, Nat.add_mul_mod_self_left, Nat.mod_eq_of_lt hd]
  have e2 : n / B = Qxb6630204a.val B ds := by rw [← hv, Nat.add_mul_div_left _ _ (by omega), Nat.div_eq_of_lt hd, Nat.zero_add]
  have ht : B ^ ds.length ≤ n := by
    rcases h.top with h0 | h0
    · cases h0
    · simpa using h0
  have hpos : 0 < B ^ ds.length := Nat.pow_pos (by omega)
  refine ⟨e1.symm, ⟨fun x hx => h.small x (List.mem_cons_of_mem _ hx), e2.symm, ?_⟩, by omega⟩
  cases ds with
  | nil => exact .inl rfl
  | cons y r =>
    right
    rw [Nat.le_div_iff_mul_le (by omega)]
    simpa [Nat.pow_succ] using ht

theorem Canon.uniq {B : Nat} (hB : 2 ≤ B) : ∀ {ds es : List Nat} {n : Nat}, Canon B ds n → Canon B es n → ds = es
  | [], [], _, _, _ => rfl
  | [], e :: es, n, h, h' => by
    have h0 : 0 = n := h.val
    have := (h'.cons hB).2.2
    omega
  | d :: ds, [], n, h, h' => by
    have h0 : 0 = n := h'.val
    have := (h.cons hB).2.2
    omega
  | d :: ds, e :: es, n, h, h' => by
    obtain ⟨a1, b1, _⟩ := h.cons hB
    obtain ⟨a2, b2, _⟩ := h'.cons hB
    rw [a1, a2, Canon.uniq hB b1 b2]

/-- On the way: so many digits are laid, c is what is left. -/
structure Way (B : Nat) (ds : List Nat) (c n : Nat) : Prop where
  small : ∀ d ∈ ds, d < B
  val : val B ds + B ^ ds.length * c = n
  top : c = 0 → ds = [] ∨ B ^ (ds.length - 1) ≤ n

theorem Way.done {B : Nat} {ds : List Nat} {n : Nat} (h : Way B ds 0 n) : Canon B ds n := ⟨h.small, by have := h.val; simpa using this, h.top rfl⟩
theorem Way.start {B n : Nat} : Way B [] n n := ⟨fun d hd => (by cases hd), by simp [Qxb6630204a.val], fun _ => .inl rfl⟩
theorem Way.push {B : Nat} {ds : List Nat} {c n : Nat} (hB : 1 ≤ B) (h : Way B ds c n) (hc : 0 < c) : Way B (ds ++ [c % B]) (c / B) n := by
  have hv := h.val
  have hcm := Nat.mod_add_div c B
  refine ⟨fun d hd => ?_, ?_, fun h0 => .inr ?_⟩
  · rcases List.mem_append.1 hd with hd | hd
    · exact h.small d hd
    · rw [List.mem_singleton.1 hd]; exact Nat.mod_lt _ (by omega)
  · rw [val_snoc, List.length_append, List.length_singleton, Nat.pow_succ, Nat.add_assoc, Nat.mul_assoc, ← Nat.mul_add, hcm]
    exact hv
  · rw [List.length_append, List.length_singleton, Nat.add_sub_cancel]
    rw [← hv]
    have : B ^ ds.length * 1 ≤ B ^ ds.length * c := Nat.mul_le_mul_left _ hc
    omega

/-- Within one multiplication by M: the first i digits turned, the rest as they were, carry c. -/
structure Turn (B M : Nat) (ds : List Nat) (b : Nat) (es : List Nat) (c : Nat) : Prop where
  len : es.length ≤ ds.length
  small : ∀ d ∈ es, d < B
  val : val B es + B ^ es.length * c = val B (ds.take es.length) * M + b

theorem Turn.start {B M : Nat} (ds : List Nat) (b : Nat) : Turn B M ds b [] b := ⟨Nat.zero_le _, fun d hd => (by cases hd), by simp [Qxb6630204a.val]⟩
theorem Turn.step {B M : Nat} {ds es : List Nat} {b c : Nat} (hB : 1 ≤ B) (h : Turn B M ds b es c) (hi : es.length < ds.length) :
    Turn B M ds b (es ++ [(c + ds[es.length] * M) % B]) ((c + ds[es.length] * M) / B) := by
  have hv := h.val
  have hcm := Nat.mod_add_div (c + ds[es.length] * M) B
  refine ⟨by rw [List.length_append, List.length_singleton]; exact hi, fun d hd => ?_, ?_⟩
  · rcases List.mem_append.1 hd with hd | hd
    · exact h.small d hd
    · rw [List.mem_singleton.1 hd]; exact Nat.mod_lt _ (by omega)
  · rw [val_snoc, List.length_append, List.length_singleton, Nat.pow_succ, Nat.add_assoc, Nat.mul_assoc, ← Nat.mul_add, hcm,
      List.take_succ_eq_append_getElem hi, val_snoc, List.length_take, Nat.min_eq_left (Nat.le_of_lt hi), Nat.add_mul, Nat.mul_add, ← Nat.add_assoc, hv, Nat.mul_assoc]
    omega
/-- The whole row turned: on the way to the digits of n * M + b. -/
theorem Turn.way {B M : Nat} {ds es : List Nat} {b c n : Nat} (hM : 1 ≤ M) (h : Turn B M ds b es c) (hl : es.length = ds.length) (hd : Canon B ds n) : Way B es c (n * M + b) := by
  have hv := h.val
  rw [hl, List.take_length, hd.val] at hv
  refine ⟨h.small, by rw [hl]; exact hv, fun _ => ?_⟩
  rcases hd.top with h0 | h0
  · left
    rw [h0] at hl
    exact List.length_eq_zero_iff.1 hl
  · right
    rw [hl]
    have : n * 1 ≤ n * M := Nat.mul_le_mul_left _ hM
    omega

/-- The big-endian value of bytes. -/
def big (B : Nat) (bs : List Nat) : Nat := val B bs.reverse
theorem big_snoc (B : Nat) (bs : List Nat) (b : Nat) : big B (bs ++ [b]) = big B bs * B + b := by
  unfold big
  rw [List.reverse_append]
  simp [val]
  rw [Nat.mul_comm, Nat.add_comm]
theorem canon_big {B : Nat} {bs : List Nat} (hs : ∀ d ∈ bs, d < B) (h0 : bs = [] ∨ 1 ≤ bs.headD 0) : Canon B bs.reverse (big B bs) := by
  refine ⟨fun d hd => hs d (List.mem_reverse.1 hd), rfl, ?_⟩
  cases bs with
  | nil => exact .inl rfl
  | cons x r =>
    right
    have hx : 1 ≤ x := by
      rcases h0 with h0 | h0
      · cases h0
      · exact h0
    unfold big
    rw [List.reverse_cons, val_snoc]
    simp only [List.length_append, List.length_reverse, List.length_singleton, Nat.add_sub_cancel]
    have : B ^ r.length * 1 ≤ B ^ r.length * x := Nat.mul_le_mul_left _ hx
    omega
theorem big_lt {B : Nat} (hB : 1 ≤ B) {bs : List Nat} (hs : ∀ d ∈ bs, d < B) : big B bs < B ^ bs.length := by
  have := val_lt hB bs.reverse (fun d hd => hs d (List.mem_reverse.1 hd))
  rwa [List.length_reverse] at this

end Go.Proofs.Qxb6630204a
namespace Go.Proofs.Qxb6630204a

theorem pow_58 (m : Nat) : 256 ^ m ≤ 58 ^ (2 * m) := by
  rw [Nat.pow_mul]
  exact Nat.pow_le_pow_left (by decide) m
/-- How many digits: on the way, at most two a byte. -/
theorem Way.len {ds : List Nat} {c n m : Nat} (h : Way 58 ds c n) (hc : 0 < c) (hn : n < 256 ^ m) : ds.length < 2 * m := by
  have h1 := h.val
  have h2 : 58 ^ ds.length * 1 ≤ 58 ^ ds.length * c := Nat.mul_le_mul_left _ hc
  have h3 := pow_58 m
  have h4 : 58 ^ ds.length < 58 ^ (2 * m) := by omega
  exact (Nat.pow_lt_pow_iff_right (by decide)).1 h4
theorem Canon.len {ds : List Nat} {n m : Nat} (h : Canon 58 ds n) (hn : n < 256 ^ m) : ds.length ≤ 2 * m := by
  rcases h.top with h0 | h0
  · rw [h0]; exact Nat.zero_le _
  · have h3 := pow_58 m
    have h4 : 58 ^ (ds.length - 1) < 58 ^ (2 * m) := by omega
    have := (Nat.pow_lt_pow_iff_right (by decide)).1 h4
    omega
theorem small_big {bs : List Nat} (hs : ∀ d ∈ bs, d < 256) (m : Nat) (hm : bs.length ≤ m) : big 256 bs < 256 ^ m :=
  Nat.lt_of_lt_of_le (big_lt (by decide) hs) (Nat.pow_le_pow_right (by decide) hm)

/-- In the midst of a turn: what lies at the next place, and behind its store. -/
theorem mid_len {es ds : List Nat} (h : es.length ≤ ds.length) : (es ++ ds.drop es.length).length = ds.length := by
  rw [List.length_append, List.length_drop]; omega
theorem mid_get {es ds : List Nat} (h : es.length < ds.length) : (es ++ ds.drop es.length)[es.length]'(by rw [mid_len (Nat.le_of_lt h)]; exact h) = ds[es.length] := by
  rw [List.getElem_append_right (Nat.le_refl _)]
  simp
theorem mid_set {es ds : List Nat} (h : es.length < ds.length) (d : Nat) : (es ++ ds.drop es.length).set es.length d = (es ++ [d]) ++ ds.drop (es ++ [d]).length := by
  rw [List.set_append_right _ _ (Nat.le_refl _), Nat.sub_self, List.length_append, List.length_singleton, List.append_assoc]
  congr 1
  rw [List.drop_eq_getElem_cons h]
  rfl

/-- The alphabet. -/
def alpha : List Nat := [49, 50, 51, 52, 53, 54, 55, 56, 57, 65, 66, 67, 68, 69, 70, 71, 72, 74, 75, 76, 77, 78, 80, 81, 82, 83, 84, 85, 86, 87, 88, 89, 90, 97, 98, 99, 100, 101, 102, 103, 104, 105, 106, 107, 109, 110, 111, 112, 113, 114, 115, 116, 117, 118, 119, 120, 121, 122]
/-- The letter of a digit. -/
def al (d : Nat) : Nat := alpha.getD d 0
/-- The text: a '1' for each leading nought, then the digits, most significant first. -/
def text (k : Nat) (ds : List Nat) : List Nat := List.replicate k 49 ++ (ds.map al).reverse
theorem text_length (k : Nat) (ds : List Nat) : (text k ds).length = k + ds.length := by simp [text]

theorem text_one {k t : Nat} (ds : List Nat) (h : t < k) : (text k ds).getD t 0 = 49 := by
  unfold text
  rw [List.getD_eq_getElem?_getD, List.getElem?_append_left (by simpa using h), List.getElem?_replicate, if_pos h]
  rfl
theorem text_digit {k t : Nat} {ds : List Nat} (h : t < ds.length) : (text k ds).getD (k + ds.length - 1 - t) 0 = al (ds.getD t 0) := by
  unfold text
  rw [List.getD_eq_getElem?_getD, List.getElem?_append_right (by simp; omega), List.length_replicate, List.getElem?_reverse (by simp; omega), List.length_map,
    show ds.length - 1 - (k + ds.length - 1 - t - k) = t by omega, List.getElem?_map, List.getElem?_eq_getElem h, List.getD_eq_getElem?_getD, List.getElem?_eq_getElem h]
  rfl
/-- A row that bears the right letter at each place is the text. -/
theorem text_of {k : Nat} {ds cur : List Nat} (hl : cur.length = k + ds.length) (h1 : ∀ t, t < k → cur.getD t 0 = 49) (h2 : ∀ t, t < ds.length → cur.getD (k + ds.length - 1 - t) 0 = al (ds.getD t 0)) : cur = text k ds := by
  apply List.ext_getElem
  · rw [text_length, hl]
  · intro i hi hi'
    have e1 : cur.getD i 0 = cur[i] := by rw [List.getD_eq_getElem?_getD, List.getElem?_eq_getElem hi]; rfl
    have e2 : (text k ds).getD i 0 = (text k ds)[i] := by rw [List.getD_eq_getElem?_getD, List.getElem?_eq_getElem hi']; rfl
    rw [← e1, ← e2]
    by_cases hk : i < k
    · rw [h1 i hk, text_one ds hk]
    · have ht := h2 (k + ds.length - 1 - i) (by omega)
      have ht2 := text_digit (k := k) (ds := ds) (t := k + ds.length - 1 - i) (by omega)
      rw [show k + ds.length - 1 - (k + ds.length - 1 - i) = i by omega] at ht ht2
      rw [ht, ht2]
end Go.Proofs.Qxb6630204a
