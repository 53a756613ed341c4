/-
  Seat b6630071a: what the walks know of a row of operations in memory; the plain answer; the look-up in a map of bools that the call itself has made.
-/
import Derived.Maps.OwnSet
import Derived.Maps.OwnOps
import Derived.Maps.Views
import Derived.Deep.MidRow
import Derived.WalkKit
namespace Go.Proofs.Qxb6630071a
open Go.RowKit Go.Maps

/-- One operation, as its eight cells hold it. -/
structure Rec where
  k : Int
  t : Int
  it : ByteArray
  rg : Bool
  to : ByteArray
  te : Bool
  hf : Bool
  fr : Int

/-- The eight cells. -/
def Rec.cells (r : Rec) : List Value := [.int .i64 r.k, .int .i64 r.t, .string r.it, .bool r.rg, .string r.to, .bool r.te, .bool r.hf, .int .i64 r.fr]
theorem Rec.cells_length (r : Rec) : r.cells.length = 8 := rfl
theorem Rec.cells_one (r : Rec) : ∀ v ∈ r.cells, v.oneCell' = true := by
  intro v hv
  simp only [Rec.cells, List.mem_cons, List.not_mem_nil, or_false] at hv
  rcases hv with rfl | rfl | rfl | rfl | rfl | rfl | rfl | rfl <;> rfl

/-- A row of n operations lies in block b from offset off on. -/
def RowAt (w : World) (b off n : Nat) (R : Nat → Rec) : Prop := ∀ i, i < n → w.rangeAt b (off + i * 8) (R i).cells

section
variable {w : World} {b off n : Nat} {R : Nat → Rec}
theorem RowAt.c0 (h : RowAt w b off n R) (i : Nat) (hi : i < n) : w.cell? ⟨b, off + i * 8, none⟩ = some (.int .i64 (R i).k) := h i hi 0 _ rfl
theorem RowAt.c1 (h : RowAt w b off n R) (i : Nat) (hi : i < n) : w.cell? ⟨b, off + i * 8 + 1, none⟩ = some (.int .i64 (R i).t) := h i hi 1 _ rfl
theorem RowAt.c2 (h : RowAt w b off n R) (i : Nat) (hi : i < n) : w.cell? ⟨b, off + i * 8 + 2, none⟩ = some (.string (R i).it) := h i hi 2 _ rfl
theorem RowAt.c3 (h : RowAt w b off n R) (i : Nat) (hi : i < n) : w.cell? ⟨b, off + i * 8 + 3, none⟩ = some (.bool (R i).rg) := h i hi 3 _ rfl
theorem RowAt.c4 (h : RowAt w b off n R) (i : Nat) (hi : i < n) : w.cell? ⟨b, off + i * 8 + 4, none⟩ = some (.string (R i).to) := h i hi 4 _ rfl
theorem RowAt.c5 (h : RowAt w b off n R) (i : Nat) (hi : i < n) : w.cell? ⟨b, off + i * 8 + 5, none⟩ = some (.bool (R i).te) := h i hi 5 _ rfl
theorem RowAt.c6 (h : RowAt w b off n R) (i : Nat) (hi : i < n) : w.cell? ⟨b, off + i * 8 + 6, none⟩ = some (.bool (R i).hf) := h i hi 6 _ rfl
theorem RowAt.c7 (h : RowAt w b off n R) (i : Nat) (hi : i < n) : w.cell? ⟨b, off + i * 8 + 7, none⟩ = some (.int .i64 (R i).fr) := h i hi 7 _ rfl

/-- Whoever has turned nothing below B leaves a row below B as it was. -/
theorem RowAt.below {B : Nat} {w' : World} (h : RowAt w b off n R) (hb : Below B w w') (hB : b < B) : RowAt w' b off n R := fun i hi j v hv =>
  (hb.cell (p := ⟨b, off + i * 8 + j, none⟩) hB).trans (h i hi j v hv)
theorem RowAt.take {m : Nat} (h : RowAt w b off n R) (hm : m ≤ n) : RowAt w b off m R := fun i hi => h i (by omega)
/-- A new operation behind the first n. -/
theorem RowAt.snoc (h : RowAt w b off n R) (ht : w.there b (off + n * 8) 8) : RowAt (w.setCells b (off + n * 8) (R n).cells) b off (n + 1) R := by
  intro i hi
  rcases Nat.lt_succ_iff_lt_or_eq.1 hi with hlt | rfl
  · exact World.rangeAt_setCells_apart (h i hlt) _ _ _ (by simp [Rec.cells_length]; omega)
  · exact World.rangeAt_setCells_same _ _ _ _ (by simpa [Rec.cells_length] using ht)
theorem there_mid {m o k : Nat} (h : w.there b o m) (hk : k + 8 ≤ m) : w.there b (o + k) 8 := fun j hj => by
  have := h (k + j) (by omega)
  rwa [← Nat.add_assoc] at this
end

/-- Some commit of transaction x lies among the first m operations. -/
def comm (R : Nat → Rec) (m : Nat) (x : Int) : Prop := ∃ j, j < m ∧ (R j).k = 3 ∧ (R j).t = x

/-- r is the least index below n whose operation comes behind a commit of its own transaction; -1 where there is none. -/
def Ans (R : Nat → Rec) (n : Nat) (r : Int) : Prop :=
  (r = -1 ∧ ∀ i, i < n → ¬ comm R i (R i).t) ∨ ∃ i : Nat, r = i ∧ i < n ∧ comm R i (R i).t ∧ ∀ j, j < i → ¬ comm R j (R j).t

theorem Ans.uniq {R : Nat → Rec} {n : Nat} {r s : Int} (h : Ans R n r) (h' : Ans R n s) : r = s := by
  rcases h with ⟨rfl, h1⟩ | ⟨i, rfl, hi, h2, h3⟩ <;> rcases h' with ⟨rfl, h1'⟩ | ⟨i', rfl, hi', h2', h3'⟩
  · rfl
  · exact absurd h2' (h1 _ hi')
  · exact absurd h2 (h1' _ hi)
  · rcases Nat.lt_trichotomy i i' with hlt | rfl | hgt
    · exact absurd h2 (h3' _ hlt)
    · rfl
    · exact absurd h2' (h3 _ hgt)

/-- The answer on the first m operations, out of the answer on all. -/
theorem Ans.cut {R : Nat → Rec} {n m : Nat} {r : Int} (h : Ans R n r) (hm : m ≤ n) : Ans R m (if 0 ≤ r ∧ r < m then r else -1) := by
  rcases h with ⟨rfl, h1⟩ | ⟨i, rfl, hi, h2, h3⟩
  · rw [if_neg (by omega)]
    exact .inl ⟨rfl, fun i hi => h1 i (by omega)⟩
  · by_cases him : i < m
    · rw [if_pos (by omega)]
      exact .inr ⟨i, rfl, him, h2, h3⟩
    · rw [if_neg (by omega)]
      exact .inl ⟨rfl, fun j hj => h3 j (by omega)⟩

theorem Ans.range {R : Nat → Rec} {n : Nat} {r : Int} (h : Ans R n r) : -1 ≤ r ∧ r < n := by
  rcases h with ⟨rfl, _⟩ | ⟨i, rfl, hi, _⟩ <;> omega

theorem Ans.comm {R : Nat → Rec} {n : Nat} {i : Nat} (h : Ans R n i) : i < n ∧ Qxb6630071a.comm R i (R i).t := by
  rcases h with ⟨h, _⟩ | ⟨j, h, hj, h2, _⟩
  · omega
  · obtain rfl : i = j := by omega
    exact ⟨hj, h2⟩

theorem comm_succ {R : Nat → Rec} {m : Nat} {x : Int} : comm R (m + 1) x ↔ comm R m x ∨ ((R m).k = 3 ∧ (R m).t = x) := by
  constructor
  · rintro ⟨j, hj, h⟩
    rcases Nat.lt_succ_iff_lt_or_eq.1 hj with hlt | rfl
    · exact .inl ⟨j, hlt, h⟩
    · exact .inr h
  · rintro (⟨j, hj, h⟩ | h)
    · exact ⟨j, by omega, h⟩
    · exact ⟨m, by omega, h⟩

/-! ### the map of bools -/
theorem plainElem_bool_inv {H : Type} {P : Program} {e : TypeId} (he : P.underlying e = some .bool) {v : Value} {z : DataW H × List MemPlace} (h : plainElem P e v = some z) : ∃ a, v = .bool a ∧ z = (.lit (.bool a), []) := by
  unfold plainElem at h
  rw [he] at h
  cases v <;> simp at h
  exact ⟨_, rfl, h.symm⟩

theorem wpList_lookup_own_bool {H : Type} {P : Program} (w : World) {ops : Array Oper} {rest : List Oper} {o : Oper} {a : Act} {Q : Exit → Act → World → Prop}
    (hg : o.guard = none) (m x : Operand) (t : TypeId) (hop : o.op = Op.lookup t m x false)
    (k e : TypeId) (K : Keyed P k) (ht : P.underlying t = some (.map k e)) (he : P.underlying e = some .bool) (hz : (zeroValue e).run P w = .ok (.bool false) w) (b n : Nat) (D : DataW H)
    (hm : a.eval m = .map (some b)) (hown : w.ownsMap P k (plainElem P e) b n D) (key : Value) (kl : Lit) (hx : a.eval x = key) (hkey : keyOf P k key = some kl)
    (c : Bool) (hc : D.atKey kl (.lit (.bool false)) = .lit (.bool c)) (hK : wpList P ops Q rest (a.put o.dst (.bool c)) w) :
    wpList P ops Q (o :: rest) a w := by
  refine wpList_plain hg fun K' hK' => ?_
  obtain ⟨v, ps, hrun, hv⟩ := hown.lookup K ht hz (plainElem_bool he false) hkey
  obtain ⟨c', rfl, hc'⟩ := plainElem_bool_inv he hv
  simp only [Prod.mk.injEq] at hc'
  rw [hc] at hc'
  obtain rfl : c = c' := by simpa using hc'.1
  unfold Oper.wp
  simp [execOp, hop, hm, hx, hrun, Result.andThen]
  exact hK' _ _ hK

/-- What the map holds: true just at the keys of which p says yes. -/
structure Holds {H : Type} (D : DataW H) (p : Int → Bool) : Prop where
  isMap : IsMap D
  at_ : ∀ x : Int, D.atKey (.int .i64 x) (.lit (.bool false)) = .lit (.bool (p x))

theorem holds_empty {H : Type} : Holds (H := H) (.map []) (fun _ => false) := ⟨isMap_empty, fun _ => rfl⟩

theorem Holds.put {H : Type} {D : DataW H} {p : Int → Bool} (h : Holds D p) (y : Int) : Holds (D.put (.int .i64 y) (.lit (.bool true))) (fun x => p x || x == y) := by
  refine ⟨h.isMap.put _ _, fun x => ?_⟩
  by_cases hxy : x = y
  · subst hxy
    rw [atKey_put_same h.isMap (by trivial)]
    simp
  · rw [atKey_put_other (by simpa using hxy), h.at_ x]
    simp [hxy]

end Go.Proofs.Qxb6630071a
