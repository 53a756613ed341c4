/-
  Seat b6630071a: a slice of operations that came in, opened.
-/
import Derived.Test.Qxb6630071aProg
import Derived.Test.Qxb6630071aMem
import Derived.Deep.Slices
import Derived.ProofKit
import Derived.ChangeOld
import Derived.KernelRfl
namespace Go.Proofs.Qxb6630071a
open Go.ChangeShapes Go.WideShapes Go.ChangeAt Go.RowKit

theorem Try.cells25 : Try.prog.cellsOf 25 = 8 := by kernel_rfl
theorem Try.cells3 : Try.prog.cellsOf 3 = 1 := by kernel_rfl
theorem Try.cells4 : Try.prog.cellsOf 4 = 1 := by kernel_rfl
theorem Try.cells9 : Try.prog.cellsOf 9 = 1 := by kernel_rfl

/-- One element: its eight cells are an operation's. -/
theorem open_rec {H : Type} {enc : TypeId × Value → H} {w : World} {base : Nat} {spare : Nat → Bool} {held : Bool} {fuel : Nat} {cs : List Value} {x : DataW H × List MemPlace} (hl : cs.length = 8)
    (h : DataW.trod enc Try.prog w base spare held fuel 25 cs = some x) : ∃ r : Rec, cs = r.cells ∧ (Lit.int .i64 r.t).wf = true := by
  obtain ⟨xs, n, _, _, _, hxl, hf⟩ := DataW.trod_struct Try.underlying25 h
  match xs, hxl, cs, hl with
  | [y0, y1, y2, y3, y4, y5, y6, y7], _, [v0, v1, v2, v3, v4, v5, v6, v7], _ =>
    have g0 := hf 0 _ rfl
    have g1 := hf 1 _ rfl
    have g2 := hf 2 _ rfl
    have g3 := hf 3 _ rfl
    have g4 := hf 4 _ rfl
    have g5 := hf 5 _ rfl
    have g6 := hf 6 _ rfl
    have g7 := hf 7 _ rfl
    simp [Try.cells3, Try.cells4, Try.cells9] at g0 g1 g2 g3 g4 g5 g6 g7
    obtain ⟨k, e0, _, _⟩ := DataW.trod_int Try.underlying3 g0
    obtain ⟨t, e1, _, ht⟩ := DataW.trod_int Try.underlying3 g1
    obtain ⟨it, e2, _, _⟩ := DataW.trod_string Try.underlying9 g2
    obtain ⟨rg, e3, _⟩ := DataW.trod_bool Try.underlying4 g3
    obtain ⟨to, e4, _, _⟩ := DataW.trod_string Try.underlying9 g4
    obtain ⟨te, e5, _⟩ := DataW.trod_bool Try.underlying4 g5
    obtain ⟨hf', e6, _⟩ := DataW.trod_bool Try.underlying4 g6
    obtain ⟨fr, e7, _, _⟩ := DataW.trod_int Try.underlying3 g7
    simp only [List.cons.injEq, and_true] at e0 e1 e2 e3 e4 e5 e6 e7
    subst e0 e1 e2 e3 e4 e5 e6 e7
    exact ⟨⟨k, t, it, rg, to, te, hf', fr⟩, rfl, ht⟩

/-- What the walk is told of the slice that came in: nil; without elements; or a row of operations. -/
def IsOps (w : World) (a : Option Addr) (n cap : Nat) : Prop :=
  (a = none ∧ n = 0 ∧ cap = 0) ∨ (∃ x, a = some x ∧ n = 0) ∨
  ∃ b off R, a = some ⟨b, off, none⟩ ∧ n ≤ maxLen ∧ b < w.heap.size ∧ RowAt w b off n R ∧ ∀ i, i < n → (Lit.int .i64 (R i).t).wf = true

theorem open_ops {H : Type} {enc : TypeId × Value → H} {w : World} {base : Nat} {held : Bool} {fuel : Nat} {a : Option Addr} {n cap : Nat} {x : DataW H × List MemPlace}
    (h : DataW.trod enc Try.prog w base (fun _ => true) held fuel 22 [.slice a n cap] = some x) : IsOps w a n cap := by
  rcases Go.Deep.open_slice Try.underlying22 h with ⟨hcs, _⟩ | ⟨a', len, cap', m, f, D, Pl, hcs, _, hl, hm, hmm, _, hx⟩
  · simp at hcs
    obtain ⟨rfl, rfl, rfl⟩ := hcs
    exact .inl ⟨rfl, rfl, rfl⟩
  · simp at hcs
    obtain ⟨rfl, rfl, rfl⟩ := hcs
    simp only [if_true] at hmm
    subst hmm
    by_cases hn : n = 0
    · exact .inr (.inl ⟨_, rfl, hn⟩)
    have each : ∀ i, i < n → ∃ r : Rec, (∀ j v, r.cells[j]? = some v → w.cell? (a'.add (i * 8 + j)) = some v) ∧ (Lit.int .i64 r.t).wf = true := by
      intro i hi
      obtain ⟨cs', h1, h2⟩ := hx i (by omega)
      rw [Try.cells25] at h1
      obtain ⟨_, hlen, hcell⟩ := World.cells?_some h1
      obtain ⟨r, rfl, hw⟩ := open_rec hlen h2
      refine ⟨r, fun j v hv => ?_, hw⟩
      have := hcell j (by have := (List.getElem?_eq_some_iff.1 hv).1; simpa [Rec.cells_length] using this)
      rw [Go.Deep.add_add] at this
      rw [this, hv]
    obtain ⟨R, hR⟩ := @Go.Deep.choose_lt Rec ⟨⟨0, 0, ByteArray.empty, false, ByteArray.empty, false, false, 0⟩⟩ n _ each
    obtain ⟨b, off, spot⟩ := a'
    have hc0 := (hR 0 (by omega)).1 0 _ rfl
    have hspot : spot = none := by simpa [Addr.add] using World.cell?_spot hc0
    subst hspot
    refine .inr (.inr ⟨b, off, R, rfl, by omega, ?_, fun i hi j v hv => ?_, fun i hi => (hR i hi).2⟩)
    · exact World.block_lt_of_cell? w _ (by simpa [Addr.add] using hc0)
    · have := (hR i hi).1 j v hv
      rw [Addr.add_mid, ← Nat.add_assoc] at this
      exact this
end Go.Proofs.Qxb6630071a
