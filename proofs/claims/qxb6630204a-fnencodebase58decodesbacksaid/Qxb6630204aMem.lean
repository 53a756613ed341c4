/-
  Seat b6630204a: rows of bytes in memory; the bounds on total length; zzSameBytes.
-/
import Derived.Test.Qxb6630204aProg
import Derived.Test.Qxb6630204aPlain
import Derived.WalkKit
import Derived.WalkSmall
import Derived.WalkSpells
import Derived.Laws.CopyOwn
import Derived.Laws.BytesString
import Derived.Deep.AppendLies
import Derived.Deep.QuietTactic
import Derived.BigQuiet
import Derived.KernelRfl
namespace Go.Proofs.Qxb6630204a
open Go.RowKit

theorem hidden {p : Prop} (h : p) : Hid p := h

/-- Numbers as bytes in cells. -/
def vals (bs : List Nat) : List Value := bs.map (fun d : Nat => Value.int .u8 (d : Int))
theorem vals_length (bs : List Nat) : (vals bs).length = bs.length := List.length_map _
theorem vals_one (bs : List Nat) : ∀ v ∈ vals bs, v.oneCell' = true := by
  intro v hv
  obtain ⟨n, _, rfl⟩ := List.mem_map.1 hv
  rfl
theorem vals_append (a b : List Nat) : vals (a ++ b) = vals a ++ vals b := List.map_append
theorem vals_get {bs : List Nat} {i : Nat} (hi : i < bs.length) : (vals bs)[i]? = some (.int .u8 (bs[i] : Int)) := by simp [vals, hi]

/-- The slice value of n bytes at the head of block g owns just ds. -/
def Row (w : World) (B g cap : Nat) (ds : List Nat) : Prop := w.ownsRow B 5 1 (.slice (some ⟨g, 0, none⟩) ds.length cap) ds.length (vals ds)
/-- Block g holds just the bytes bs. -/
def Blk (w : World) (g : Nat) (bs : List Nat) : Prop := w.heap[g]? = some (.cells (vals bs).toArray 5 (0, 0))

section
variable {w w' : World} {B g cap : Nat} {ds bs : List Nat}
theorem Row.cell (h : Row w B g cap ds) {i : Nat} (hi : i < ds.length) : w.cell? ⟨g, i, none⟩ = some (.int .u8 (ds[i] : Int)) := by
  rw [World.ownsRow.cellAt h i (by omega), vals_get hi]
theorem Row.frozen (h : Row w B g cap ds) (i : Nat) : w.frozen? ⟨g, i, none⟩ = false := World.ownsRow.frozenAt h i
theorem Row.base (h : Row w B g cap ds) : B ≤ g ∧ g < w.heap.size := World.ownsRow.lt h g rfl
theorem Row.set (h : Row w B g cap ds) (i d : Nat) : Row (w.setCell ⟨g, i, none⟩ (.int .u8 (d : Int))) B g cap (ds.set i d) := by
  have := (World.ownsRow.stored h i (.int .u8 (d : Int))).1
  unfold Row
  rw [List.length_set, show vals (ds.set i d) = (vals ds).set i (.int .u8 (d : Int)) from by simp [vals, List.map_set]]
  exact this
theorem Row.other (h : Row w B g cap ds) {g' : Nat} (hg : g' ≠ g) (i : Nat) (v : Value) : Row (w.setCell ⟨g', i, none⟩ v) B g cap ds :=
  World.ownsRow.kept h (row := some g') ⟨rfl, rfl, rfl, by simp, fun k _ hk => heap_setCell_other w ⟨g', i, none⟩ k v (fun e => hk (by simp [e]))⟩ (.inr (by simpa [Value.ownBlock] using fun e => hg e.symm))
theorem Row.alloc (h : Row w B g cap ds) (o : Obj) : Row (w.alloc o) B g cap ds := World.ownsRow.alloc h o
theorem Row.grown (h : Row w B g cap ds) (hg : w.grownBy w' none) : Row w' B g cap ds := World.ownsRow.kept h hg (.inr (by simp [Value.ownBlock]))

theorem Blk.cell (h : Blk w g bs) {i : Nat} (hi : i < bs.length) : w.cell? ⟨g, i, none⟩ = some (.int .u8 (bs[i] : Int)) := by
  rw [cell_of_row w g i _ _ _ h]
  simp [vals, hi]
theorem Blk.frozen (h : Blk w g bs) (i : Nat) : w.frozen? ⟨g, i, none⟩ = false := frozen_of_row _ _ _ _ _ h
theorem Blk.below {B : Nat} (h : Blk w g bs) (hb : Below B w w') (hg : g < B) : Blk w' g bs := (hb.block g hg).trans h
theorem Blk.lt (h : Blk w g bs) : g < w.heap.size := (Array.getElem?_eq_some_iff.1 h).1
theorem Blk.set (h : Blk w g bs) (i d : Nat) : Blk (w.setCell ⟨g, i, none⟩ (.int .u8 (d : Int))) g (bs.set i d) := by
  unfold Blk
  rw [heap_setCell_same _ _ _ _ _ _ h]
  simp [vals, List.map_set]
theorem Blk.other (h : Blk w g bs) {g' : Nat} (hg : g ≠ g') (i : Nat) (v : Value) : Blk (w.setCell ⟨g', i, none⟩ v) g bs := by
  unfold Blk
  rw [heap_setCell_other _ _ _ _ (by simpa using hg)]
  exact h
theorem Blk.alloc (h : Blk w g bs) (o : Obj) : Blk (w.alloc o) g bs := (Below.heap_alloc w o g h.lt).trans h
end

/-- A fresh row of n bytes: some n bytes. -/
theorem fresh_row {w : World} {base g n : Nat} (h : w.ownsRow base 5 1 (.slice (some ⟨g, 0, none⟩) n n) n (madeCells (Value.int .u8 0).cells (n * 1)).toList) : Blk w g (List.replicate n 0) := by
  rcases h.2 with ⟨h', _⟩ | ⟨g', cap', cur, h', _, hg, _, _, hsz, ht⟩
  · simp at h'
  · simp only [Value.slice.injEq, Option.some.injEq, Addr.mk.injEq, and_true, true_and] at h'
    obtain ⟨rfl, rfl⟩ := h'
    have e : cur = (vals (List.replicate n 0)).toArray := by
      apply Array.toList_inj.1
      rw [← List.take_of_length_le (l := cur.toList) (i := n * 1) (by rw [Array.length_toList]; omega), ht]
      simp [vals, Value.cells, toList_madeCells_one]
    rw [e] at hg
    exact hg

theorem Try.info5 : (Try.prog.info? 5).map (fun i => (i.zero, i.size, i.bytes)) = some (some (.int .u8 0), 1, 1) := by kernel_rfl
theorem Try.size5 : (Try.prog.info? 5).map (·.size) = some 1 := by kernel_rfl

/-- The call gave back some bool. -/
def SomeBool (e : Ending) : Prop := ∃ x, e = .returned (.bool x)
theorem SomeBool.mk (x : Bool) : SomeBool (.returned (.bool x)) := ⟨x, rfl⟩

theorem bytes5 (a : Option Addr) (n c : Nat) (w : World) : Calls Try.prog 5 #[.slice a n c] w fun e w' => SomeBool e ∧ w' = w := by
  go_enter Try.func5, Try.ntmps5
  go_wp2
  all_goals (go_ret; exact ⟨SomeBool.mk _, rfl⟩)
theorem bytes8 (a : Option Addr) (n c : Nat) (w : World) : Calls Try.prog 8 #[.slice a n c] w fun e w' => SomeBool e ∧ w' = w := by
  go_enter Try.func8, Try.ntmps8
  go_wp2
  all_goals (go_ret; exact ⟨SomeBool.mk _, rfl⟩)

/-- k bytes lead that are nought, and no more. -/
structure Lead (bs : List Nat) (k : Nat) : Prop where
  le : k ≤ bs.length
  nought : ∀ i, i < k → bs.getD i 0 = 0
  stop : k < bs.length → bs.getD k 0 ≠ 0
theorem Lead.uniq {bs : List Nat} {k l : Nat} (h : Lead bs k) (h' : Lead bs l) : k = l := by
  have a := h.le
  have b := h'.le
  rcases Nat.lt_trichotomy k l with hlt | e | hgt
  · exact absurd (h'.nought k hlt) (h.stop (by omega))
  · exact e
  · exact absurd (h.nought l hgt) (h'.stop (by omega))
/-- So far all noughts. -/
def Lz (bs : List Nat) (k : Nat) : Prop := ∀ i, i < k → bs.getD i 0 = 0
theorem lz_zero (bs : List Nat) : Lz bs 0 := fun _ h => absurd h (Nat.not_lt_zero _)
theorem Lz.step {bs : List Nat} {k : Nat} (h : Lz bs k) (h0 : bs.getD k 0 = 0) : Lz bs (k + 1) := fun i hi => by
  rcases Nat.lt_succ_iff_lt_or_eq.1 hi with hlt | rfl
  · exact h i hlt
  · exact h0
theorem getD_eq {bs : List Nat} {i : Nat} (hi : i < bs.length) : bs.getD i 0 = bs[i] := by
  rw [List.getD_eq_getElem?_getD, List.getElem?_eq_getElem hi]; rfl

/-- The string of bytes. -/
def strOf (ns : List Nat) : ByteArray := (ns.map (fun d : Nat => (d : Int))).foldl (fun r n => r.push (UInt8.ofNat n.toNat)) ByteArray.empty
/-- 'string(b)' of a block's bytes. -/
theorem run_string {w : World} {g cap : Nat} {bs : List Nat} (h : Blk w g bs) : (convert 22 9 (.slice (some ⟨g, 0, none⟩) bs.length cap)).run Try.prog w = .ok (.string (strOf bs)) w := by
  rw [run_convert_bytes_string w 22 9 5 _ _ _ Try.underlying22 Try.underlying5 Try.underlying9]
  refine run_bytesToString w _ _ _ _ ?_
  have e : ((bs.map (fun d : Nat => (d : Int))).map (Value.int .u8)).toArray = (vals bs).toArray := by simp [vals]
  rw [e]
  have := run_loadCells_list (P := Try.prog) w ⟨g, 0, none⟩ (vals bs) (fun j v hv => by
    have e : (⟨g, 0, none⟩ : Addr).add j = ⟨g, j, none⟩ := by unfold Addr.add; split <;> simp_all
    rw [e, cell_of_row w g j _ _ _ h]
    simpa using hv)
  rwa [vals_length] at this
end Go.Proofs.Qxb6630204a
