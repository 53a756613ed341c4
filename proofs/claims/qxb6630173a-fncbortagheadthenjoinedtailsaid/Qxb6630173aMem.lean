/-
  Seat b6630173a: rows of bytes in memory; the bounds on total length; cborHeadLen; cborCloneBytes; cborSameBytes.
-/
import Derived.Test.Qxb6630173aProg
import Derived.WalkKit
import Derived.WalkSmall
import Derived.WalkSpells
import Derived.Laws.CopyOwn
import Derived.Deep.QuietTactic
import Derived.BigQuiet
import Derived.KernelRfl
namespace Go.Proofs.Qxb6630173a
open Go.RowKit

theorem hidden {p : Prop} (h : p) : Hid p := h

/-- Numbers as bytes in cells. -/
def vals (bs : List Int) : List Value := bs.map (Value.int .u8)
theorem vals_length (bs : List Int) : (vals bs).length = bs.length := List.length_map _
theorem vals_one (bs : List Int) : ∀ v ∈ vals bs, v.oneCell' = true := by
  intro v hv
  obtain ⟨n, _, rfl⟩ := List.mem_map.1 hv
  rfl

/-- Block g holds just the bytes bs. -/
def Blk (w : World) (g : Nat) (bs : List Int) : Prop := w.heap[g]? = some (.cells (vals bs).toArray 5 (0, 0))
/-- The slice at a of n bytes reads as bs. -/
def Src (w : World) (a : Option Addr) (n : Nat) (bs : List Int) : Prop := bs.length = n ∧ (0 < n → ∃ ad, a = some ad ∧ ∀ j v, (vals bs)[j]? = some v → w.cell? (ad.add j) = some v)

theorem Blk.cell {w : World} {g : Nat} {bs : List Int} (h : Blk w g bs) {i : Nat} (hi : i < bs.length) : w.cell? ⟨g, i, none⟩ = some (.int .u8 bs[i]) := by
  rw [cell_of_row w g i _ _ _ h]
  simp [vals, hi]
theorem Blk.frozen {w : World} {g : Nat} {bs : List Int} (h : Blk w g bs) (i : Nat) : w.frozen? ⟨g, i, none⟩ = false := frozen_of_row _ _ _ _ _ h
theorem Blk.below {w w' : World} {g B : Nat} {bs : List Int} (h : Blk w g bs) (hb : Below B w w') (hg : g < B) : Blk w' g bs := (hb.block g hg).trans h
theorem Blk.lt {w : World} {g : Nat} {bs : List Int} (h : Blk w g bs) : g < w.heap.size := (Array.getElem?_eq_some_iff.1 h).1
theorem Blk.set {w : World} {g : Nat} {bs : List Int} (h : Blk w g bs) (i : Nat) (x : Int) : Blk (w.setCell ⟨g, i, none⟩ (.int .u8 x)) g (bs.set i x) := by
  unfold Blk
  rw [heap_setCell_same _ _ _ _ _ _ h]
  simp [vals, List.map_set]
theorem Blk.other {w : World} {g g' : Nat} {bs : List Int} (h : Blk w g bs) (i : Nat) (v : Value) (hg : g ≠ g') : Blk (w.setCell ⟨g', i, none⟩ v) g bs := by
  unfold Blk
  rw [heap_setCell_other _ _ _ _ (by simpa using hg)]
  exact h
/-- A part of a block, as a slice. -/
theorem Blk.src {w : World} {g : Nat} {bs : List Int} (h : Blk w g bs) (o : Nat) : Src w (some ⟨g, o, none⟩) (bs.length - o) (bs.drop o) := by
  refine ⟨List.length_drop, fun _ => ⟨_, rfl, fun j v hv => ?_⟩⟩
  have e : (⟨g, o, none⟩ : Addr).add j = ⟨g, o + j, none⟩ := by unfold Addr.add; split <;> simp_all
  rw [e, cell_of_row w g _ _ _ _ h]
  rw [vals, List.map_drop, List.getElem?_drop] at hv
  simpa [vals] using hv
theorem Src.below {w w' : World} {a : Option Addr} {n B : Nat} {bs : List Int} (h : Src w a n bs) (hb : Below B w w') (ha : ∀ ad, a = some ad → 0 < n → ad.block < B) : Src w' a n bs := by
  refine ⟨h.1, fun hn => ?_⟩
  obtain ⟨ad, rfl, hc⟩ := h.2 hn
  refine ⟨ad, rfl, fun j v hv => ?_⟩
  rw [hb.cell (p := ad.add j) (by have := ha ad rfl hn; unfold Addr.add; split <;> exact this)]
  exact hc j v hv

/-- A fresh row of n bytes. -/
theorem fresh_row {w : World} {base g n : Nat} {xs : List Value} (h : w.ownsRow base 5 1 (.slice (some ⟨g, 0, none⟩) n n) n xs) : ∃ cur : List Value, cur.length = n ∧ w.heap[g]? = some (.cells cur.toArray 5 (0, 0)) := by
  rcases h.2 with ⟨h', _⟩ | ⟨g', cap', cur, h', _, hg, _, _, hsz, _⟩
  · simp at h'
  · simp only [Value.slice.injEq, Option.some.injEq, Addr.mk.injEq, and_true, true_and] at h'
    obtain ⟨rfl, rfl⟩ := h'
    exact ⟨cur.toList, by simpa using hsz, by simpa using hg⟩

theorem Try.info5 : (Try.prog.info? 5).map (fun i => (i.zero, i.size, i.bytes)) = some (some (.int .u8 0), 1, 1) := by kernel_rfl
theorem Try.size5 : (Try.prog.info? 5).map (·.size) = some 1 := by kernel_rfl

/-- The call gave back some bool. -/
def SomeBool (e : Ending) : Prop := ∃ x, e = .returned (.bool x)
theorem SomeBool.mk (x : Bool) : SomeBool (.returned (.bool x)) := ⟨x, rfl⟩

theorem bytes11 (a : Option Addr) (n c : Nat) (m : Int) (w : World) : Calls Try.prog 11 #[.slice a n c, .int .u8 m] w fun e w' => SomeBool e ∧ w' = w := by
  go_enter Try.func11, Try.ntmps11
  go_wp2
  all_goals (go_ret; exact ⟨SomeBool.mk _, rfl⟩)
theorem bytes5 (a : Option Addr) (n c : Nat) (a' : Option Addr) (n' c' : Nat) (w : World) : Calls Try.prog 5 #[.slice a n c, .slice a' n' c'] w fun e w' => SomeBool e ∧ w' = w := by
  go_enter Try.func5, Try.ntmps5
  go_wp2
  all_goals (go_ret; exact ⟨SomeBool.mk _, rfl⟩)

/-- The length of a head. -/
def headLen (i : Int) : Nat := if i = 24 then 2 else if i = 25 then 3 else if i = 26 then 5 else if i = 27 then 9 else 1
theorem headLen_any (i : Int) (w : World) : Calls Try.prog 6 #[.int .u8 i] w fun e w' => e = .returned (.int .i64 (headLen i)) ∧ w' = w := by
  unfold headLen
  by_cases h1 : i = 24
  · subst h1; go_enter Try.func6, Try.ntmps6; go_wp2; go_ret; exact ⟨rfl, rfl⟩
  have k1 : (i == 24) = false := by simpa using h1
  by_cases h2 : i = 25
  · subst h2; go_enter Try.func6, Try.ntmps6; go_wp2; go_ret; exact ⟨rfl, rfl⟩
  have k2 : (i == 25) = false := by simpa using h2
  by_cases h3 : i = 26
  · subst h3; go_enter Try.func6, Try.ntmps6; go_wp2; go_ret; exact ⟨rfl, rfl⟩
  have k3 : (i == 26) = false := by simpa using h3
  by_cases h4 : i = 27
  · subst h4; go_enter Try.func6, Try.ntmps6; go_wp2; go_ret; exact ⟨rfl, rfl⟩
  have k4 : (i == 27) = false := by simpa using h4
  rw [if_neg h1, if_neg h2, if_neg h3, if_neg h4]
  clear h1 h2 h3 h4
  go_enter Try.func6, Try.ntmps6
  go_wp2
  go_ret
  exact ⟨rfl, rfl⟩

/-- cborCloneBytes at a slice that is not nil: a new block with the same bytes. -/
theorem clone_any (ad : Addr) (n c : Nat) (bs : List Int) (w : World) (hn : n ≤ 1048576) (hs : Src w (some ad) n bs) (hb : 0 < n → ad.block < w.heap.size) :
    Calls Try.prog 7 #[.slice (some ad) n c] w fun e w' => e = .returned (.slice (some ⟨w.heap.size, 0, none⟩) n n) ∧ Blk w' w.heap.size bs ∧ Below w.heap.size w w' := by
  obtain ⟨i0, hi, hz0, hz1, hz2⟩ := info_parts Try.info5
  have hnil : ∀ (w : World) (a : Option Addr) (n c n' c' : Nat), (binOp .eql 22 (.slice a n c) (.slice none n' c')).run Try.prog w = .ok (.bool a.isNone) w := fun w a n c n' c' => Lib.run_eql_slice_nil w _ _ a n c n' c' Try.underlying22
  go_enter Try.func7, Try.ntmps7
  go_wp2_with (first
    | (at_make; refine wpList_make_full _ rfl _ _ 22 rfl w.heap.size 5 i0 _ 1 Try.underlying22 hi hz0 hz1 .i64 .i64 n n n rfl rfl rfl rfl (by rw [hz2]; omega) (by unfold maxLen; omega) (Nat.le_refl _) ?_; intro w1 hown hgrow; obtain ⟨cur, hcl, hcur⟩ := fresh_row hown; have HC := hidden hcur; clear hcur)
    | (refine wpList_copy_splice rfl (.tmp 9) (.tmp 10) 22 22 rfl 5 Try.underlying22 Try.size5 _ _ _ _ _ _ rfl rfl w.heap.size 0 cur 5 HC.out (vals bs) ?c1 ?c2 ?c3 (vals_one bs) w.heap.size w ?c4 (Nat.le_refl _) ?_)
    | go_in)
  case c1 => rw [vals_length, hs.1]; exact (Nat.min_self n).symm
  case c2 =>
    intro h0 j v hv
    rw [vals_length, hs.1] at h0
    obtain ⟨ad', e, hc⟩ := hs.2 h0
    obtain rfl : ad = ad' := Option.some.inj e
    have hbel : Below w.heap.size w w1 := (Below.refl _ _).grown hgrow (Nat.le_refl _) (fun j hj => by cases hj)
    rw [hbel.cell (p := ad.add j) (by have := hb h0; unfold Addr.add; split <;> exact this)]
    exact hc j v hv
  case c3 => rw [vals_length, hs.1, hcl]; omega
  case c4 => exact (Below.refl _ _).grown hgrow (Nat.le_refl _) (fun j hj => by cases hj)
  intro w2 hB2 hb2
  have hB2' : Hid (Blk w2 w.heap.size bs) := by
    have := hB2.out
    rw [show splice cur 0 (vals bs) = vals bs from by simp [splice, vals_length, hs.1, hcl]] at this
    exact this
  clear hB2
  go_wp2
  go_ret
  exact ⟨rfl, hB2'.out, hb2⟩

theorem clone_nil (w : World) : Calls Try.prog 7 #[.slice none 0 0] w fun e w' => e = .returned (.slice none 0 0) ∧ w' = w := by
  have hnil : ∀ (w : World) (a : Option Addr) (n c n' c' : Nat), (binOp .eql 22 (.slice a n c) (.slice none n' c')).run Try.prog w = .ok (.bool a.isNone) w := fun w a n c n' c' => Lib.run_eql_slice_nil w _ _ a n c n' c' Try.underlying22
  go_enter Try.func7, Try.ntmps7
  go_wp2
  go_ret
  exact ⟨rfl, rfl⟩

/-- A slice that is read reads at each place. -/
theorem Src.cell {w : World} {b o n : Nat} {bs : List Int} (h : Src w (some ⟨b, o, none⟩) n bs) {i : Nat} (hi : i < n) : w.cell? ⟨b, o + i, none⟩ = some (.int .u8 (bs[i]'(by rw [h.1]; exact hi))) := by
  obtain ⟨ad, e, hc⟩ := h.2 (by omega)
  obtain rfl : _ = ad := Option.some.inj e
  have e2 : (⟨b, o, none⟩ : Addr).add i = ⟨b, o + i, none⟩ := by unfold Addr.add; split <;> simp_all
  rw [← e2]
  refine hc i _ ?_
  have hi' : i < bs.length := by rw [h.1]; exact hi
  simp [vals, hi']

/-- cborSameBytes at two slices that hold the same. -/
theorem same_any (b1 o1 c1 b2 o2 c2 n : Nat) (bs : List Int) (w : World) (hn : n ≤ 1048576) (h1 : Src w (some ⟨b1, o1, none⟩) n bs) (h2 : Src w (some ⟨b2, o2, none⟩) n bs) :
    Calls Try.prog 10 #[.slice (some ⟨b1, o1, none⟩) n c1, .slice (some ⟨b2, o2, none⟩) n c2] w fun e w' => e = .returned (.bool true) ∧ Below w.heap.size w w' := by
  go_enter Try.func10, Try.ntmps10
  go_wp2
  go_loopw [5] (fun p wr => ∃ (i q : Nat), i ≤ n ∧ p = .int .i64 i ∧ wr = w.drewN q) (fun p _ => n - (intOf p).toNat)
  case atStart => exact ⟨0, 0, Nat.zero_le _, rfl, rfl⟩
  case round =>
    obtain ⟨i, q, hi, rfl, rfl⟩ := hrel
    by_cases hlt : i < n
    · have x1 := h1.cell hlt
      have x2 := h2.cell hlt
      have i0 : (0 : Int) ≤ (i : Int) := Int.natCast_nonneg _
      have i1 : (i : Int) < (n : Int) := by omega
      generalize bs[i]'(by rw [h1.1]; exact hlt) = z at x1 x2
      clear h1 h2
      go_wp2
      go_quiet (fail)
      go_wp2
      go_roundw
      case rel => exact ⟨i + 1, _, by omega, by go_num, rfl⟩
      case measure => simp [intOf]; omega
    · go_wp2
      go_ret
      exact ⟨rfl, below_drewN (Below.refl _ _) _⟩

theorem same_none (a1 a2 : Option Addr) (c1 c2 : Nat) (w : World) : Calls Try.prog 10 #[.slice a1 0 c1, .slice a2 0 c2] w fun e w' => e = .returned (.bool true) ∧ Below w.heap.size w w' := by
  go_enter Try.func10, Try.ntmps10
  go_wp2
  refine wp_loop_rounds 1 ?_
  rw [rounds_succ]
  go_wp2
  go_ret
  exact ⟨rfl, Below.refl _ _⟩
end Go.Proofs.Qxb6630173a
