/-
  Seat b6630105a: Pair.At at a pair without spans, walked: line and column behind the runes of the value's head.
-/
import Derived.Test.Qxb6630105aProg
import Derived.Test.Qxb6630105aPlain
import Derived.WalkKit
import Derived.WalkSmall
import Derived.WalkSpells
import Derived.Lib.OthersKept
import Derived.KernelRfl
namespace Go.Proofs.Qxb6630105a
open Go.RowKit

theorem hidden {p : Prop} (h : p) : Hid p := h

/-- The world in At's loop: the string's iterator stands at pos; the position holds line L, column C; the result's cells lie there. -/
structure AtSt (w wr : World) (s vfile : ByteArray) (pos : Nat) (L C : Int) : Prop where
  it : wr.heap[w.heap.size + 1 + 1 + 1]? = some (.stringIter s pos)
  blk : wr.heap[w.heap.size + 1 + 1]? = some (.cells #[.string vfile, .int .i64 L, .int .i64 C] 24)
  res : wr.heap[w.heap.size + 1]? = some (.cells #[.string ⟨#[]⟩, .int .i64 0, .int .i64 0] 24)
  bel : Below w.heap.size w wr

section
variable {w wr : World} {s vfile : ByteArray} {pos : Nat} {L C : Int}
theorem AtSt.next (h : AtSt w wr s vfile pos L C) (pos' : Nat) : AtSt w (wr.iterAt (w.heap.size + 1 + 1 + 1) s pos') s vfile pos' L C :=
  ⟨Lib.iterAt_heap _ _ _ _ _ h.it, by rw [Lib.iterAt_other _ _ _ _ _ (by omega)]; exact h.blk, by rw [Lib.iterAt_other _ _ _ _ _ (by omega)]; exact h.res, Lib.below_iterAt h.bel (by omega) _ _⟩
theorem AtSt.col (h : AtSt w wr s vfile pos L C) (c : Int) : AtSt w (wr.setCell ⟨w.heap.size + 1 + 1, 2, none⟩ (.int .i64 c)) s vfile pos L c := by
  refine ⟨?_, ?_, ?_, h.bel.setCell (by simp; omega) _⟩
  · rw [heap_setCell_other _ _ _ _ (by simp)]; exact h.it
  · rw [heap_setCell_same _ _ _ _ _ _ h.blk]; rfl
  · rw [heap_setCell_other _ _ _ _ (by simp)]; exact h.res
theorem AtSt.line (h : AtSt w wr s vfile pos L C) (l : Int) : AtSt w (wr.setCell ⟨w.heap.size + 1 + 1, 1, none⟩ (.int .i64 l)) s vfile pos l C := by
  refine ⟨?_, ?_, ?_, h.bel.setCell (by simp; omega) _⟩
  · rw [heap_setCell_other _ _ _ _ (by simp)]; exact h.it
  · rw [heap_setCell_same _ _ _ _ _ _ h.blk]; rfl
  · rw [heap_setCell_other _ _ _ _ (by simp)]; exact h.res
theorem AtSt.c0 (h : AtSt w wr s vfile pos L C) : wr.cell? ⟨w.heap.size + 1 + 1, 0, none⟩ = some (.string vfile) := cell_of_row _ _ _ _ _ _ h.blk
theorem AtSt.c1 (h : AtSt w wr s vfile pos L C) : wr.cell? ⟨w.heap.size + 1 + 1, 1, none⟩ = some (.int .i64 L) := cell_of_row _ _ _ _ _ _ h.blk
theorem AtSt.c2 (h : AtSt w wr s vfile pos L C) : wr.cell? ⟨w.heap.size + 1 + 1, 2, none⟩ = some (.int .i64 C) := cell_of_row _ _ _ _ _ _ h.blk
theorem AtSt.f (h : AtSt w wr s vfile pos L C) (j : Nat) : wr.frozen? ⟨w.heap.size + 1 + 1, j, none⟩ = false := frozen_of_row _ _ _ _ _ h.blk
theorem AtSt.r0 (h : AtSt w wr s vfile pos L C) : wr.cell? ⟨w.heap.size + 1, 0, none⟩ = some (.string ⟨#[]⟩) := cell_of_row _ _ _ _ _ _ h.res
theorem AtSt.r1 (h : AtSt w wr s vfile pos L C) : wr.cell? ⟨w.heap.size + 1, 1, none⟩ = some (.int .i64 0) := cell_of_row _ _ _ _ _ _ h.res
theorem AtSt.r2 (h : AtSt w wr s vfile pos L C) : wr.cell? ⟨w.heap.size + 1, 2, none⟩ = some (.int .i64 0) := cell_of_row _ _ _ _ _ _ h.res
theorem AtSt.g (h : AtSt w wr s vfile pos L C) (j : Nat) : wr.frozen? ⟨w.heap.size + 1, j, none⟩ = false := frozen_of_row _ _ _ _ _ h.res
end

theorem at_start (w : World) (o : Obj) (s vfile : ByteArray) (L C : Int) :
    AtSt w ((((w.alloc o).alloc (.cells #[.string ⟨#[]⟩, .int .i64 0, .int .i64 0] 24)).alloc (.cells #[.string vfile, .int .i64 L, .int .i64 C] 24)).iter s 0) s vfile 0 L C := by
  refine ⟨?_, ?_, ?_, ?_⟩
  · show ((((w.heap.push _).push _).push _).push _)[_]? = _
    rw [Array.getElem?_push, if_pos (by simp)]
  · show ((((w.heap.push _).push _).push _).push _)[_]? = _
    rw [Array.getElem?_push, if_neg (by simp), Array.getElem?_push, if_pos (by simp)]
  · show ((((w.heap.push _).push _).push _).push _)[_]? = _
    rw [Array.getElem?_push, if_neg (by simp), Array.getElem?_push, if_neg (by simp), Array.getElem?_push, if_pos (by simp)]
  · exact ((((Below.refl _ _).alloc (Nat.le_refl _) _).alloc (by simp) _).alloc (by simp; omega) _).alloc (by simp; omega) _

/-- What is left to be read gives the whole's answer. -/
def Left (s : ByteArray) (pos : Nat) (L C : Int) (R : Int × Int) : Prop := go (s.data.toList.drop pos) (L, C) = R
theorem left_start (s : ByteArray) (L C : Int) : Left s 0 L C (go s.data.toList (L, C)) := rfl
theorem Left.round {s : ByteArray} {pos : Nat} {L C : Int} {R : Int × Int} (h : Left s pos L C R) (hp : pos < s.size) : Left s (pos + (Utf8.decode s pos).2) (step (Utf8.decode s pos).1 (L, C)).1 (step (Utf8.decode s pos).1 (L, C)).2 R := by
  unfold Left at h ⊢
  have hl : 0 < (s.data.toList.drop pos).length := by
    rw [List.length_drop, Array.length_toList]
    show 0 < s.size - pos
    omega
  have e : go (s.data.toList.drop pos) (L, C) = _ := go_step step (L, C) hl
  rw [e, List.drop_drop, ← decode_eq] at h
  exact h
theorem Left.done {s : ByteArray} {pos : Nat} {L C : Int} {R : Int × Int} (h : Left s pos L C R) (hp : ¬ pos < s.size) : (L, C) = R := by
  unfold Left at h
  rw [List.drop_eq_nil_of_le (by rw [Array.length_toList]; show s.size ≤ pos; omega)] at h
  exact h
theorem wd_pos (s : ByteArray) (pos : Nat) : 1 ≤ (Utf8.decode s pos).2 := by rw [decode_eq]; exact dec_pos _

set_option maxRecDepth 100000 in
set_option maxHeartbeats 400000 in
theorem at_core (name value nfile vfile : ByteArray) (nline ncol vline vcol : Int) (m : Nat) (w : World) (hm : m ≤ value.size) (_hv : value.size ≤ 262144) (R : Int × Int) (hR : R = go (value.extract 0 m).data.toList (vline, vcol)) :
    Calls Try.prog 6 #[.agg #[.string name, .string value, .string nfile, .int .i64 nline, .int .i64 ncol, .string vfile, .int .i64 vline, .int .i64 vcol, .pointer none], .int .i64 m] w
      fun e w' => e = .returned (.agg #[.string vfile, .int .i64 R.1, .int .i64 R.2]) ∧ Below w.heap.size w w' := by
  have HR := hidden hR
  clear hR
  go_enter Try.func6, Try.ntmps6
  go_wp2
  refine wp_loop_rounds 1 ?_
  rw [rounds_succ]
  go_wp2
  have S0 := hidden (left_start (value.extract 0 m) vline vcol)
  rw [← HR.out] at S0
  generalize value.extract 0 m = s at S0 ⊢
  go_loopw [11] (fun _ wr => ∃ (pos : Nat) (L C : Int), AtSt w wr s vfile pos L C ∧ Left s pos L C R) (fun _ wr => s.size - wr.iterPos (w.heap.size + 1 + 1 + 1))
  case atStart => exact ⟨0, vline, vcol, at_start _ _ _ _ _ _, S0.out⟩
  case round =>
    obtain ⟨pos, L, C, hA, hL⟩ := hrel
    by_cases hp : pos < s.size
    · have hd := wd_pos s pos
      obtain ⟨wx, hwx⟩ : ∃ wx, wx = wr.iterAt (w.heap.size + 1 + 1 + 1) s (pos + (Utf8.decode s pos).2) := ⟨_, rfl⟩
      have hnx : ∀ ty, (Instr.next (.pointer (some ⟨w.heap.size + 1 + 1 + 1, 0, none⟩)) true ty).run Try.prog wr = .ok (.tuple #[.bool true, .int .i64 pos, .int .i32 (Utf8.decode s pos).1]) wx := fun ty => by
        rw [hwx]
        exact Lib.run_next_any_at wr _ s pos ty hA.it hp
      have hX := hA.next (pos + (Utf8.decode s pos).2)
      rw [← hwx] at hX
      have HP := hidden (iterPos_of hA.it)
      have x1 := hX.c1
      have x2 := hX.c2
      have y1 := hX.f 1
      have y2 := hX.f 2
      have HX := hidden hX
      have HL := hidden (hL.round hp)
      clear hX hA hL hwx
      go_wp2
      · have h10 : (Utf8.decode s pos).1 = 10 := by
          have : ((Utf8.decode s pos).1 : Int) = 10 := by simpa using (show (((Utf8.decode s pos).1 : Int) == 10) = true by assumption)
          omega
        have hl := HL.out
        rw [h10] at hl
        have hx := (HX.out.line (wrap64 (L + 1))).col 1
        have hq := iterPos_of hx.it
        go_roundw
        case rel => exact ⟨_, _, _, hx, hl⟩
        case measure => rw [hq, HP.out]; omega
      · have h10 : (Utf8.decode s pos).1 ≠ 10 := by
          have : ((Utf8.decode s pos).1 : Int) ≠ 10 := by simpa using (show (((Utf8.decode s pos).1 : Int) == 10) = false by assumption)
          omega
        have hl := HL.out
        rw [show step (Utf8.decode s pos).1 (L, C) = (L, wrap64 (C + 1)) from by unfold step; rw [if_neg h10]] at hl
        have hx := HX.out.col (wrap64 (C + 1))
        have hq := iterPos_of hx.it
        go_roundw
        case rel => exact ⟨_, _, _, hx, hl⟩
        case measure => rw [hq, HP.out]; omega
    · have hnx := fun ty => Lib.run_next_end_at (P := Try.prog) wr _ s pos ty hA.it hp
      have c0 := hA.c0
      have c1 := hA.c1
      have c2 := hA.c2
      have r0 := hA.r0
      have r1 := hA.r1
      have r2 := hA.r2
      have g0 := hA.g 0
      have g1 := hA.g 1
      have g2 := hA.g 2
      have hB := hidden hA.bel
      have HD := hidden (hL.done hp)
      clear hA hL
      go_wp2
      have hR := HD.out
      subst hR
      refine bodyPost_ret (v := .agg #[.string vfile, .int .i64 L, .int .i64 C]) ?_ rfl ⟨rfl, ?_⟩
      · simp [results, Try.results6, go_sem, r0, r1, r2]
      · exact ((hB.out.setCell (by simp) _).setCell (by simp) _).setCell (by simp) _

theorem at_any (name value nfile vfile : ByteArray) (nline ncol vline vcol : Int) (m : Nat) (w : World) (hm : m ≤ value.size) (hv : value.size ≤ 262144) :
    Calls Try.prog 6 #[.agg #[.string name, .string value, .string nfile, .int .i64 nline, .int .i64 ncol, .string vfile, .int .i64 vline, .int .i64 vcol, .pointer none], .int .i64 m] w
      fun e w' => e = .returned (.agg #[.string vfile, .int .i64 (go (value.extract 0 m).data.toList (vline, vcol)).1, .int .i64 (go (value.extract 0 m).data.toList (vline, vcol)).2]) ∧ Below w.heap.size w w' :=
  at_core name value nfile vfile nline ncol vline vcol m w hm hv _ rfl
end Go.Proofs.Qxb6630105a
