/-
  Seat b6630204a: the empty row.
-/
import Derived.Test.Qxb6630204aMem
namespace Go.Proofs.Qxb6630204a
open Go.RowKit

set_option maxRecDepth 100000 in
set_option maxHeartbeats 4000000 in
theorem encode_none (a : Option Addr) (w : World) : Calls Try.prog 6 #[.slice a 0 0] w fun e w' => e = .returned (.string (strOf (text 0 []))) ∧ Below w.heap.size w w' := by
  obtain ⟨i0, hi0, hz0, hz1, hz2⟩ := info_parts Try.info5
  go_enter Try.func6, Try.ntmps6
  go_wp2
  refine wp_loop_rounds 1 ?_
  rw [rounds_succ]
  go_wp2_with (first
    | (at_make; refine wpList_make_own _ rfl _ _ 22 rfl w.heap.size 5 i0 _ 1 Try.underlying22 hi0 hz0 hz1 .i64 .i64 1 1 rfl rfl (by omega) (by rw [hz2]; omega) (by unfold maxLen; omega) (Nat.le_refl _) ?_; intro w1 hown1 hgrow1)
    | fail)
  have B0 := hidden ((Below.refl w.heap.size w).grown hgrow1 (Nat.le_refl _) (fun j hj => by cases hj))
  have hsz := B0.out.size
  clear hown1 hgrow1
  refine wp_loop_rounds 1 ?_
  rw [rounds_succ]
  go_wp2_with (first
    | (at_make; refine wpList_make_full _ rfl _ _ 22 rfl w.heap.size 5 i0 _ 1 Try.underlying22 hi0 hz0 hz1 .i64 .i64 0 0 0 rfl rfl rfl rfl (by rw [hz2]; omega) (by unfold maxLen; omega) hsz ?_; intro w2 hown2 hgrow2)
    | fail)
  have hT := fresh_row hown2
  have hcv := run_string (cap := 0) hT
  have HB2 := hidden (B0.out.grown hgrow2 hsz (fun t ht => by cases ht))
  rw [show (List.replicate 0 0 : List Nat) = text 0 [] from rfl, text_length] at hcv
  rw [show 0 + ([] : List Nat).length = 0 from rfl] at hcv
  generalize hst : strOf (text 0 []) = st at hcv
  have HST := hidden hst
  clear hown2 hgrow2 B0 hT hst
  refine wp_loop_rounds 1 ?_
  rw [rounds_succ]
  go_wp2
  refine wp_loop_rounds 1 ?_
  rw [rounds_succ]
  go_wp2
  go_ret
  exact ⟨congrArg (fun x => Ending.returned (Value.string x)) HST.out.symm, HB2.out⟩

set_option maxRecDepth 100000 in
set_option maxHeartbeats 4000000 in
theorem division_none (a : Option Addr) (w : World) : Calls Try.prog 7 #[.slice a 0 0] w fun e w' => e = .returned (.string (strOf (text 0 []))) ∧ Below w.heap.size w w' := by
  obtain ⟨i0, hi0, hz0, hz1, hz2⟩ := info_parts Try.info5
  go_enter Try.func7, Try.ntmps7
  go_wp2
  refine wp_loop_rounds 1 ?_
  rw [rounds_succ]
  go_wp2_with (first
    | (at_make; refine wpList_make_full _ rfl _ _ 22 rfl w.heap.size 5 i0 _ 1 Try.underlying22 hi0 hz0 hz1 .i64 .i64 0 0 0 rfl rfl rfl rfl (by rw [hz2]; omega) (by unfold maxLen; omega) (Nat.le_refl _) ?_; intro w0 hown0 hgrow0)
    | fail)
  have B9 := hidden ((Below.refl w.heap.size w).grown hgrow0 (Nat.le_refl _) (fun j hj => by cases hj))
  have hsz9 := B9.out.size
  clear hown0 hgrow0
  refine wp_loop_rounds 1 ?_
  rw [rounds_succ]
  go_wp2_with (first
    | (at_make; refine wpList_make_own _ rfl _ _ 22 rfl w.heap.size 5 i0 _ 1 Try.underlying22 hi0 hz0 hz1 .i64 .i64 1 1 rfl rfl (by omega) (by rw [hz2]; omega) (by unfold maxLen; omega) hsz9 ?_; intro w1 hown1 hgrow1)
    | fail)
  have B0 := hidden (B9.out.grown hgrow1 hsz9 (fun j hj => by cases hj))
  have hsz := B0.out.size
  clear hown1 hgrow1 B9
  refine wp_loop_rounds 1 ?_
  rw [rounds_succ]
  go_wp2_with (first
    | (at_make; refine wpList_make_full _ rfl _ _ 22 rfl w.heap.size 5 i0 _ 1 Try.underlying22 hi0 hz0 hz1 .i64 .i64 0 0 0 rfl rfl rfl rfl (by rw [hz2]; omega) (by unfold maxLen; omega) hsz ?_; intro w2 hown2 hgrow2)
    | fail)
  have hT := fresh_row hown2
  have hcv := run_string (cap := 0) hT
  have HB2 := hidden (B0.out.grown hgrow2 hsz (fun t ht => by cases ht))
  rw [show (List.replicate 0 0 : List Nat) = text 0 [] from rfl, text_length] at hcv
  rw [show 0 + ([] : List Nat).length = 0 from rfl] at hcv
  generalize hst : strOf (text 0 []) = st at hcv
  have HST := hidden hst
  clear hown2 hgrow2 B0 hT hst
  refine wp_loop_rounds 1 ?_
  rw [rounds_succ]
  go_wp2
  refine wp_loop_rounds 1 ?_
  rw [rounds_succ]
  go_wp2
  go_ret
  exact ⟨congrArg (fun x => Ending.returned (Value.string x)) HST.out.symm, HB2.out⟩
end Go.Proofs.Qxb6630204a
