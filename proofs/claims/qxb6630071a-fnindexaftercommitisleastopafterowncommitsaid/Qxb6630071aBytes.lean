/-
  Seat b6630071a: the two bounds on total length: whatever the row, a bool comes back and the world stands.
-/
import Derived.Test.Qxb6630071aProg
import Derived.Test.Qxb6630071aMem
import Derived.WalkSpells
namespace Go.Proofs.Qxb6630071a
open Go.RowKit Go.Maps

/-- The call gave back some bool. -/
def SomeBool (e : Ending) : Prop := ∃ x, e = .returned (.bool x)
theorem SomeBool.mk (x : Bool) : SomeBool (.returned (.bool x)) := ⟨x, rfl⟩

set_option maxHeartbeats 400000 in
theorem bytes9 (b off n cap : Nat) (R : Nat → Rec) (k : Int) (w : World) (hn : n ≤ maxLen) (h : RowAt w b off n R) :
    Calls Try.prog 9 #[.slice (some ⟨b, off, none⟩) n cap, .int .i64 k] w fun e w' => SomeBool e ∧ w' = w := by
  unfold maxLen at hn
  by_cases hbig : n ≤ 1048576
  · go_enter Try.func9, Try.ntmps9
    go_wp2
    go_loop [5, 6] (fun t i => ∃ (j : Nat) (z : Int), j ≤ n ∧ i = .int .i64 j ∧ t = .int .i64 z) (fun _ i => n - (intOf i).toNat)
    case atStart => exact ⟨0, n, Nat.zero_le _, rfl, rfl⟩
    case round =>
      obtain ⟨j, z, hj, rfl, rfl⟩ := hrel
      by_cases hlt : j < n
      · have c2 := h.c2 j hlt
        have c4 := h.c4 j hlt
        go_wp2
        case roundEnd =>
          go_round
          case rel => exact ⟨j + 1, _, by omega, by go_num, rfl⟩
          case measure => simp [intOf]; omega
        all_goals (go_ret; exact ⟨SomeBool.mk _, rfl⟩)
      · go_wp2
        go_ret
        exact ⟨SomeBool.mk _, rfl⟩
  · go_enter Try.func9, Try.ntmps9
    go_wp2
    go_ret
    exact ⟨SomeBool.mk _, rfl⟩

set_option maxHeartbeats 400000 in
theorem bytes5 (b off n cap : Nat) (R : Nat → Rec) (w : World) (hn : n ≤ maxLen) (h : RowAt w b off n R) :
    Calls Try.prog 5 #[.slice (some ⟨b, off, none⟩) n cap] w fun e w' => SomeBool e ∧ w' = w := by
  unfold maxLen at hn
  by_cases hbig : n ≤ 1048576
  · go_enter Try.func5, Try.ntmps5
    go_wp2
    go_loop [3, 4] (fun t i => ∃ (j : Nat) (z : Int), j ≤ n ∧ i = .int .i64 j ∧ t = .int .i64 z) (fun _ i => n - (intOf i).toNat)
    case atStart => exact ⟨0, n, Nat.zero_le _, rfl, rfl⟩
    case round =>
      obtain ⟨j, z, hj, rfl, rfl⟩ := hrel
      by_cases hlt : j < n
      · have c2 := h.c2 j hlt
        have c4 := h.c4 j hlt
        go_wp2
        case roundEnd =>
          go_round
          case rel => exact ⟨j + 1, _, by omega, by go_num, rfl⟩
          case measure => simp [intOf]; omega
        all_goals (go_ret; exact ⟨SomeBool.mk _, rfl⟩)
      · go_wp2
        go_ret
        exact ⟨SomeBool.mk _, rfl⟩
  · go_enter Try.func5, Try.ntmps5
    go_wp2
    go_ret
    exact ⟨SomeBool.mk _, rfl⟩

/-- The same of a slice without elements. -/
theorem bytes9_nil (a : Option Addr) (cap : Nat) (k : Int) (w : World) : Calls Try.prog 9 #[.slice a 0 cap, .int .i64 k] w fun e w' => SomeBool e ∧ w' = w := by
  go_enter Try.func9, Try.ntmps9
  go_wp2
  refine wp_loop_rounds 1 ?_
  rw [rounds_succ]
  go_wp2
  go_ret
  exact ⟨SomeBool.mk _, rfl⟩
theorem bytes5_nil (a : Option Addr) (cap : Nat) (w : World) : Calls Try.prog 5 #[.slice a 0 cap] w fun e w' => SomeBool e ∧ w' = w := by
  go_enter Try.func5, Try.ntmps5
  go_wp2
  refine wp_loop_rounds 1 ?_
  rw [rounds_succ]
  go_wp2
  go_ret
  exact ⟨SomeBool.mk _, rfl⟩
end Go.Proofs.Qxb6630071a
