/-
  Seat b6630105a: the bounds on total length (some bool comes back) and zzNewlines.
-/
import Derived.Test.Qxb6630105aProg
import Derived.Test.Qxb6630105aPlain
import Derived.WalkKit
import Derived.WalkSmall
import Derived.WalkSpells
import Derived.KernelRfl
namespace Go.Proofs.Qxb6630105a
open Go.RowKit

/-- The call gave back some bool. -/
def SomeBool (e : Ending) : Prop := ∃ x, e = .returned (.bool x)
theorem SomeBool.mk (x : Bool) : SomeBool (.returned (.bool x)) := ⟨x, rfl⟩

theorem bytes9 (s0 s1 s2 s5 : ByteArray) (a3 a4 a6 a7 a8 a9 : Int) (w : World) :
    Calls Try.prog 9 #[.string s0, .string s1, .string s2, .int .i64 a3, .int .i64 a4, .string s5, .int .i64 a6, .int .i64 a7, .int .i64 a8, .int .i64 a9] w fun e w' => SomeBool e ∧ w' = w := by
  go_enter Try.func9, Try.ntmps9
  go_wp2
  all_goals (go_ret; exact ⟨SomeBool.mk _, rfl⟩)

theorem bytes5 (s0 s1 s2 s5 : ByteArray) (a3 a4 a6 a7 a8 : Int) (w : World) :
    Calls Try.prog 5 #[.string s0, .string s1, .string s2, .int .i64 a3, .int .i64 a4, .string s5, .int .i64 a6, .int .i64 a7, .int .i64 a8] w fun e w' => SomeBool e ∧ w' = w := by
  go_enter Try.func5, Try.ntmps5
  go_wp2
  all_goals (go_ret; exact ⟨SomeBool.mk _, rfl⟩)

theorem take_snoc (s : ByteArray) (k : Nat) (h : k < s.size) : s.data.toList.take (k + 1) = s.data.toList.take k ++ [s[k]] := by
  rw [List.take_succ_eq_append_getElem (by simpa using h)]; rfl
theorem nl_snoc (l : List UInt8) (c : UInt8) : nl (l ++ [c]) = nl l + if ((c.toNat : Int) == 10) = true then 1 else 0 := by
  rw [nl_append]
  have e : ((c.toNat : Int) == 10) = (c == 10) := by
    rw [Bool.eq_iff_iff]
    simp only [beq_iff_eq]
    constructor
    · intro h
      exact UInt8.toNat_inj.1 (by have : c.toNat = 10 := by omega
                                  rw [this]; rfl)
    · rintro rfl; rfl
  rw [e]
  by_cases h : (c == 10) = true
  · simp [nl, h]
  · simp [nl, h]
theorem nl_le (l : List UInt8) : nl l ≤ l.length := List.length_filter_le _ _

set_option maxHeartbeats 400000 in
theorem newlines_any (s : ByteArray) (w : World) (hs : s.size ≤ 262144) :
    Calls Try.prog 8 #[.string s] w fun e w' => e = .returned (.int .i64 (nl s.data.toList)) ∧ w' = w := by
  go_enter Try.func8, Try.ntmps8
  go_wp2
  go_loop [3, 4] (fun n i => ∃ k : Nat, k ≤ s.size ∧ i = .int .i64 k ∧ n = .int .i64 (nl (s.data.toList.take k))) (fun _ i => s.size - (intOf i).toNat)
  case atStart => exact ⟨0, Nat.zero_le _, rfl, rfl⟩
  case round =>
    obtain ⟨k, hk, rfl, rfl⟩ := hrel
    have hd := nl_le (s.data.toList.take k)
    have hl : (s.data.toList.take k).length ≤ k := List.length_take_le _ _
    by_cases hlt : k < s.size
    · have hsn := nl_snoc (s.data.toList.take k) s[k]
      have HS : Hid (nl (s.data.toList.take (k + 1)) = nl (s.data.toList.take k) + if ((s[k].toNat : Int) == 10) = true then 1 else 0) := by
        rw [take_snoc s k hlt]; exact hsn
      clear hsn
      go_wp2
      all_goals
        go_round
        case rel => exact ⟨k + 1, by omega, by go_num, by rw [HS.out]; first | (rw [if_pos ‹_›]; go_num) | (rw [if_neg (by simp [*])]; go_num)⟩
        case measure => simp [intOf]; omega
    · go_wp2
      go_ret
      rw [List.take_of_length_le (by simp; omega)]
      exact ⟨rfl, rfl⟩
end Go.Proofs.Qxb6630105a
