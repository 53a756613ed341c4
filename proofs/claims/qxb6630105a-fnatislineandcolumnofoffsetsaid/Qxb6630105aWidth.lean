/-
  Seat b6630105a: zzWidth, walked: the width of the first rune.
-/
import Derived.Test.Qxb6630105aProg
import Derived.Test.Qxb6630105aPlain
import Derived.WalkKit
import Derived.WalkSmall
import Derived.WalkSpells
import Derived.KernelRfl
namespace Go.Proofs.Qxb6630105a
open Go.RowKit

/-- The width, by plain tests on the bytes and on how many are left. -/
def wF (b0 b1 b2 b3 rem : Nat) : Nat :=
  if b0 < 128 then 1
  else if b0 / 32 = 6 ∧ (1 < rem ∧ b1 / 64 = 2) then (if 128 ≤ (b0 % 32) * 64 + b1 % 64 then 2 else 1)
  else if b0 / 16 = 14 ∧ (1 < rem ∧ b1 / 64 = 2) ∧ (2 < rem ∧ b2 / 64 = 2) then
    (if 2048 ≤ (b0 % 16) * 4096 + (b1 % 64) * 64 + b2 % 64 ∧ ((b0 % 16) * 4096 + (b1 % 64) * 64 + b2 % 64 < 55296 ∨ 57344 ≤ (b0 % 16) * 4096 + (b1 % 64) * 64 + b2 % 64) then 3 else 1)
  else if b0 / 8 = 30 ∧ (1 < rem ∧ b1 / 64 = 2) ∧ (2 < rem ∧ b2 / 64 = 2) ∧ (3 < rem ∧ b3 / 64 = 2) then
    (if 65536 ≤ (b0 % 8) * 262144 + (b1 % 64) * 4096 + (b2 % 64) * 64 + b3 % 64 ∧ (b0 % 8) * 262144 + (b1 % 64) * 4096 + (b2 % 64) * 64 + b3 % 64 ≤ 1114111 then 4 else 1)
  else 1

theorem cont_iff (l : List UInt8) (k : Nat) : cont l k = true ↔ (k < l.length ∧ byteAt l k / 64 = 2) := by simp [cont]

theorem valid_iff (c : Nat) : Utf8.valid (c : Int) = true ↔ (c < 55296 ∨ (57344 ≤ c ∧ c ≤ 1114111)) := by
  simp only [Utf8.valid, Bool.or_eq_true, Bool.and_eq_true, decide_eq_true_eq]
  omega

theorem dec_wF (l : List UInt8) : (dec l).2 = wF (byteAt l 0) (byteAt l 1) (byteAt l 2) (byteAt l 3) l.length := by
  unfold dec F wF
  by_cases h0 : byteAt l 0 < 128
  · rw [if_pos h0, if_pos h0]
  rw [if_neg h0, if_neg h0]
  by_cases h1 : byteAt l 0 / 32 = 6 ∧ (1 < l.length ∧ byteAt l 1 / 64 = 2)
  · rw [if_pos (by simpa [cont_iff] using h1), if_pos h1]
    split <;> rfl
  rw [if_neg (by simpa [cont_iff] using h1), if_neg h1]
  by_cases h2 : byteAt l 0 / 16 = 14 ∧ (1 < l.length ∧ byteAt l 1 / 64 = 2) ∧ (2 < l.length ∧ byteAt l 2 / 64 = 2)
  · rw [if_pos (by simpa [cont_iff, and_assoc] using h2), if_pos h2]
    have hv := valid_iff ((byteAt l 0 % 16) * 4096 + (byteAt l 1 % 64) * 64 + byteAt l 2 % 64)
    split
    · rename_i h
      simp only [Bool.and_eq_true, decide_eq_true_eq, hv] at h
      rw [if_pos (by omega)]
    · rename_i h
      simp only [Bool.and_eq_true, decide_eq_true_eq, hv] at h
      rw [if_neg (by omega)]
  rw [if_neg (by simpa [cont_iff, and_assoc] using h2), if_neg h2]
  by_cases h3 : byteAt l 0 / 8 = 30 ∧ (1 < l.length ∧ byteAt l 1 / 64 = 2) ∧ (2 < l.length ∧ byteAt l 2 / 64 = 2) ∧ (3 < l.length ∧ byteAt l 3 / 64 = 2)
  · rw [if_pos (by simpa [cont_iff, and_assoc] using h3), if_pos h3]
    have hv := valid_iff ((byteAt l 0 % 8) * 262144 + (byteAt l 1 % 64) * 4096 + (byteAt l 2 % 64) * 64 + byteAt l 3 % 64)
    split
    · rename_i h
      simp only [Bool.and_eq_true, decide_eq_true_eq, hv] at h
      rw [if_pos (by omega)]
    · rename_i h
      simp only [Bool.and_eq_true, decide_eq_true_eq, hv] at h
      rw [if_neg (by omega)]
  rw [if_neg (by simpa [cont_iff, and_assoc] using h3), if_neg h3]

/-- What zzWidth's text decides. -/
def zw (b0 b1 b2 b3 rem : Nat) : Nat :=
  if b0 < 128 then 1
  else if 194 ≤ b0 ∧ b0 ≤ 223 then (if rem < 2 then 1 else if b1 < 128 ∨ 191 < b1 then 1 else 2)
  else if b0 = 224 then (if rem < 3 then 1 else if b1 < 160 ∨ 191 < b1 then 1 else if b2 < 128 ∨ 191 < b2 then 1 else 3)
  else if (225 ≤ b0 ∧ b0 ≤ 236) ∨ b0 = 238 ∨ b0 = 239 then (if rem < 3 then 1 else if b1 < 128 ∨ 191 < b1 then 1 else if b2 < 128 ∨ 191 < b2 then 1 else 3)
  else if b0 = 237 then (if rem < 3 then 1 else if b1 < 128 ∨ 159 < b1 then 1 else if b2 < 128 ∨ 191 < b2 then 1 else 3)
  else if b0 = 240 then (if rem < 4 then 1 else if b1 < 144 ∨ 191 < b1 then 1 else if b2 < 128 ∨ 191 < b2 then 1 else if b3 < 128 ∨ 191 < b3 then 1 else 4)
  else if 241 ≤ b0 ∧ b0 ≤ 243 then (if rem < 4 then 1 else if b1 < 128 ∨ 191 < b1 then 1 else if b2 < 128 ∨ 191 < b2 then 1 else if b3 < 128 ∨ 191 < b3 then 1 else 4)
  else if b0 = 244 then (if rem < 4 then 1 else if b1 < 128 ∨ 143 < b1 then 1 else if b2 < 128 ∨ 191 < b2 then 1 else if b3 < 128 ∨ 191 < b3 then 1 else 4)
  else 1

theorem zw_eq (b0 b1 b2 b3 rem : Nat) (h0 : b0 < 256) (h1 : b1 < 256) (h2 : b2 < 256) (h3 : b3 < 256) : zw b0 b1 b2 b3 rem = wF b0 b1 b2 b3 rem := by
  by_cases c1 : b0 < 128
  · unfold zw wF; rw [if_pos c1, if_pos c1]
  by_cases c2 : 194 ≤ b0 ∧ b0 ≤ 223
  · by_cases t0 : rem < 2
    · unfold zw wF; (repeat (first | rw [if_pos (by omega)] | rw [if_neg (by omega)])) <;> (repeat' split) <;> first | rfl | (exfalso; omega)
    by_cases t1 : b1 < 128 ∨ 191 < b1
    · unfold zw wF; (repeat (first | rw [if_pos (by omega)] | rw [if_neg (by omega)])) <;> (repeat' split) <;> first | rfl | (exfalso; omega)
    unfold zw wF; (repeat (first | rw [if_pos (by omega)] | rw [if_neg (by omega)])) <;> (repeat' split) <;> first | rfl | (exfalso; omega)
  by_cases c3 : b0 = 224
  · by_cases t0 : rem < 3
    · unfold zw wF; (repeat (first | rw [if_pos (by omega)] | rw [if_neg (by omega)])) <;> (repeat' split) <;> first | rfl | (exfalso; omega)
    by_cases t1 : b1 < 160 ∨ 191 < b1
    · unfold zw wF; (repeat (first | rw [if_pos (by omega)] | rw [if_neg (by omega)])) <;> (repeat' split) <;> first | rfl | (exfalso; omega)
    by_cases t2 : b2 < 128 ∨ 191 < b2
    · unfold zw wF; (repeat (first | rw [if_pos (by omega)] | rw [if_neg (by omega)])) <;> (repeat' split) <;> first | rfl | (exfalso; omega)
    unfold zw wF; (repeat (first | rw [if_pos (by omega)] | rw [if_neg (by omega)])) <;> (repeat' split) <;> first | rfl | (exfalso; omega)
  by_cases c4 : (225 ≤ b0 ∧ b0 ≤ 236) ∨ b0 = 238 ∨ b0 = 239
  · by_cases t0 : rem < 3
    · unfold zw wF; (repeat (first | rw [if_pos (by omega)] | rw [if_neg (by omega)])) <;> (repeat' split) <;> first | rfl | (exfalso; omega)
    by_cases t1 : b1 < 128 ∨ 191 < b1
    · unfold zw wF; (repeat (first | rw [if_pos (by omega)] | rw [if_neg (by omega)])) <;> (repeat' split) <;> first | rfl | (exfalso; omega)
    by_cases t2 : b2 < 128 ∨ 191 < b2
    · unfold zw wF; (repeat (first | rw [if_pos (by omega)] | rw [if_neg (by omega)])) <;> (repeat' split) <;> first | rfl | (exfalso; omega)
    unfold zw wF; (repeat (first | rw [if_pos (by omega)] | rw [if_neg (by omega)])) <;> (repeat' split) <;> first | rfl | (exfalso; omega)
  by_cases c5 : b0 = 237
  · by_cases t0 : rem < 3
    · unfold zw wF; (repeat (first | rw [if_pos (by omega)] | rw [if_neg (by omega)])) <;> (repeat' split) <;> first | rfl | (exfalso; omega)
    by_cases t1 : b1 < 128 ∨ 159 < b1
    · unfold zw wF; (repeat (first | rw [if_pos (by omega)] | rw [if_neg (by omega)])) <;> (repeat' split) <;> first | rfl | (exfalso; omega)
    by_cases t2 : b2 < 128 ∨ 191 < b2
    · unfold zw wF; (repeat (first | rw [if_pos (by omega)] | rw [if_neg (by omega)])) <;> (repeat' split) <;> first | rfl | (exfalso; omega)
    unfold zw wF; (repeat (first | rw [if_pos (by omega)] | rw [if_neg (by omega)])) <;> (repeat' split) <;> first | rfl | (exfalso; omega)
  by_cases c6 : b0 = 240
  · by_cases t0 : rem < 4
    · unfold zw wF; (repeat (first | rw [if_pos (by omega)] | rw [if_neg (by omega)])) <;> (repeat' split) <;> first | rfl | (exfalso; omega)
    by_cases t1 : b1 < 144 ∨ 191 < b1
    · unfold zw wF; (repeat (first | rw [if_pos (by omega)] | rw [if_neg (by omega)])) <;> (repeat' split) <;> first | rfl | (exfalso; omega)
    by_cases t2 : b2 < 128 ∨ 191 < b2
    · unfold zw wF; (repeat (first | rw [if_pos (by omega)] | rw [if_neg (by omega)])) <;> (repeat' split) <;> first | rfl | (exfalso; omega)
    by_cases t3 : b3 < 128 ∨ 191 < b3
    · unfold zw wF; (repeat (first | rw [if_pos (by omega)] | rw [if_neg (by omega)])) <;> (repeat' split) <;> first | rfl | (exfalso; omega)
    unfold zw wF; (repeat (first | rw [if_pos (by omega)] | rw [if_neg (by omega)])) <;> (repeat' split) <;> first | rfl | (exfalso; omega)
  by_cases c7 : 241 ≤ b0 ∧ b0 ≤ 243
  · by_cases t0 : rem < 4
    · unfold zw wF; (repeat (first | rw [if_pos (by omega)] | rw [if_neg (by omega)])) <;> (repeat' split) <;> first | rfl | (exfalso; omega)
    by_cases t1 : b1 < 128 ∨ 191 < b1
    · unfold zw wF; (repeat (first | rw [if_pos (by omega)] | rw [if_neg (by omega)])) <;> (repeat' split) <;> first | rfl | (exfalso; omega)
    by_cases t2 : b2 < 128 ∨ 191 < b2
    · unfold zw wF; (repeat (first | rw [if_pos (by omega)] | rw [if_neg (by omega)])) <;> (repeat' split) <;> first | rfl | (exfalso; omega)
    by_cases t3 : b3 < 128 ∨ 191 < b3
    · unfold zw wF; (repeat (first | rw [if_pos (by omega)] | rw [if_neg (by omega)])) <;> (repeat' split) <;> first | rfl | (exfalso; omega)
    unfold zw wF; (repeat (first | rw [if_pos (by omega)] | rw [if_neg (by omega)])) <;> (repeat' split) <;> first | rfl | (exfalso; omega)
  by_cases c8 : b0 = 244
  · by_cases t0 : rem < 4
    · unfold zw wF; (repeat (first | rw [if_pos (by omega)] | rw [if_neg (by omega)])) <;> (repeat' split) <;> first | rfl | (exfalso; omega)
    by_cases t1 : b1 < 128 ∨ 143 < b1
    · unfold zw wF; (repeat (first | rw [if_pos (by omega)] | rw [if_neg (by omega)])) <;> (repeat' split) <;> first | rfl | (exfalso; omega)
    by_cases t2 : b2 < 128 ∨ 191 < b2
    · unfold zw wF; (repeat (first | rw [if_pos (by omega)] | rw [if_neg (by omega)])) <;> (repeat' split) <;> first | rfl | (exfalso; omega)
    by_cases t3 : b3 < 128 ∨ 191 < b3
    · unfold zw wF; (repeat (first | rw [if_pos (by omega)] | rw [if_neg (by omega)])) <;> (repeat' split) <;> first | rfl | (exfalso; omega)
    unfold zw wF; (repeat (first | rw [if_pos (by omega)] | rw [if_neg (by omega)])) <;> (repeat' split) <;> first | rfl | (exfalso; omega)
  unfold zw wF; (repeat (first | rw [if_pos (by omega)] | rw [if_neg (by omega)])) <;> (repeat' split) <;> first | rfl | (exfalso; omega)

theorem byte_at (s : ByteArray) (i k : Nat) (h : i + k < s.size) : byteAt (s.data.toList.drop i) k = (s[i + k]).toNat := by
  simp only [byteAt, List.getD_eq_getElem?_getD, List.getElem?_drop, Array.getElem?_toList]
  rw [Array.getElem?_eq_getElem h]
  rfl

/-- Byte k behind i, as a number; 0 where there is none. -/
def nth (s : ByteArray) (i k : Nat) : Nat := byteAt (s.data.toList.drop i) k
theorem nth_lt (s : ByteArray) (i k : Nat) : nth s i k < 256 := UInt8.toNat_lt _
theorem dec_zw (s : ByteArray) (i : Nat) : (dec (s.data.toList.drop i)).2 = zw (nth s i 0) (nth s i 1) (nth s i 2) (nth s i 3) (s.size - i) := by
  rw [dec_wF, zw_eq _ _ _ _ _ (nth_lt s i 0) (nth_lt s i 1) (nth_lt s i 2) (nth_lt s i 3), List.length_drop, Array.length_toList]
  rfl

theorem ret_int {k : IntKind} {a b : Int} (h : a = b) : Ending.returned (.int k a) = .returned (.int k b) := by rw [h]

set_option maxRecDepth 100000 in
set_option maxHeartbeats 4000000 in
theorem width_core (s : ByteArray) (i b0 b1 b2 b3 : Nat) (w : World) (hs : s.size ≤ 262144) (hi : i < s.size) (e0 : s[i].toNat = b0) (e1 : (h : i + 1 < s.size) → s[i + 1].toNat = b1) (e2 : (h : i + 2 < s.size) → s[i + 2].toNat = b2) (e3 : (h : i + 3 < s.size) → s[i + 3].toNat = b3)
    (hc : b0 < 128 ∨ (128 ≤ b0 ∧ b0 ≤ 193) ∨ (194 ≤ b0 ∧ b0 ≤ 223) ∨ (224 ≤ b0 ∧ b0 ≤ 224) ∨ (225 ≤ b0 ∧ b0 ≤ 236) ∨ (237 ≤ b0 ∧ b0 ≤ 237) ∨ (238 ≤ b0 ∧ b0 ≤ 238) ∨ (239 ≤ b0 ∧ b0 ≤ 239) ∨ (240 ≤ b0 ∧ b0 ≤ 240) ∨ (241 ≤ b0 ∧ b0 ≤ 243) ∨ (244 ≤ b0 ∧ b0 ≤ 244) ∨ (245 ≤ b0)) (r : Nat) (hr : Hid (zw b0 b1 b2 b3 (s.size - i) = r)) :
    Calls Try.prog 10 #[.string s, .int .i64 i] w fun e w' => e = .returned (.int .i64 r) ∧ w' = w := by
  rcases hc with hc | ⟨hc, hc'⟩ | ⟨hc, hc'⟩ | ⟨hc, hc'⟩ | ⟨hc, hc'⟩ | ⟨hc, hc'⟩ | ⟨hc, hc'⟩ | ⟨hc, hc'⟩ | ⟨hc, hc'⟩ | ⟨hc, hc'⟩ | ⟨hc, hc'⟩ | hc
  · have k224 : ((b0 : Int) == 224) = false := by rw [beq_eq_false_iff_ne]; omega
    have k237 : ((b0 : Int) == 237) = false := by rw [beq_eq_false_iff_ne]; omega
    have k238 : ((b0 : Int) == 238) = false := by rw [beq_eq_false_iff_ne]; omega
    have k239 : ((b0 : Int) == 239) = false := by rw [beq_eq_false_iff_ne]; omega
    have k240 : ((b0 : Int) == 240) = false := by rw [beq_eq_false_iff_ne]; omega
    have k244 : ((b0 : Int) == 244) = false := by rw [beq_eq_false_iff_ne]; omega
    go_enter Try.func10, Try.ntmps10
    go_wp2
    all_goals
      go_ret
      refine ⟨ret_int ?_, rfl⟩
      rw [← hr.out]
      clear e0 e1 e2 e3
      unfold zw
      (repeat (first | rw [if_pos (by omega)] | rw [if_neg (by omega)])) <;> rfl
  · have k224 : ((b0 : Int) == 224) = false := by rw [beq_eq_false_iff_ne]; omega
    have k237 : ((b0 : Int) == 237) = false := by rw [beq_eq_false_iff_ne]; omega
    have k238 : ((b0 : Int) == 238) = false := by rw [beq_eq_false_iff_ne]; omega
    have k239 : ((b0 : Int) == 239) = false := by rw [beq_eq_false_iff_ne]; omega
    have k240 : ((b0 : Int) == 240) = false := by rw [beq_eq_false_iff_ne]; omega
    have k244 : ((b0 : Int) == 244) = false := by rw [beq_eq_false_iff_ne]; omega
    go_enter Try.func10, Try.ntmps10
    go_wp2
    all_goals
      go_ret
      refine ⟨ret_int ?_, rfl⟩
      rw [← hr.out]
      clear e0 e1 e2 e3
      unfold zw
      (repeat (first | rw [if_pos (by omega)] | rw [if_neg (by omega)])) <;> rfl
  · have k224 : ((b0 : Int) == 224) = false := by rw [beq_eq_false_iff_ne]; omega
    have k237 : ((b0 : Int) == 237) = false := by rw [beq_eq_false_iff_ne]; omega
    have k238 : ((b0 : Int) == 238) = false := by rw [beq_eq_false_iff_ne]; omega
    have k239 : ((b0 : Int) == 239) = false := by rw [beq_eq_false_iff_ne]; omega
    have k240 : ((b0 : Int) == 240) = false := by rw [beq_eq_false_iff_ne]; omega
    have k244 : ((b0 : Int) == 244) = false := by rw [beq_eq_false_iff_ne]; omega
    go_enter Try.func10, Try.ntmps10
    go_wp2
    all_goals
      go_ret
      refine ⟨ret_int ?_, rfl⟩
      rw [← hr.out]
      clear e0 e1 e2 e3
      unfold zw
      (repeat (first | rw [if_pos (by omega)] | rw [if_neg (by omega)])) <;> rfl
  · have k224 : ((b0 : Int) == 224) = true := by rw [beq_iff_eq]; omega
    have k237 : ((b0 : Int) == 237) = false := by rw [beq_eq_false_iff_ne]; omega
    have k238 : ((b0 : Int) == 238) = false := by rw [beq_eq_false_iff_ne]; omega
    have k239 : ((b0 : Int) == 239) = false := by rw [beq_eq_false_iff_ne]; omega
    have k240 : ((b0 : Int) == 240) = false := by rw [beq_eq_false_iff_ne]; omega
    have k244 : ((b0 : Int) == 244) = false := by rw [beq_eq_false_iff_ne]; omega
    go_enter Try.func10, Try.ntmps10
    go_wp2
    all_goals
      go_ret
      refine ⟨ret_int ?_, rfl⟩
      rw [← hr.out]
      clear e0 e1 e2 e3
      unfold zw
      (repeat (first | rw [if_pos (by omega)] | rw [if_neg (by omega)])) <;> rfl
  · have k224 : ((b0 : Int) == 224) = false := by rw [beq_eq_false_iff_ne]; omega
    have k237 : ((b0 : Int) == 237) = false := by rw [beq_eq_false_iff_ne]; omega
    have k238 : ((b0 : Int) == 238) = false := by rw [beq_eq_false_iff_ne]; omega
    have k239 : ((b0 : Int) == 239) = false := by rw [beq_eq_false_iff_ne]; omega
    have k240 : ((b0 : Int) == 240) = false := by rw [beq_eq_false_iff_ne]; omega
    have k244 : ((b0 : Int) == 244) = false := by rw [beq_eq_false_iff_ne]; omega
    go_enter Try.func10, Try.ntmps10
    go_wp2
    all_goals
      go_ret
      refine ⟨ret_int ?_, rfl⟩
      rw [← hr.out]
      clear e0 e1 e2 e3
      unfold zw
      (repeat (first | rw [if_pos (by omega)] | rw [if_neg (by omega)])) <;> rfl
  · have k224 : ((b0 : Int) == 224) = false := by rw [beq_eq_false_iff_ne]; omega
    have k237 : ((b0 : Int) == 237) = true := by rw [beq_iff_eq]; omega
    have k238 : ((b0 : Int) == 238) = false := by rw [beq_eq_false_iff_ne]; omega
    have k239 : ((b0 : Int) == 239) = false := by rw [beq_eq_false_iff_ne]; omega
    have k240 : ((b0 : Int) == 240) = false := by rw [beq_eq_false_iff_ne]; omega
    have k244 : ((b0 : Int) == 244) = false := by rw [beq_eq_false_iff_ne]; omega
    go_enter Try.func10, Try.ntmps10
    go_wp2
    all_goals
      go_ret
      refine ⟨ret_int ?_, rfl⟩
      rw [← hr.out]
      clear e0 e1 e2 e3
      unfold zw
      (repeat (first | rw [if_pos (by omega)] | rw [if_neg (by omega)])) <;> rfl
  · have k224 : ((b0 : Int) == 224) = false := by rw [beq_eq_false_iff_ne]; omega
    have k237 : ((b0 : Int) == 237) = false := by rw [beq_eq_false_iff_ne]; omega
    have k238 : ((b0 : Int) == 238) = true := by rw [beq_iff_eq]; omega
    have k239 : ((b0 : Int) == 239) = false := by rw [beq_eq_false_iff_ne]; omega
    have k240 : ((b0 : Int) == 240) = false := by rw [beq_eq_false_iff_ne]; omega
    have k244 : ((b0 : Int) == 244) = false := by rw [beq_eq_false_iff_ne]; omega
    go_enter Try.func10, Try.ntmps10
    go_wp2
    all_goals
      go_ret
      refine ⟨ret_int ?_, rfl⟩
      rw [← hr.out]
      clear e0 e1 e2 e3
      unfold zw
      (repeat (first | rw [if_pos (by omega)] | rw [if_neg (by omega)])) <;> rfl
  · have k224 : ((b0 : Int) == 224) = false := by rw [beq_eq_false_iff_ne]; omega
    have k237 : ((b0 : Int) == 237) = false := by rw [beq_eq_false_iff_ne]; omega
    have k238 : ((b0 : Int) == 238) = false := by rw [beq_eq_false_iff_ne]; omega
    have k239 : ((b0 : Int) == 239) = true := by rw [beq_iff_eq]; omega
    have k240 : ((b0 : Int) == 240) = false := by rw [beq_eq_false_iff_ne]; omega
    have k244 : ((b0 : Int) == 244) = false := by rw [beq_eq_false_iff_ne]; omega
    go_enter Try.func10, Try.ntmps10
    go_wp2
    all_goals
      go_ret
      refine ⟨ret_int ?_, rfl⟩
      rw [← hr.out]
      clear e0 e1 e2 e3
      unfold zw
      (repeat (first | rw [if_pos (by omega)] | rw [if_neg (by omega)])) <;> rfl
  · have k224 : ((b0 : Int) == 224) = false := by rw [beq_eq_false_iff_ne]; omega
    have k237 : ((b0 : Int) == 237) = false := by rw [beq_eq_false_iff_ne]; omega
    have k238 : ((b0 : Int) == 238) = false := by rw [beq_eq_false_iff_ne]; omega
    have k239 : ((b0 : Int) == 239) = false := by rw [beq_eq_false_iff_ne]; omega
    have k240 : ((b0 : Int) == 240) = true := by rw [beq_iff_eq]; omega
    have k244 : ((b0 : Int) == 244) = false := by rw [beq_eq_false_iff_ne]; omega
    go_enter Try.func10, Try.ntmps10
    go_wp2
    all_goals
      go_ret
      refine ⟨ret_int ?_, rfl⟩
      rw [← hr.out]
      clear e0 e1 e2 e3
      unfold zw
      (repeat (first | rw [if_pos (by omega)] | rw [if_neg (by omega)])) <;> rfl
  · have k224 : ((b0 : Int) == 224) = false := by rw [beq_eq_false_iff_ne]; omega
    have k237 : ((b0 : Int) == 237) = false := by rw [beq_eq_false_iff_ne]; omega
    have k238 : ((b0 : Int) == 238) = false := by rw [beq_eq_false_iff_ne]; omega
    have k239 : ((b0 : Int) == 239) = false := by rw [beq_eq_false_iff_ne]; omega
    have k240 : ((b0 : Int) == 240) = false := by rw [beq_eq_false_iff_ne]; omega
    have k244 : ((b0 : Int) == 244) = false := by rw [beq_eq_false_iff_ne]; omega
    go_enter Try.func10, Try.ntmps10
    go_wp2
    all_goals
      go_ret
      refine ⟨ret_int ?_, rfl⟩
      rw [← hr.out]
      clear e0 e1 e2 e3
      unfold zw
      (repeat (first | rw [if_pos (by omega)] | rw [if_neg (by omega)])) <;> rfl
  · have k224 : ((b0 : Int) == 224) = false := by rw [beq_eq_false_iff_ne]; omega
    have k237 : ((b0 : Int) == 237) = false := by rw [beq_eq_false_iff_ne]; omega
    have k238 : ((b0 : Int) == 238) = false := by rw [beq_eq_false_iff_ne]; omega
    have k239 : ((b0 : Int) == 239) = false := by rw [beq_eq_false_iff_ne]; omega
    have k240 : ((b0 : Int) == 240) = false := by rw [beq_eq_false_iff_ne]; omega
    have k244 : ((b0 : Int) == 244) = true := by rw [beq_iff_eq]; omega
    go_enter Try.func10, Try.ntmps10
    go_wp2
    all_goals
      go_ret
      refine ⟨ret_int ?_, rfl⟩
      rw [← hr.out]
      clear e0 e1 e2 e3
      unfold zw
      (repeat (first | rw [if_pos (by omega)] | rw [if_neg (by omega)])) <;> rfl
  · have k224 : ((b0 : Int) == 224) = false := by rw [beq_eq_false_iff_ne]; omega
    have k237 : ((b0 : Int) == 237) = false := by rw [beq_eq_false_iff_ne]; omega
    have k238 : ((b0 : Int) == 238) = false := by rw [beq_eq_false_iff_ne]; omega
    have k239 : ((b0 : Int) == 239) = false := by rw [beq_eq_false_iff_ne]; omega
    have k240 : ((b0 : Int) == 240) = false := by rw [beq_eq_false_iff_ne]; omega
    have k244 : ((b0 : Int) == 244) = false := by rw [beq_eq_false_iff_ne]; omega
    go_enter Try.func10, Try.ntmps10
    go_wp2
    all_goals
      go_ret
      refine ⟨ret_int ?_, rfl⟩
      rw [← hr.out]
      clear e0 e1 e2 e3
      unfold zw
      (repeat (first | rw [if_pos (by omega)] | rw [if_neg (by omega)])) <;> rfl

theorem width_any (s : ByteArray) (i : Nat) (w : World) (hs : s.size ≤ 262144) (hi : i < s.size) :
    Calls Try.prog 10 #[.string s, .int .i64 i] w fun e w' => e = .returned (.int .i64 (dec (s.data.toList.drop i)).2) ∧ w' = w :=
  width_core s i (nth s i 0) (nth s i 1) (nth s i 2) (nth s i 3) w hs hi (byte_at s i 0 hi).symm (fun h => (byte_at s i 1 h).symm) (fun h => (byte_at s i 2 h).symm) (fun h => (byte_at s i 3 h).symm)
    (by have := nth_lt s i 0; omega) _ (dec_zw s i).symm

theorem rc_le : ∀ (n : Nat) (l : List UInt8), l.length ≤ n → rc l ≤ l.length
  | 0, l, h => by
    have : l = [] := List.length_eq_zero_iff.1 (by omega)
    subst this
    exact Nat.le_refl _
  | n + 1, l, h => by
    by_cases hl : 0 < l.length
    · have h1 := dec_pos l
      have h2 := rc_le n (l.drop (dec l).2) (by rw [List.length_drop]; omega)
      rw [rc_step hl]
      rw [List.length_drop] at h2
      omega
    · have : l = [] := List.length_eq_zero_iff.1 (by omega)
      subst this
      exact Nat.le_refl _

/-- n runes lie ahead of i; those behind i make up the whole count. -/
def Cnt (s : ByteArray) (i n : Nat) : Prop := n + rc (s.data.toList.drop i) = rc s.data.toList ∧ n ≤ i
theorem cnt_zero (s : ByteArray) : Cnt s 0 0 := ⟨Nat.zero_add _, Nat.le_refl _⟩
theorem Cnt.step {s : ByteArray} {i n : Nat} (h : Cnt s i n) (hi : i < s.size) : Cnt s (i + (dec (s.data.toList.drop i)).2) (n + 1) := by
  have hl : 0 < (s.data.toList.drop i).length := by
    rw [List.length_drop, Array.length_toList]
    show 0 < s.size - i
    omega
  have h1 := dec_pos (s.data.toList.drop i)
  have h2 := rc_step hl
  rw [List.drop_drop] at h2
  exact ⟨by have := h.1; omega, by have := h.2; omega⟩
theorem Cnt.done {s : ByteArray} {i n : Nat} (h : Cnt s i n) (hi : ¬ i < s.size) : n = rc s.data.toList := by
  have := h.1
  rw [List.drop_eq_nil_of_le (by rw [Array.length_toList]; show s.size ≤ i; omega)] at this
  exact this

set_option maxHeartbeats 400000 in
theorem runes_any (s : ByteArray) (w : World) (hs : s.size ≤ 262144) :
    Calls Try.prog 7 #[.string s] w fun e w' => e = .returned (.int .i64 (rc s.data.toList)) ∧ w' = w := by
  go_enter Try.func7, Try.ntmps7
  go_wp2
  go_loop [3, 4] (fun q p => ∃ i n : Nat, i ≤ s.size ∧ p = .int .i64 i ∧ q = .int .i64 n ∧ Cnt s i n) (fun _ p => s.size - (intOf p).toNat)
  case atStart => exact ⟨0, 0, Nat.zero_le _, rfl, rfl, cnt_zero s⟩
  case round =>
    obtain ⟨i, n, hi, rfl, rfl, hC⟩ := hrel
    have hn := hC.2
    by_cases hlt : i < s.size
    · have hC' : Hid (Cnt s (i + (dec (s.data.toList.drop i)).2) (n + 1)) := hC.step hlt
      have hw1 := dec_pos (s.data.toList.drop i)
      have hw2 : (dec (s.data.toList.drop i)).2 ≤ s.size - i := by
        have := dec_le (a := s.data.toList.drop i) (by rw [List.length_drop, Array.length_toList]; show 0 < s.size - i; omega)
        rwa [List.length_drop, Array.length_toList] at this
      clear hC
      go_wp2_with fail
      refine (width_any s i _ hs hlt).mono ?_
      rintro e w' ⟨rfl, rfl⟩
      generalize (dec (s.data.toList.drop i)).2 = d at *
      go_wp2
      go_round
      case rel => exact ⟨i + d, n + 1, by omega, by go_num, by go_num, hC'.out⟩
      case measure => simp [intOf]; omega
    · have hd : Hid (n = rc s.data.toList) := hC.done hlt
      clear hC
      go_wp2
      go_ret
      rw [← hd.out]
      exact ⟨rfl, rfl⟩
end Go.Proofs.Qxb6630105a
