/-
  Seat b6630173a: cborNumberWrittenAs, walked: true of the number that head reads.
-/
import Derived.Test.Qxb6630173aHead
namespace Go.Proofs.Qxb6630173a
open Go.RowKit

theorem num_div {bs : List Int} (h : IsBytes bs) (j : Nat) : ∀ k, num bs (j + k) / 256 ^ k = num bs j
  | 0 => by simp
  | k + 1 => by
    have h1 := h (1 + (j + k))
    have e : num bs (j + (k + 1)) = num bs (j + k) * 256 + bs.getD (1 + (j + k)) 0 := rfl
    rw [e, Int.pow_succ, Int.mul_comm (256 ^ k) 256, ← Int.ediv_ediv_of_nonneg (by decide), show (num bs (j + k) * 256 + bs.getD (1 + (j + k)) 0) / 256 = num bs (j + k) from by omega]
    exact num_div h j k
theorem num_byte {bs : List Int} (h : IsBytes bs) (i k : Nat) : num bs (i + 1 + k) / 256 ^ k % 256 = bs.getD (1 + i) 0 := by
  have h1 := h (1 + i)
  rw [num_div h (i + 1) k]
  simp only [num]
  omega

set_option maxRecDepth 100000 in
set_option maxHeartbeats 400000 in
theorem written_wide (g n s c : Nat) (bs : List Int) (w : World) (i : Int) (hb : IsBytes bs) (hc : ∀ i, i < n → w.cell? ⟨g, i, none⟩ = some (.int .u8 (bs.getD i 0))) (hn1 : 1 + s ≤ n)
    (hi : (i = 24 ∧ s = 1) ∨ (i = 25 ∧ s = 2) ∨ (i = 26 ∧ s = 4) ∨ (i = 27 ∧ s = 8)) :
    Calls Try.prog 9 #[.int .u64 (num bs s), .int .u8 i, .slice (some ⟨g, 1, none⟩) s c] w fun e w' => e = .returned (.bool true) ∧ w' = w := by
  rcases hi with ⟨rfl, rfl⟩ | ⟨rfl, rfl⟩ | ⟨rfl, rfl⟩ | ⟨rfl, rfl⟩
  · have hx := num_bound hb 1
    have hd : Hid (∀ i k, i + 1 + k = 1 → num bs 1 / 256 ^ k % 256 = bs.getD (1 + i) 0) := fun i k e => by have := num_byte hb i k; rwa [e] at this
    generalize num bs 1 = x at *
    have hx0 : 0 ≤ x := hx.1
    have hx1 : x < 256 := hx.2
    clear hx
    go_enter Try.func9, Try.ntmps9
    go_wp2
    go_loop [8] (fun q => ∃ k : Nat, k ≤ 1 ∧ q = .int .i64 k) (fun q => 1 - (intOf q).toNat)
    case atStart => exact ⟨0, Nat.zero_le _, rfl⟩
    case round =>
      obtain ⟨k, hk, rfl⟩ := hrel
      by_cases hlt : k < 1
      · obtain rfl : k = 0 := by omega
        have ck := hc 1 (by omega)
        have hq : (x % 256 != bs.getD 1 0) = false := by
          have := hd.out 0 0 (by omega)
          rw [Int.pow_zero, Int.ediv_one] at this
          simpa using this
        generalize bs.getD 1 0 = y at *
        clear hc hb hd
        go_wp2
        go_round
        case rel => exact ⟨1, by omega, by go_num⟩
        case measure => simp [intOf]
      · go_wp2
        go_ret
        exact ⟨rfl, rfl⟩
  · have hx := num_bound hb 2
    have hd : Hid (∀ i k, i + 1 + k = 2 → num bs 2 / 256 ^ k % 256 = bs.getD (1 + i) 0) := fun i k e => by have := num_byte hb i k; rwa [e] at this
    generalize num bs 2 = x at *
    have hx0 : 0 ≤ x := hx.1
    have hx1 : x < 65536 := hx.2
    clear hx
    go_enter Try.func9, Try.ntmps9
    go_wp2
    go_loop [8] (fun q => ∃ k : Nat, k ≤ 2 ∧ q = .int .i64 k) (fun q => 2 - (intOf q).toNat)
    case atStart => exact ⟨0, Nat.zero_le _, rfl⟩
    case round =>
      obtain ⟨k, hk, rfl⟩ := hrel
      by_cases hlt : k < 2
      · have ck := hc (1 + k) (by omega)
        have hq : (x / 2 ^ (8 * (1 - k)) % 256 != bs.getD (1 + k) 0) = false := by
          have := hd.out k (1 - k) (by omega)
          rw [Int.pow_mul, show (2 : Int) ^ 8 = 256 from rfl, this]
          simp
        generalize bs.getD (1 + k) 0 = y at *
        clear hc hb hd
        go_wp2
        go_round
        case rel => exact ⟨k + 1, by omega, by go_num⟩
        case measure => simp [intOf]; omega
      · go_wp2
        go_ret
        exact ⟨rfl, rfl⟩
  · have hx := num_bound hb 4
    have hd : Hid (∀ i k, i + 1 + k = 4 → num bs 4 / 256 ^ k % 256 = bs.getD (1 + i) 0) := fun i k e => by have := num_byte hb i k; rwa [e] at this
    generalize num bs 4 = x at *
    have hx0 : 0 ≤ x := hx.1
    have hx1 : x < 4294967296 := hx.2
    clear hx
    go_enter Try.func9, Try.ntmps9
    go_wp2
    go_loop [8] (fun q => ∃ k : Nat, k ≤ 4 ∧ q = .int .i64 k) (fun q => 4 - (intOf q).toNat)
    case atStart => exact ⟨0, Nat.zero_le _, rfl⟩
    case round =>
      obtain ⟨k, hk, rfl⟩ := hrel
      by_cases hlt : k < 4
      · have ck := hc (1 + k) (by omega)
        have hq : (x / 2 ^ (8 * (3 - k)) % 256 != bs.getD (1 + k) 0) = false := by
          have := hd.out k (3 - k) (by omega)
          rw [Int.pow_mul, show (2 : Int) ^ 8 = 256 from rfl, this]
          simp
        generalize bs.getD (1 + k) 0 = y at *
        clear hc hb hd
        go_wp2
        go_round
        case rel => exact ⟨k + 1, by omega, by go_num⟩
        case measure => simp [intOf]; omega
      · go_wp2
        go_ret
        exact ⟨rfl, rfl⟩
  · have hx := num_bound hb 8
    have hd : Hid (∀ i k, i + 1 + k = 8 → num bs 8 / 256 ^ k % 256 = bs.getD (1 + i) 0) := fun i k e => by have := num_byte hb i k; rwa [e] at this
    generalize num bs 8 = x at *
    have hx0 : 0 ≤ x := hx.1
    have hx1 : x < 18446744073709551616 := hx.2
    clear hx
    go_enter Try.func9, Try.ntmps9
    go_wp2
    go_loop [8] (fun q => ∃ k : Nat, k ≤ 8 ∧ q = .int .i64 k) (fun q => 8 - (intOf q).toNat)
    case atStart => exact ⟨0, Nat.zero_le _, rfl⟩
    case round =>
      obtain ⟨k, hk, rfl⟩ := hrel
      by_cases hlt : k < 8
      · have ck := hc (1 + k) (by omega)
        have hq : (x / 2 ^ (8 * (7 - k)) % 256 != bs.getD (1 + k) 0) = false := by
          have := hd.out k (7 - k) (by omega)
          rw [Int.pow_mul, show (2 : Int) ^ 8 = 256 from rfl, this]
          simp
        generalize bs.getD (1 + k) 0 = y at *
        clear hc hb hd
        go_wp2
        go_round
        case rel => exact ⟨k + 1, by omega, by go_num⟩
        case measure => simp [intOf]; omega
      · go_wp2
        go_ret
        exact ⟨rfl, rfl⟩

theorem written_small (x i : Int) (a : Option Addr) (n c : Nat) (w : World) (hi : i < 24) (hx : x = i) (h0 : 0 ≤ i) : Calls Try.prog 9 #[.int .u64 x, .int .u8 i, .slice a n c] w fun e w' => e = .returned (.bool true) ∧ w' = w := by
  subst hx
  go_enter Try.func9, Try.ntmps9
  go_wp2
  go_ret
  exact ⟨rfl, rfl⟩
theorem written_open (a : Option Addr) (n c : Nat) (w : World) : Calls Try.prog 9 #[.int .u64 0, .int .u8 31, .slice a n c] w fun e w' => e = .returned (.bool true) ∧ w' = w := by
  go_enter Try.func9, Try.ntmps9
  go_wp2
  go_ret
  exact ⟨rfl, rfl⟩

/-- cborNumberWrittenAs is true of the number that head reads, at the head's own argument bytes. -/
theorem written_any (g n c : Nat) (a : Option Addr) (bs : List Int) (w : World) (z : Int) (hb : IsBytes bs) (hc : ∀ i, i < n → w.cell? ⟨g, i, none⟩ = some (.int .u8 (bs.getD i 0))) (hok : HeadOk z n) (ha : n ≠ 1 → a = some ⟨g, 1, none⟩) :
    Calls Try.prog 9 #[.int .u64 (headNum z bs), .int .u8 (z % 32), .slice a (headLen (z % 32) - 1) c] w fun e w' => e = .returned (.bool true) ∧ w' = w := by
  rcases hok with ⟨h, hn⟩ | ⟨h, hn⟩ | ⟨h, hn⟩ | ⟨h, hn⟩ | ⟨h, hn⟩ | ⟨h, hn⟩
  · exact written_small _ _ _ _ _ _ h (if_pos h) (by omega)
  · obtain rfl := ha (by omega)
    have e2 : headLen (z % 32) = 2 := by rw [h]; rfl
    have e1 : headNum z bs = num bs 1 := by unfold headNum; rw [if_neg (by omega), if_neg (by omega), e2]
    rw [e1, e2, h]
    exact written_wide g n 1 c bs w 24 hb hc (by omega) (.inl ⟨rfl, rfl⟩)
  · obtain rfl := ha (by omega)
    have e2 : headLen (z % 32) = 3 := by rw [h]; rfl
    have e1 : headNum z bs = num bs 2 := by unfold headNum; rw [if_neg (by omega), if_neg (by omega), e2]
    rw [e1, e2, h]
    exact written_wide g n 2 c bs w 25 hb hc (by omega) (.inr (.inl ⟨rfl, rfl⟩))
  · obtain rfl := ha (by omega)
    have e2 : headLen (z % 32) = 5 := by rw [h]; rfl
    have e1 : headNum z bs = num bs 4 := by unfold headNum; rw [if_neg (by omega), if_neg (by omega), e2]
    rw [e1, e2, h]
    exact written_wide g n 4 c bs w 26 hb hc (by omega) (.inr (.inr (.inl ⟨rfl, rfl⟩)))
  · obtain rfl := ha (by omega)
    have e2 : headLen (z % 32) = 9 := by rw [h]; rfl
    have e1 : headNum z bs = num bs 8 := by unfold headNum; rw [if_neg (by omega), if_neg (by omega), e2]
    rw [e1, e2, h]
    exact written_wide g n 8 c bs w 27 hb hc (by omega) (.inr (.inr (.inr ⟨rfl, rfl⟩)))
  · have e1 : headNum z bs = 0 := by unfold headNum; rw [if_neg (by omega), if_pos h]
    rw [e1, h]
    exact written_open _ _ _ _
end Go.Proofs.Qxb6630173a
