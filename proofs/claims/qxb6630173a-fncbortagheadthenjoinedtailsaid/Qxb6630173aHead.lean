/-
  Seat b6630173a: head and CBORTag, walked.
-/
import Derived.Test.Qxb6630173aMem
namespace Go.Proofs.Qxb6630173a
open Go.RowKit

/-- The big-endian number of the k bytes behind the first. -/
def num (bs : List Int) : Nat → Int
  | 0 => 0
  | k + 1 => num bs k * 256 + bs.getD (1 + k) 0

/-- Each is a byte. -/
def IsBytes (bs : List Int) : Prop := ∀ i, 0 ≤ bs.getD i 0 ∧ bs.getD i 0 ≤ 255

theorem num_bound {bs : List Int} (h : IsBytes bs) : ∀ k, 0 ≤ num bs k ∧ num bs k < 256 ^ k
  | 0 => ⟨Int.le_refl _, by simp [num]⟩
  | k + 1 => by
    obtain ⟨h1, h2⟩ := num_bound h k
    have h3 := h (1 + k)
    simp only [num]
    rw [Int.pow_succ]
    omega

theorem num_small {bs : List Int} (h : IsBytes bs) {k : Nat} (hk : k ≤ 7) : num bs k ≤ 72057594037927935 := by
  have h1 := (num_bound h k).2
  have h2 : (256 : Int) ^ k ≤ 256 ^ 7 := by
    have := Int.ofNat_le.2 (Nat.pow_le_pow_right (n := 256) (by decide) hk)
    rw [Int.natCast_pow, Int.natCast_pow] at this
    exact this
  have h3 : (256 : Int) ^ 7 = 72057594037927936 := by decide
  omega

/-- A byte behind a number: or is plus. -/
theorem or_byte (x y : Int) (hx0 : 0 ≤ x) (hx1 : x ≤ 72057594037927935) (hy0 : 0 ≤ y) (hy1 : y ≤ 255) : bits .or .u64 (x * 256) y = x * 256 + y := by
  obtain ⟨a, rfl⟩ := Int.eq_ofNat_of_zero_le hx0
  obtain ⟨b, rfl⟩ := Int.eq_ofNat_of_zero_le hy0
  have e := bits_or_u64_nat (a * 256) b (by omega) (by omega)
  have e2 := Nat.two_pow_add_eq_or_of_lt (i := 8) (b := b) (by omega) a
  have e3 : a * 256 ||| b = a * 256 + b := by rw [Nat.mul_comm a 256]; exact e2.symm
  rw [e3, Int.natCast_add, Int.natCast_mul] at e
  exact e

/-- What head and CBORTag answer of the rest: the part from k on (where nothing is left its address is open). -/
def RestAt (g n k : Nat) (v : Value) : Prop := ∃ ra, v = .slice ra (n - k) (n - k) ∧ (n ≠ k → ra = some ⟨g, k, none⟩)

set_option maxRecDepth 100000 in
set_option maxHeartbeats 400000 in
/-- A head whose information is below 24. -/
theorem head_small (g n : Nat) (w : World) (z : Int) (hz : 0 ≤ z ∧ z ≤ 255) (c0 : w.cell? ⟨g, 0, none⟩ = some (.int .u8 z)) (hn1 : 1 ≤ n) (hi : z % 32 < 24) :
    Calls Try.prog 12 #[.slice (some ⟨g, 0, none⟩) n n] w fun e w' => ∃ v, e = .returned (.tuple #[.int .u8 (z / 32), .int .u64 (z % 32), .bool false, v]) ∧ RestAt g n 1 v ∧ Below w.heap.size w w' := by
  have hl0 : (0 : Int) < (n : Int) := by omega
  by_cases h1 : n = 1
  · subst h1
    go_enter Try.func12, Try.ntmps12
    go_wp2
    go_quiet (fail)
    go_wp2
    go_region
    go_wp2
    exact bodyPost_ret (v := .tuple #[.int .u8 (z / 32), .int .u64 (z % 32), .bool false, .slice (some ⟨g, 0, none⟩) 0 0]) (by simp [results, Try.results12]) rfl
      ⟨_, rfl, ⟨_, rfl, fun h => absurd rfl h⟩, (below_drewN (Below.refl _ _) _).drew⟩
  · go_enter Try.func12, Try.ntmps12
    go_wp2
    go_quiet (fail)
    go_wp2
    go_region
    go_wp2
    exact bodyPost_ret (v := .tuple #[.int .u8 (z / 32), .int .u64 (z % 32), .bool false, .slice (some ⟨g, 1, none⟩) (n - 1) (n - 1)]) (by simp [results, Try.results12]) rfl
      ⟨_, rfl, ⟨_, rfl, fun _ => rfl⟩, (below_drewN (Below.refl _ _) _).drew⟩

set_option maxRecDepth 100000 in
set_option maxHeartbeats 400000 in
/-- A head of indefinite length. -/
theorem head_open (g n : Nat) (w : World) (z : Int) (hz : 0 ≤ z ∧ z ≤ 255) (c0 : w.cell? ⟨g, 0, none⟩ = some (.int .u8 z)) (hn1 : 1 ≤ n) (hi : z % 32 = 31) :
    Calls Try.prog 12 #[.slice (some ⟨g, 0, none⟩) n n] w fun e w' => ∃ v, e = .returned (.tuple #[.int .u8 (z / 32), .int .u64 0, .bool true, v]) ∧ RestAt g n 1 v ∧ Below w.heap.size w w' := by
  have hl0 : (0 : Int) < (n : Int) := by omega
  have hi1 : 31 ≤ z % 32 := by omega
  have hi2 : z % 32 ≤ 31 := by omega
  clear hi
  by_cases h1 : n = 1
  · subst h1
    go_enter Try.func12, Try.ntmps12
    go_wp2
    go_quiet (fail)
    go_wp2
    go_region
    go_wp2
    exact bodyPost_ret (v := .tuple #[.int .u8 (z / 32), .int .u64 0, .bool true, .slice (some ⟨g, 0, none⟩) 0 0]) (by simp [results, Try.results12]) rfl
      ⟨_, rfl, ⟨_, rfl, fun h => absurd rfl h⟩, (below_drewN (Below.refl _ _) _).drew⟩
  · go_enter Try.func12, Try.ntmps12
    go_wp2
    go_quiet (fail)
    go_wp2
    go_region
    go_wp2
    exact bodyPost_ret (v := .tuple #[.int .u8 (z / 32), .int .u64 0, .bool true, .slice (some ⟨g, 1, none⟩) (n - 1) (n - 1)]) (by simp [results, Try.results12]) rfl
      ⟨_, rfl, ⟨_, rfl, fun _ => rfl⟩, (below_drewN (Below.refl _ _) _).drew⟩

set_option maxRecDepth 100000 in
set_option maxHeartbeats 400000 in
/-- A head with an argument of 1, 2, 4 or 8 bytes. -/
theorem head_wide (g n s : Nat) (bs : List Int) (w : World) (z : Int) (hz : 0 ≤ z ∧ z ≤ 255) (c0 : w.cell? ⟨g, 0, none⟩ = some (.int .u8 z)) (hb : IsBytes bs) (hc : ∀ i, i < n → w.cell? ⟨g, i, none⟩ = some (.int .u8 (bs.getD i 0))) (hn1 : 1 + s ≤ n) (hn2 : n ≤ 1048576)
    (hi : (z % 32 = 24 ∧ s = 1) ∨ (z % 32 = 25 ∧ s = 2) ∨ (z % 32 = 26 ∧ s = 4) ∨ (z % 32 = 27 ∧ s = 8)) :
    Calls Try.prog 12 #[.slice (some ⟨g, 0, none⟩) n n] w fun e w' => ∃ v, e = .returned (.tuple #[.int .u8 (z / 32), .int .u64 (num bs s), .bool false, v]) ∧ RestAt g n (1 + s) v ∧ Below w.heap.size w w' := by
  have hl0 : (0 : Int) < (n : Int) := by omega
  rcases hi with ⟨hi, rfl⟩ | ⟨hi, rfl⟩ | ⟨hi, rfl⟩ | ⟨hi, rfl⟩
  · go_enter Try.func12, Try.ntmps12
    go_wp2
    go_quiet (fail)
    go_wp2
    go_loop [3, 40] (fun q p => ∃ k : Nat, k ≤ 1 ∧ p = .int .i64 k ∧ q = .int .u64 (num bs k)) (fun _ p => 1 - (intOf p).toNat)
    case atStart => exact ⟨0, Nat.zero_le _, rfl, rfl⟩
    case round =>
      obtain ⟨k, hk, rfl, rfl⟩ := hrel
      by_cases hlt : k < 1
      · have ck := hc (1 + k) (by omega)
        obtain ⟨hy0, hy1⟩ := hb (1 + k)
        have hx0 := (num_bound hb k).1
        have hx1 := num_small hb (k := k) (by omega)
        have hN : Hid (num bs (k + 1) = num bs k * 256 + bs.getD (1 + k) 0) := rfl
        have hO := hidden (or_byte _ _ hx0 hx1 hy0 hy1)
        generalize num bs k = x at *
        generalize bs.getD (1 + k) 0 = y at *
        clear hc hb
        go_wp2
        go_round
        case rel => exact ⟨k + 1, by omega, by go_num, by rw [hN.out, hO.out]⟩
        case measure => simp [intOf]; omega
      · obtain rfl : k = 1 := by omega
        clear hc hb
        by_cases h1 : n = 2
        · subst h1
          go_wp2
          go_region
          go_wp2
          exact bodyPost_ret (v := .tuple #[.int .u8 (z / 32), .int .u64 (num bs 1), .bool false, .slice (some ⟨g, 0, none⟩) 0 0]) (by simp [results, Try.results12]) rfl
            ⟨_, rfl, ⟨_, rfl, fun h => absurd rfl h⟩, (below_drewN (Below.refl _ _) _).drew⟩
        · go_wp2
          go_region
          go_wp2
          exact bodyPost_ret (v := .tuple #[.int .u8 (z / 32), .int .u64 (num bs 1), .bool false, .slice (some ⟨g, 2, none⟩) (n - 2) (n - 2)]) (by simp [results, Try.results12]) rfl
            ⟨_, rfl, ⟨_, rfl, fun _ => rfl⟩, (below_drewN (Below.refl _ _) _).drew⟩
  · go_enter Try.func12, Try.ntmps12
    go_wp2
    go_quiet (fail)
    go_wp2
    go_loop [3, 40] (fun q p => ∃ k : Nat, k ≤ 2 ∧ p = .int .i64 k ∧ q = .int .u64 (num bs k)) (fun _ p => 2 - (intOf p).toNat)
    case atStart => exact ⟨0, Nat.zero_le _, rfl, rfl⟩
    case round =>
      obtain ⟨k, hk, rfl, rfl⟩ := hrel
      by_cases hlt : k < 2
      · have ck := hc (1 + k) (by omega)
        obtain ⟨hy0, hy1⟩ := hb (1 + k)
        have hx0 := (num_bound hb k).1
        have hx1 := num_small hb (k := k) (by omega)
        have hN : Hid (num bs (k + 1) = num bs k * 256 + bs.getD (1 + k) 0) := rfl
        have hO := hidden (or_byte _ _ hx0 hx1 hy0 hy1)
        generalize num bs k = x at *
        generalize bs.getD (1 + k) 0 = y at *
        clear hc hb
        go_wp2
        go_round
        case rel => exact ⟨k + 1, by omega, by go_num, by rw [hN.out, hO.out]⟩
        case measure => simp [intOf]; omega
      · obtain rfl : k = 2 := by omega
        clear hc hb
        by_cases h1 : n = 3
        · subst h1
          go_wp2
          go_region
          go_wp2
          exact bodyPost_ret (v := .tuple #[.int .u8 (z / 32), .int .u64 (num bs 2), .bool false, .slice (some ⟨g, 0, none⟩) 0 0]) (by simp [results, Try.results12]) rfl
            ⟨_, rfl, ⟨_, rfl, fun h => absurd rfl h⟩, (below_drewN (Below.refl _ _) _).drew⟩
        · go_wp2
          go_region
          go_wp2
          exact bodyPost_ret (v := .tuple #[.int .u8 (z / 32), .int .u64 (num bs 2), .bool false, .slice (some ⟨g, 3, none⟩) (n - 3) (n - 3)]) (by simp [results, Try.results12]) rfl
            ⟨_, rfl, ⟨_, rfl, fun _ => rfl⟩, (below_drewN (Below.refl _ _) _).drew⟩
  · go_enter Try.func12, Try.ntmps12
    go_wp2
    go_quiet (fail)
    go_wp2
    go_loop [3, 40] (fun q p => ∃ k : Nat, k ≤ 4 ∧ p = .int .i64 k ∧ q = .int .u64 (num bs k)) (fun _ p => 4 - (intOf p).toNat)
    case atStart => exact ⟨0, Nat.zero_le _, rfl, rfl⟩
    case round =>
      obtain ⟨k, hk, rfl, rfl⟩ := hrel
      by_cases hlt : k < 4
      · have ck := hc (1 + k) (by omega)
        obtain ⟨hy0, hy1⟩ := hb (1 + k)
        have hx0 := (num_bound hb k).1
        have hx1 := num_small hb (k := k) (by omega)
        have hN : Hid (num bs (k + 1) = num bs k * 256 + bs.getD (1 + k) 0) := rfl
        have hO := hidden (or_byte _ _ hx0 hx1 hy0 hy1)
        generalize num bs k = x at *
        generalize bs.getD (1 + k) 0 = y at *
        clear hc hb
        go_wp2
        go_round
        case rel => exact ⟨k + 1, by omega, by go_num, by rw [hN.out, hO.out]⟩
        case measure => simp [intOf]; omega
      · obtain rfl : k = 4 := by omega
        clear hc hb
        by_cases h1 : n = 5
        · subst h1
          go_wp2
          go_region
          go_wp2
          exact bodyPost_ret (v := .tuple #[.int .u8 (z / 32), .int .u64 (num bs 4), .bool false, .slice (some ⟨g, 0, none⟩) 0 0]) (by simp [results, Try.results12]) rfl
            ⟨_, rfl, ⟨_, rfl, fun h => absurd rfl h⟩, (below_drewN (Below.refl _ _) _).drew⟩
        · go_wp2
          go_region
          go_wp2
          exact bodyPost_ret (v := .tuple #[.int .u8 (z / 32), .int .u64 (num bs 4), .bool false, .slice (some ⟨g, 5, none⟩) (n - 5) (n - 5)]) (by simp [results, Try.results12]) rfl
            ⟨_, rfl, ⟨_, rfl, fun _ => rfl⟩, (below_drewN (Below.refl _ _) _).drew⟩
  · go_enter Try.func12, Try.ntmps12
    go_wp2
    go_quiet (fail)
    go_wp2
    go_loop [3, 40] (fun q p => ∃ k : Nat, k ≤ 8 ∧ p = .int .i64 k ∧ q = .int .u64 (num bs k)) (fun _ p => 8 - (intOf p).toNat)
    case atStart => exact ⟨0, Nat.zero_le _, rfl, rfl⟩
    case round =>
      obtain ⟨k, hk, rfl, rfl⟩ := hrel
      by_cases hlt : k < 8
      · have ck := hc (1 + k) (by omega)
        obtain ⟨hy0, hy1⟩ := hb (1 + k)
        have hx0 := (num_bound hb k).1
        have hx1 := num_small hb (k := k) (by omega)
        have hN : Hid (num bs (k + 1) = num bs k * 256 + bs.getD (1 + k) 0) := rfl
        have hO := hidden (or_byte _ _ hx0 hx1 hy0 hy1)
        generalize num bs k = x at *
        generalize bs.getD (1 + k) 0 = y at *
        clear hc hb
        go_wp2
        go_round
        case rel => exact ⟨k + 1, by omega, by go_num, by rw [hN.out, hO.out]⟩
        case measure => simp [intOf]; omega
      · obtain rfl : k = 8 := by omega
        clear hc hb
        by_cases h1 : n = 9
        · subst h1
          go_wp2
          go_region
          go_wp2
          exact bodyPost_ret (v := .tuple #[.int .u8 (z / 32), .int .u64 (num bs 8), .bool false, .slice (some ⟨g, 0, none⟩) 0 0]) (by simp [results, Try.results12]) rfl
            ⟨_, rfl, ⟨_, rfl, fun h => absurd rfl h⟩, (below_drewN (Below.refl _ _) _).drew⟩
        · go_wp2
          go_region
          go_wp2
          exact bodyPost_ret (v := .tuple #[.int .u8 (z / 32), .int .u64 (num bs 8), .bool false, .slice (some ⟨g, 9, none⟩) (n - 9) (n - 9)]) (by simp [results, Try.results12]) rfl
            ⟨_, rfl, ⟨_, rfl, fun _ => rfl⟩, (below_drewN (Below.refl _ _) _).drew⟩

/-- Of a head's first byte: what its number is, how long it is; the head fits into n bytes. -/
def HeadOk (z : Int) (n : Nat) : Prop := (z % 32 < 24 ∧ 1 ≤ n) ∨ (z % 32 = 24 ∧ 2 ≤ n) ∨ (z % 32 = 25 ∧ 3 ≤ n) ∨ (z % 32 = 26 ∧ 5 ≤ n) ∨ (z % 32 = 27 ∧ 9 ≤ n) ∨ (z % 32 = 31 ∧ 1 ≤ n)
/-- The number of a head. -/
def headNum (z : Int) (bs : List Int) : Int := if z % 32 < 24 then z % 32 else if z % 32 = 31 then 0 else num bs (headLen (z % 32) - 1)

/-- What CBORTag answers, whatever head. -/
theorem head_any (g n : Nat) (bs : List Int) (w : World) (z : Int) (hz : 0 ≤ z ∧ z ≤ 255) (c0 : w.cell? ⟨g, 0, none⟩ = some (.int .u8 z)) (hb : IsBytes bs) (hc : ∀ i, i < n → w.cell? ⟨g, i, none⟩ = some (.int .u8 (bs.getD i 0))) (hn2 : n ≤ 1048576) (hok : HeadOk z n) :
    Calls Try.prog 12 #[.slice (some ⟨g, 0, none⟩) n n] w fun e w' => ∃ v x, e = .returned (.tuple #[.int .u8 (z / 32), .int .u64 (headNum z bs), .bool x, v]) ∧ RestAt g n (headLen (z % 32)) v ∧ Below w.heap.size w w' := by
  rcases hok with ⟨h, hn⟩ | ⟨h, hn⟩ | ⟨h, hn⟩ | ⟨h, hn⟩ | ⟨h, hn⟩ | ⟨h, hn⟩
  · refine (head_small g n w z hz c0 hn h).mono ?_
    rintro e w' ⟨v, rfl, hv, hb⟩
    have e1 : headNum z bs = z % 32 := if_pos h
    have e2 : headLen (z % 32) = 1 := by unfold headLen; rw [if_neg (by omega), if_neg (by omega), if_neg (by omega), if_neg (by omega)]
    rw [e1, e2]
    exact ⟨v, _, rfl, hv, hb⟩
  · refine (head_wide g n 1 bs w z hz c0 hb hc (by omega) hn2 (.inl ⟨h, rfl⟩)).mono ?_
    rintro e w' ⟨v, rfl, hv, hb⟩
    have e2 : headLen (z % 32) = 2 := by rw [h]; rfl
    have e1 : headNum z bs = num bs 1 := by unfold headNum; rw [if_neg (by omega), if_neg (by omega), e2]
    rw [e1, e2]
    exact ⟨v, _, rfl, hv, hb⟩
  · refine (head_wide g n 2 bs w z hz c0 hb hc (by omega) hn2 (.inr (.inl ⟨h, rfl⟩))).mono ?_
    rintro e w' ⟨v, rfl, hv, hb⟩
    have e2 : headLen (z % 32) = 3 := by rw [h]; rfl
    have e1 : headNum z bs = num bs 2 := by unfold headNum; rw [if_neg (by omega), if_neg (by omega), e2]
    rw [e1, e2]
    exact ⟨v, _, rfl, hv, hb⟩
  · refine (head_wide g n 4 bs w z hz c0 hb hc (by omega) hn2 (.inr (.inr (.inl ⟨h, rfl⟩)))).mono ?_
    rintro e w' ⟨v, rfl, hv, hb⟩
    have e2 : headLen (z % 32) = 5 := by rw [h]; rfl
    have e1 : headNum z bs = num bs 4 := by unfold headNum; rw [if_neg (by omega), if_neg (by omega), e2]
    rw [e1, e2]
    exact ⟨v, _, rfl, hv, hb⟩
  · refine (head_wide g n 8 bs w z hz c0 hb hc (by omega) hn2 (.inr (.inr (.inr ⟨h, rfl⟩)))).mono ?_
    rintro e w' ⟨v, rfl, hv, hb⟩
    have e2 : headLen (z % 32) = 9 := by rw [h]; rfl
    have e1 : headNum z bs = num bs 8 := by unfold headNum; rw [if_neg (by omega), if_neg (by omega), e2]
    rw [e1, e2]
    exact ⟨v, _, rfl, hv, hb⟩
  · refine (head_open g n w z hz c0 hn h).mono ?_
    rintro e w' ⟨v, rfl, hv, hb⟩
    have e2 : headLen (z % 32) = 1 := by rw [h]; rfl
    have e1 : headNum z bs = 0 := by unfold headNum; rw [if_neg (by omega), if_pos h]
    rw [e1, e2]
    exact ⟨v, _, rfl, hv, hb⟩

/-- A list's bytes are bytes. -/
theorem isBytes_of {bs : List Int} (h : ∀ n ∈ bs, 0 ≤ n ∧ n ≤ 255) : IsBytes bs := fun i => by
  rw [List.getD_eq_getElem?_getD]
  by_cases hi : i < bs.length
  · rw [List.getElem?_eq_getElem hi]; exact h _ (List.getElem_mem hi)
  · rw [List.getElem?_eq_none (by omega)]; exact ⟨Int.le_refl _, by decide⟩

theorem tag_any (g n : Nat) (bs : List Int) (w : World) (hB : Blk w g bs) (hn : bs.length = n) (hb : IsBytes bs) (hn2 : n ≤ 1048576) (hok : HeadOk (bs.getD 0 0) n) :
    Calls Try.prog 8 #[.slice (some ⟨g, 0, none⟩) n n] w fun e w' => ∃ v, e = .returned (.tuple #[.int .u64 (headNum (bs.getD 0 0) bs), v, .bool (bs.getD 0 0 / 32 == 6)]) ∧ RestAt g n (headLen (bs.getD 0 0 % 32)) v ∧ Below w.heap.size w w' := by
  have hn1 : 1 ≤ n := by rcases hok with ⟨_, h⟩ | ⟨_, h⟩ | ⟨_, h⟩ | ⟨_, h⟩ | ⟨_, h⟩ | ⟨_, h⟩ <;> omega
  have hc : ∀ i, i < n → w.cell? ⟨g, i, none⟩ = some (.int .u8 (bs.getD i 0)) := fun i hi => by
    have hi' : i < bs.length := by omega
    rw [hB.cell hi', List.getD_eq_getElem?_getD, List.getElem?_eq_getElem hi']
    rfl
  have H := hidden (head_any g n bs w (bs.getD 0 0) (hb 0) (hc 0 hn1) hb hc hn2 hok)
  clear hc hB hb
  generalize bs.getD 0 0 = z at *
  go_enter Try.func8, Try.ntmps8
  go_wp2_with fail
  refine H.out.mono ?_
  rintro e w' ⟨v, x, rfl, hv, hbel⟩
  go_wp2
  go_ret3
  exact ⟨v, rfl, hv, hbel⟩
end Go.Proofs.Qxb6630173a
