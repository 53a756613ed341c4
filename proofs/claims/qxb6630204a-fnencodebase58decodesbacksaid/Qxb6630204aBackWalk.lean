/-
  Seat b6630204a: the law FnEncodeBase58DecodesBack, walked.
-/
import Derived.Test.Qxb6630204aDecode
import Derived.Test.Qxb6630204aNone
namespace Go.Proofs.Qxb6630204a
open Go.RowKit

/-- A slice that came in, read. -/
def Src (w : World) (x : Addr) (n : Nat) (bs : List Nat) : Prop := bs.length = n ∧ ∀ i, i < n → w.cell? (x.add i) = some (.int .u8 (bs.getD i 0 : Int))

theorem splice_all {n : Nat} {bs : List Nat} (hl : bs.length = n) : splice (vals (List.replicate n 0)) 0 (vals bs) = vals bs := by
  simp [splice, vals_length, hl]

theorem back_big (a : Option Addr) (n c : Nat) (w : World) (hn : ¬ n ≤ 4096) : Calls Try.prog 4 #[.slice a n c] w fun e w' => e = .returned (.bool true) ∧ Below w.heap.size w w' := by
  go_enter Try.func4, Try.ntmps4
  go_wp2_with fail
  refine (bytes8 _ _ _ _).mono ?_
  rintro e w' ⟨⟨x, rfl⟩, rfl⟩
  cases x
  · go_wp2
    go_ret
    exact ⟨rfl, Below.refl _ _⟩
  go_wp2
  go_ret
  exact ⟨rfl, Below.refl _ _⟩

theorem back_nil (w : World) : Calls Try.prog 4 #[.slice none 0 0] w fun e w' => e = .returned (.bool true) ∧ Below w.heap.size w w' := by
  have hnil : ∀ (w : World) (a : Option Addr) (n c n' c' : Nat), (binOp .neq 22 (.slice a n c) (.slice none n' c')).run Try.prog w = .ok (.bool (!a.isNone)) w := fun w a n c n' c' => run_neq_slice_nil_any w _ _ a n c n' c' Try.underlying22
  go_enter Try.func4, Try.ntmps4
  go_wp2_with fail
  refine (bytes8 _ _ _ _).mono ?_
  rintro e w' ⟨⟨x, rfl⟩, rfl⟩
  cases x
  · go_wp2
    go_ret
    exact ⟨rfl, Below.refl _ _⟩
  go_wp2_with fail
  refine (encode_none _ _).mono ?_
  rintro e w1 ⟨rfl, hb1⟩
  have hD := decode_any 0 0 [] [] w1 (by decide) rfl (fun d hd => (by cases hd)) ⟨Nat.le_refl _, fun i h => absurd h (Nat.not_lt_zero _), fun h => absurd h (Nat.lt_irrefl _)⟩ ⟨fun d hd => (by cases hd), rfl, .inl rfl⟩
  have hsz : (strOf (text 0 [])).size = 0 := rfl
  generalize strOf (text 0 []) = st at *
  go_wp2_with fail
  refine hD.mono ?_
  rintro e w2 ⟨g, rfl, hB, hb2⟩
  go_wp2_with fail
  refine (same_none _ _ _ _ _).mono ?_
  rintro e w3 ⟨rfl, hb3⟩
  go_wp2
  go_ret
  exact ⟨rfl, (hb1.trans (hb2.mono hb1.size)).trans (hb3.mono (Nat.le_trans hb1.size hb2.size))⟩

set_option maxRecDepth 100000 in
set_option maxHeartbeats 1000000 in
theorem back_some (x : Addr) (n c : Nat) (bs : List Nat) (w : World) (hn : n ≤ 4096) (hs : Src w x n bs) (h256 : ∀ d ∈ bs, d < 256) (hb : 0 < n → x.block < w.heap.size) :
    Calls Try.prog 4 #[.slice (some x) n c] w fun e w' => e = .returned (.bool true) ∧ Below w.heap.size w w' := by
  obtain ⟨i0, hi0, hz0, hz1, hz2⟩ := info_parts Try.info5
  have hnil : ∀ (w : World) (a : Option Addr) (n c n' c' : Nat), (binOp .neq 22 (.slice a n c) (.slice none n' c')).run Try.prog w = .ok (.bool (!a.isNone)) w := fun w a n c n' c' => run_neq_slice_nil_any w _ _ a n c n' c' Try.underlying22
  obtain ⟨hl, hc⟩ := hs
  have HL := hidden hl
  have HC := hidden hc
  clear hl hc
  go_enter Try.func4, Try.ntmps4
  go_wp2_with fail
  refine (bytes8 _ _ _ _).mono ?_
  rintro e w' ⟨⟨z, rfl⟩, rfl⟩
  cases z
  · go_wp2
    go_ret
    exact ⟨rfl, Below.refl _ _⟩
  go_wp2_with (first
    | (at_make; refine wpList_make_full _ rfl _ _ 22 rfl w'.heap.size 5 i0 _ 1 Try.underlying22 hi0 hz0 hz1 .i64 .i64 n n n rfl rfl rfl rfl (by rw [hz2]; omega) (by unfold maxLen; omega) (Nat.le_refl _) ?_; intro w1 hown hgrow; have HT := hidden (fresh_row hown))
    | (refine wpList_copy_splice rfl (.tmp 18) (.tmp 19) 22 22 rfl 5 Try.underlying22 Try.size5 _ _ _ _ _ _ rfl rfl w'.heap.size 0 (vals (List.replicate n 0)) 5 HT.out (vals bs) ?c1 ?c2 ?c3 (vals_one bs) w'.heap.size w' ?c4 (Nat.le_refl _) ?_)
    | fail)
  case c1 => rw [vals_length, HL.out]; exact (Nat.min_self n).symm
  case c2 =>
    intro h0
    rw [vals_length, HL.out] at h0
    intro j v hv
    have hbel : Below w'.heap.size w' w1 := (Below.refl _ _).grown hgrow (Nat.le_refl _) (fun j hj => by cases hj)
    have hj : j < n := by
      have := (List.getElem?_eq_some_iff.1 hv).1
      rw [vals_length, HL.out] at this
      exact this
    rw [hbel.cell (p := x.add j) (by have := hb h0; unfold Addr.add; split <;> exact this), HC.out j hj, ← hv, vals_get (by rw [HL.out]; exact hj), getD_eq]
  case c3 => rw [vals_length, HL.out, vals_length, List.length_replicate]; omega
  case c4 => exact (Below.refl _ _).grown hgrow (Nat.le_refl _) (fun j hj => by cases hj)
  intro w2 hB2 hb2
  have HB2 : Hid (Blk w2 w'.heap.size bs) := by
    have := hB2.out
    rw [splice_all HL.out] at this
    exact this
  clear hB2 HT hown hgrow
  have hs2 := HB2.out.lt
  by_cases h0 : 1 ≤ n
  · go_wp2_with fail
    refine (encode_any _ n bs _ h0 hn HL.out h256 HB2.out).mono ?_
    rintro e w3 ⟨k, ds, hk, hds, rfl, hb3⟩
    have hD := hidden (decode_any k n ds bs w3 hn HL.out h256 hk hds)
    have hge := len_ge HL.out hk hds
    have hle := len_le HL.out h256 hk hds
    have hsz : (strOf (text k ds)).size = k + ds.length := by rw [strOf_size, text_length]
    have hs3 := hb3.size
    have HB3 := hidden (HB2.out.below hb3 hs2)
    obtain ⟨q, eq⟩ : ∃ q, q = k + ds.length := ⟨_, rfl⟩
    rw [← eq] at hge hle hsz
    clear eq hk hds
    generalize strOf (text k ds) = st at *
    rw [← hsz] at hge hle
    clear hsz
    go_wp2_with fail
    refine hD.out.mono ?_
    rintro e w4 ⟨g, rfl, hB4, hb4⟩
    have HB4 := hidden (HB3.out.below hb4 (by omega))
    go_wp2_with fail
    refine (same_any _ _ n bs _ (by omega) HL.out hB4 HB4.out).mono ?_
    rintro e w5 ⟨rfl, hb5⟩
    go_wp2
    go_ret
    exact ⟨rfl, ((hb2.trans (hb3.mono (by omega))).trans (hb4.mono (by omega))).trans (hb5.mono (by have := hb4.size; omega))⟩
  · obtain rfl : n = 0 := by omega
    go_wp2_with fail
    refine (encode_none _ _).mono ?_
    rintro e w3 ⟨rfl, hb3⟩
    have hs3 := hb3.size
    have hD := hidden (decode_any 0 0 [] [] w3 (by decide) rfl (fun d hd => (by cases hd)) ⟨Nat.le_refl _, fun i h => absurd h (Nat.not_lt_zero _), fun h => absurd h (Nat.lt_irrefl _)⟩ ⟨fun d hd => (by cases hd), rfl, .inl rfl⟩)
    have hsz : (strOf (text 0 [])).size = 0 := rfl
    generalize strOf (text 0 []) = st at *
    go_wp2_with fail
    refine hD.out.mono ?_
    rintro e w4 ⟨g, rfl, hB4, hb4⟩
    go_wp2_with fail
    refine (same_none _ _ _ _ _).mono ?_
    rintro e w5 ⟨rfl, hb5⟩
    go_wp2
    go_ret
    exact ⟨rfl, ((hb2.trans (hb3.mono (by omega))).trans (hb4.mono (by omega))).trans (hb5.mono (by have := hb4.size; omega))⟩
end Go.Proofs.Qxb6630204a
