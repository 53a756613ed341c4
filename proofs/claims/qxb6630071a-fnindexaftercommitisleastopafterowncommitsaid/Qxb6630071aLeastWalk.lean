/-
  Seat b6630071a: leastAfterCommit, and the law FnIndexAfterCommitIsLeastOpAfterOwnCommit, walked.
-/
import Derived.Test.Qxb6630071aBytes
import Derived.Test.Qxb6630071aToOps
import Derived.Test.Qxb6630071aIndex
import Derived.Deep.QuietTactic
import Derived.BigQuiet
import Derived.WalkSmall
namespace Go.Proofs.Qxb6630071a
open Go.RowKit Go.Maps

/-- No commit of i's transaction lies among the first j. -/
def NoEarly (R : Nat → Rec) (i j : Nat) : Prop := ∀ t, t < j → ¬ ((R t).k = 3 ∧ (R t).t = (R i).t)
theorem noEarly_zero (R : Nat → Rec) (i : Nat) : NoEarly R i 0 := fun _ ht => absurd ht (Nat.not_lt_zero _)
theorem NoEarly.succ {R : Nat → Rec} {i j : Nat} (h : NoEarly R i j) (hj : ¬ ((R j).k = 3 ∧ (R j).t = (R i).t)) : NoEarly R i (j + 1) := fun t ht => by
  rcases Nat.lt_succ_iff_lt_or_eq.1 ht with hlt | rfl
  · exact h t hlt
  · exact hj
theorem NoEarly.not_comm {R : Nat → Rec} {i : Nat} (h : NoEarly R i i) : ¬ comm R i (R i).t := fun ⟨j, hj, hc⟩ => h j hj hc

/-- None of the first m operations comes behind a commit of its own transaction. -/
def NoneYet (R : Nat → Rec) (m : Nat) : Prop := ∀ i, i < m → ¬ comm R i (R i).t
theorem noneYet_zero (R : Nat → Rec) : NoneYet R 0 := fun _ hi => absurd hi (Nat.not_lt_zero _)
theorem NoneYet.succ {R : Nat → Rec} {m : Nat} (h : NoneYet R m) (hm : NoEarly R m m) : NoneYet R (m + 1) := fun i hi => by
  rcases Nat.lt_succ_iff_lt_or_eq.1 hi with hlt | rfl
  · exact h i hlt
  · exact hm.not_comm
theorem NoneYet.ans {R : Nat → Rec} {n : Nat} (h : NoneYet R n) : Ans R n (-1) := .inl ⟨rfl, h⟩
theorem NoneYet.hit {R : Nat → Rec} {n i j : Nat} (h : NoneYet R i) (hi : i < n) (hj : j < i) (hk : (R j).k = 3) (ht : (R j).t = (R i).t) : Ans R n i :=
  .inr ⟨i, rfl, hi, ⟨j, hj, hk, ht⟩, h⟩

set_option maxRecDepth 100000 in
set_option maxHeartbeats 1000000 in
theorem least_any (b off n cap : Nat) (R : Nat → Rec) (w : World) (hn : n ≤ 4096) (hb : b < w.heap.size) (h : RowAt w b off n R) :
    Calls Try.prog 8 #[.slice (some ⟨b, off, none⟩) n cap] w fun e w' => Gave R n e ∧ Below w.heap.size w w' := by
  go_enter Try.func8, Try.ntmps8
  go_wp2
  go_loopw [4] (fun q wr => ∃ i : Nat, i ≤ n ∧ q = .int .i64 i ∧ NoneYet R i ∧ Below w.heap.size w wr) (fun q _ => n - (intOf q).toNat)
  case atStart => exact ⟨0, Nat.zero_le _, rfl, noneYet_zero R, Below.refl _ _⟩
  case round =>
    obtain ⟨i, hi, rfl, hny, hbr⟩ := hrel
    by_cases hlt : i < n
    · go_wp2
      go_loopw [5] (fun q wx => ∃ j : Nat, j ≤ i ∧ q = .int .i64 j ∧ NoEarly R i j ∧ Below w.heap.size w wx) (fun q _ => i - (intOf q).toNat)
      case atStart => exact ⟨0, Nat.zero_le _, rfl, noEarly_zero R i, hbr⟩
      case round =>
        obtain ⟨j, hj, rfl, hno, hbx⟩ := hrel
        clear hbr
        by_cases hlt' : j < i
        · have hrow := h.below hbx hb
          have c0 := hrow.c0 j (by omega)
          have c1 := hrow.c1 j (by omega)
          have c1i := hrow.c1 i (by omega)
          have i0 : (0 : Int) ≤ (j : Int) := Int.natCast_nonneg _
          have i1 : (j : Int) < (n : Int) := by omega
          have i2 : (0 : Int) ≤ (i : Int) := Int.natCast_nonneg _
          have i3 : (i : Int) < (n : Int) := by omega
          clear hrow
          by_cases hg : ((R j).k == 3) = true
          · by_cases ht : ((R j).t == (R i).t) = true
            · have hit := hidden (hny.hit hlt hlt' (by simpa using hg) (by simpa using ht))
              go_wp2
              go_quiet (fail)
              go_wp2
              go_ret
              exact ⟨⟨_, rfl, hit.out⟩, below_drewN hbx _⟩
            · have ht' : ((R j).t == (R i).t) = false := by simpa using ht
              have hno' := hidden (hno.succ (fun e => ht (by simpa using e.2)))
              clear ht
              go_wp2
              go_quiet (fail)
              go_wp2
              go_roundw
              case rel => exact ⟨j + 1, by omega, by go_num, hno'.out, below_drewN hbx _⟩
              case measure => simp [intOf]; omega
          · have hg' : ((R j).k == 3) = false := by simpa using hg
            have hno' := hidden (hno.succ (fun e => hg (by simpa using e.1)))
            clear hg
            go_wp2
            go_quiet (fail)
            go_wp2
            go_roundw
            case rel => exact ⟨j + 1, by omega, by go_num, hno'.out, below_drewN hbx _⟩
            case measure => simp [intOf]; omega
        · obtain rfl : j = i := by omega
          go_wp2
          go_roundw
          case rel => exact ⟨j + 1, by omega, by go_num, hny.succ hno, hbx⟩
          case measure => simp [intOf]; omega
    · obtain rfl : i = n := by omega
      go_wp2
      go_ret
      exact ⟨⟨_, rfl, hny.ans⟩, hbr⟩

theorem least_none (a : Option Addr) (cap : Nat) (R : Nat → Rec) (w : World) : Calls Try.prog 8 #[.slice a 0 cap] w fun e w' => Gave R 0 e ∧ Below w.heap.size w w' := by
  go_enter Try.func8, Try.ntmps8
  go_wp2
  refine wp_loop_rounds 1 ?_
  rw [rounds_succ]
  go_wp2
  go_ret
  exact ⟨⟨_, rfl, (noneYet_zero R).ans⟩, Below.refl _ _⟩

set_option maxRecDepth 100000 in
set_option maxHeartbeats 1000000 in
theorem law3_any (b off n cap : Nat) (R : Nat → Rec) (w : World) (hn : n ≤ maxLen) (hb : b < w.heap.size) (h : RowAt w b off n R) (hwf : ∀ i, i < n → (Lit.int .i64 (R i).t).wf = true) :
    Calls Try.prog 3 #[.slice (some ⟨b, off, none⟩) n cap] w fun e w' => e = .returned (.bool true) ∧ Below w.heap.size w w' := by
  have B5 := hidden (bytes5 b off n cap R w hn h)
  unfold maxLen at hn
  go_enter Try.func3, Try.ntmps3
  go_wp2_with fail
  refine B5.out.mono ?_
  rintro e w' ⟨⟨x, rfl⟩, rfl⟩
  clear B5
  cases x
  · go_wp2
    go_ret
    exact ⟨rfl, Below.refl _ _⟩
  by_cases h4 : n ≤ 4096
  · go_wp2
    go_loop [3, 4] (fun t i => ∃ (j : Nat) (z : Int), j ≤ n ∧ i = .int .i64 j ∧ t = .int .i64 z) (fun _ i => n - (intOf i).toNat)
    case atStart => exact ⟨0, 0, Nat.zero_le _, rfl, rfl⟩
    case round =>
      obtain ⟨j, z, hj, rfl, rfl⟩ := hrel
      by_cases hlt : j < n
      · have c2 := h.c2 j hlt
        have c4 := h.c4 j hlt
        go_wp2
        case roundEnd =>
          go_round
          case rel => exact ⟨j + 1, _, by omega, by go_num, rfl⟩
          case measure => simp [intOf]; omega
        all_goals (go_ret; exact ⟨rfl, Below.refl _ _⟩)
      · go_wp2_with fail
        refine (toOps_any b off n cap R _ h4 hb h).mono ?_
        rintro e w1 ⟨rfl, hb1, hr1, hs1⟩
        go_wp2_with fail
        refine (index_any _ 0 n n R _ h4 hs1 hr1 hwf).mono ?_
        rintro e w2 ⟨⟨r, rfl, hr⟩, hb2⟩
        have hs2 := hb2.size
        have hb12 := hb1.trans (hb2.mono (by omega))
        go_wp2_with fail
        refine (least_any b off n cap R _ h4 (by omega) (h.below hb12 hb)).mono ?_
        rintro e w3 ⟨⟨p, rfl, hp⟩, hb3⟩
        have hbel := hidden (hb12.trans (hb3.mono (by omega)))
        obtain rfl := hr.uniq hp
        clear hp hb1 hr1 hs1 hb2 hs2 hb3 hb12
        go_wp2
        go_ret
        exact ⟨by simp, hbel.out⟩
  · go_wp2
    go_ret
    exact ⟨rfl, Below.refl _ _⟩

set_option maxRecDepth 100000 in
theorem law3_nil (w : World) :
    Calls Try.prog 3 #[.slice none 0 0] w fun e w' => e = .returned (.bool true) ∧ Below w.heap.size w w' := by
  have R : Nat → Rec := fun _ => ⟨0, 0, ByteArray.empty, false, ByteArray.empty, false, false, 0⟩
  go_enter Try.func3, Try.ntmps3
  go_wp2_with fail
  refine (bytes5_nil none 0 w).mono ?_
  rintro e w' ⟨⟨x, rfl⟩, rfl⟩
  cases x
  · go_wp2
    go_ret
    exact ⟨rfl, Below.refl _ _⟩
  go_wp2
  refine wp_loop_rounds 1 ?_
  rw [rounds_succ]
  go_wp2_with fail
  refine (toOps_nil _).mono ?_
  rintro e w1 ⟨rfl, rfl⟩
  go_wp2_with fail
  refine (index_none none 0 R _).mono ?_
  rintro e w2 ⟨⟨r, rfl, hr⟩, hb2⟩
  go_wp2_with fail
  refine (least_none none 0 R _).mono ?_
  rintro e w3 ⟨⟨p, rfl, hp⟩, hb3⟩
  obtain rfl := hr.uniq hp
  clear hp
  have hbel := hidden (hb2.trans (hb3.mono hb2.size))
  go_wp2
  go_ret
  exact ⟨by simp, hbel.out⟩

set_option maxRecDepth 100000 in
theorem law3_empty (a : Addr) (cap : Nat) (w : World) :
    Calls Try.prog 3 #[.slice (some a) 0 cap] w fun e w' => e = .returned (.bool true) ∧ Below w.heap.size w w' := by
  have R : Nat → Rec := fun _ => ⟨0, 0, ByteArray.empty, false, ByteArray.empty, false, false, 0⟩
  go_enter Try.func3, Try.ntmps3
  go_wp2_with fail
  refine (bytes5_nil (some a) cap w).mono ?_
  rintro e w' ⟨⟨x, rfl⟩, rfl⟩
  cases x
  · go_wp2
    go_ret
    exact ⟨rfl, Below.refl _ _⟩
  go_wp2
  refine wp_loop_rounds 1 ?_
  rw [rounds_succ]
  go_wp2_with fail
  refine (toOps_empty a cap _).mono ?_
  rintro e w1 ⟨rfl, hb1⟩
  go_wp2_with fail
  refine (index_none _ 0 R _).mono ?_
  rintro e w2 ⟨⟨r, rfl, hr⟩, hb2⟩
  go_wp2_with fail
  refine (least_none (some a) cap R _).mono ?_
  rintro e w3 ⟨⟨p, rfl, hp⟩, hb3⟩
  obtain rfl := hr.uniq hp
  clear hp
  have hbel := hidden ((hb1.trans (hb2.mono hb1.size)).trans (hb3.mono (Nat.le_trans hb1.size hb2.size)))
  go_wp2
  go_ret
  exact ⟨by simp, hbel.out⟩
end Go.Proofs.Qxb6630071a
