/-
  Seat b6630071a: the law FnIndexAfterCommitPrefixAgreesAndHasWitness, walked.
-/
import Derived.Test.Qxb6630071aBytes
import Derived.Test.Qxb6630071aToOps
import Derived.Test.Qxb6630071aIndex
import Derived.Deep.QuietTactic
import Derived.BigQuiet
import Derived.WalkSmall
namespace Go.Proofs.Qxb6630071a
open Go.RowKit Go.Maps

/-- No commit of i's transaction lies among the first j. -/
def NoWit (R : Nat → Rec) (i j : Nat) : Prop := ∀ t, t < j → ¬ ((R t).k = 3 ∧ (R t).t = (R i).t)
theorem noWit_zero (R : Nat → Rec) (i : Nat) : NoWit R i 0 := fun _ ht => absurd ht (Nat.not_lt_zero _)
theorem NoWit.succ {R : Nat → Rec} {i j : Nat} (h : NoWit R i j) (hj : ¬ ((R j).k = 3 ∧ (R j).t = (R i).t)) : NoWit R i (j + 1) := fun t ht => by
  rcases Nat.lt_succ_iff_lt_or_eq.1 ht with hlt | rfl
  · exact h t hlt
  · exact hj
theorem NoWit.not_comm {R : Nat → Rec} {i : Nat} (h : NoWit R i i) : ¬ comm R i (R i).t := fun ⟨j, hj, hc⟩ => h j hj hc

set_option maxRecDepth 100000 in
set_option maxHeartbeats 1000000 in
theorem prefix_any (b off n cap : Nat) (R : Nat → Rec) (k : Int) (w : World) (hn : n ≤ maxLen) (hb : b < w.heap.size) (h : RowAt w b off n R) (hwf : ∀ i, i < n → (Lit.int .i64 (R i).t).wf = true) :
    Calls Try.prog 4 #[.slice (some ⟨b, off, none⟩) n cap, .int .i64 k] w fun e w' => e = .returned (.bool true) ∧ Below w.heap.size w w' := by
  have B9 := hidden (bytes9 b off n cap R k w hn h)
  unfold maxLen at hn
  go_enter Try.func4, Try.ntmps4
  go_wp2_with fail
  refine B9.out.mono ?_
  rintro e w' ⟨⟨x, rfl⟩, rfl⟩
  clear B9
  cases x
  · go_wp2
    go_ret
    exact ⟨rfl, Below.refl _ _⟩
  by_cases h4 : n ≤ 4096
  · go_wp2
    go_loop [5, 6] (fun t i => ∃ (j : Nat) (z : Int), j ≤ n ∧ i = .int .i64 j ∧ t = .int .i64 z) (fun _ i => n - (intOf i).toNat)
    case atStart => exact ⟨0, 0, Nat.zero_le _, rfl, rfl⟩
    case round =>
      obtain ⟨j, z, hj, rfl, rfl⟩ := hrel
      by_cases hlt : j < n
      · have c2 := h.c2 j hlt
        have c4 := h.c4 j hlt
        go_wp2
        case roundEnd =>
          go_round
          case rel => exact ⟨j + 1, _, by omega, by go_num, rfl⟩
          case measure => simp [intOf]; omega
        all_goals (go_ret; exact ⟨rfl, Below.refl _ _⟩)
      · by_cases hk : 0 ≤ k ∧ k ≤ n
        · obtain ⟨hk0, hkn⟩ := hk
          obtain ⟨m, rfl⟩ := Int.eq_ofNat_of_zero_le hk0
          go_wp2_with fail
          refine (toOps_any b off n cap R _ h4 hb h).mono ?_
          rintro e w1 ⟨rfl, hb1, hr1, hs1⟩
          go_wp2_with fail
          refine (index_any _ 0 n n R _ h4 hs1 hr1 hwf).mono ?_
          rintro e w2 ⟨⟨r, rfl, hr⟩, hb2⟩
          have hs2 := hb2.size
          have hrng := hr.range
          go_wp2_with fail
          refine (index_any _ 0 m n R _ (by omega) (by omega) ((hr1.below hb2 hs1).take (by omega)) (fun i hi => hwf i (by omega))).mono ?_
          rintro e w3 ⟨⟨p, rfl, hp⟩, hb3⟩
          have hbel := hidden ((hb1.trans (hb2.mono (by omega))).trans (hb3.mono (by omega)))
          have hp' := hp.uniq (hr.cut (m := m) (by omega))
          clear hp hb1 hr1 hs1 hb2 hs2 hb3
          by_cases hrm : r = -1
          · subst hrm
            rw [if_neg (by omega)] at hp'
            subst hp'
            go_wp2
            go_ret
            exact ⟨rfl, hbel.out⟩
          · obtain ⟨i, rfl⟩ := Int.eq_ofNat_of_zero_le (show 0 ≤ r by omega)
            obtain ⟨hin, hc⟩ := hr.comm
            have HC := hidden hc
            clear hc hr
            by_cases him : i < m
            all_goals
              first | rw [if_pos (by omega)] at hp' | rw [if_neg (by omega)] at hp'
              subst hp'
              go_wp2
              go_loopw [12] (fun q wr => ∃ j : Nat, j ≤ i ∧ q = .int .i64 j ∧ NoWit R i j ∧ Below w'.heap.size w' wr) (fun q _ => i - (intOf q).toNat)
              case atStart => exact ⟨0, Nat.zero_le _, rfl, noWit_zero R i, hbel.out⟩
              case round =>
                obtain ⟨j', hj', rfl, hno, hbr⟩ := hrel
                by_cases hlt' : j' < i
                · have hrow := h.below hbr hb
                  have c0 := hrow.c0 j' (by omega)
                  have c1 := hrow.c1 j' (by omega)
                  have c1i := hrow.c1 i (by omega)
                  have i0 : (0 : Int) ≤ (j' : Int) := Int.natCast_nonneg _
                  have i1 : (j' : Int) < (n : Int) := by omega
                  have i2 : (0 : Int) ≤ (i : Int) := Int.natCast_nonneg _
                  have i3 : (i : Int) < (n : Int) := by omega
                  clear hrow
                  by_cases hg : ((R j').k == 3) = true
                  · by_cases ht : ((R j').t == (R i).t) = true
                    · go_wp2
                      go_quiet (fail)
                      go_wp2
                      go_ret
                      exact ⟨rfl, below_drewN hbr _⟩
                    · have ht' : ((R j').t == (R i).t) = false := by simpa using ht
                      have hno' := hidden (hno.succ (fun e => ht (by simpa using e.2)))
                      clear ht
                      go_wp2
                      go_quiet (fail)
                      go_wp2
                      go_roundw
                      case rel => exact ⟨j' + 1, by omega, by go_num, hno'.out, below_drewN hbr _⟩
                      case measure => simp [intOf]; omega
                  · have hg' : ((R j').k == 3) = false := by simpa using hg
                    have hno' := hidden (hno.succ (fun e => hg (by simpa using e.1)))
                    clear hg
                    go_wp2
                    go_quiet (fail)
                    go_wp2
                    go_roundw
                    case rel => exact ⟨j' + 1, by omega, by go_num, hno'.out, below_drewN hbr _⟩
                    case measure => simp [intOf]; omega
                · obtain rfl : j' = i := by omega
                  exact absurd HC.out hno.not_comm
        · go_wp2
          all_goals (go_ret; exact ⟨rfl, Below.refl _ _⟩)
  · go_wp2
    go_ret
    exact ⟨rfl, Below.refl _ _⟩

set_option maxRecDepth 100000 in
theorem prefix_nil (k : Int) (w : World) :
    Calls Try.prog 4 #[.slice none 0 0, .int .i64 k] w fun e w' => e = .returned (.bool true) ∧ Below w.heap.size w w' := by
  have R : Nat → Rec := fun _ => ⟨0, 0, ByteArray.empty, false, ByteArray.empty, false, false, 0⟩
  go_enter Try.func4, Try.ntmps4
  go_wp2_with fail
  refine (bytes9_nil none 0 k w).mono ?_
  rintro e w' ⟨⟨x, rfl⟩, rfl⟩
  cases x
  · go_wp2
    go_ret
    exact ⟨rfl, Below.refl _ _⟩
  go_wp2
  refine wp_loop_rounds 1 ?_
  rw [rounds_succ]
  by_cases hk : k = 0
  · subst hk
    go_wp2_with fail
    refine (toOps_nil _).mono ?_
    rintro e w1 ⟨rfl, rfl⟩
    go_wp2_with fail
    refine (index_none none 0 R _).mono ?_
    rintro e w2 ⟨⟨r, rfl, hr⟩, hb2⟩
    obtain rfl := hr.uniq (.inl ⟨rfl, fun i hi => absurd hi (Nat.not_lt_zero _)⟩)
    clear hr
    go_wp2_with fail
    refine (index_none none 0 R _).mono ?_
    rintro e w3 ⟨⟨p, rfl, hp⟩, hb3⟩
    obtain rfl := hp.uniq (.inl ⟨rfl, fun i hi => absurd hi (Nat.not_lt_zero _)⟩)
    clear hp
    have hbel := hidden (hb2.trans (hb3.mono hb2.size))
    go_wp2
    go_ret
    exact ⟨rfl, hbel.out⟩
  · by_cases hk0 : k < 0
    · go_wp2
      go_ret
      exact ⟨rfl, Below.refl _ _⟩
    · have hk1 : 0 < k := by omega
      go_wp2
      go_ret
      exact ⟨rfl, Below.refl _ _⟩

set_option maxRecDepth 100000 in
theorem prefix_empty (a : Addr) (cap : Nat) (k : Int) (w : World) :
    Calls Try.prog 4 #[.slice (some a) 0 cap, .int .i64 k] w fun e w' => e = .returned (.bool true) ∧ Below w.heap.size w w' := by
  have R : Nat → Rec := fun _ => ⟨0, 0, ByteArray.empty, false, ByteArray.empty, false, false, 0⟩
  go_enter Try.func4, Try.ntmps4
  go_wp2_with fail
  refine (bytes9_nil (some a) cap k w).mono ?_
  rintro e w' ⟨⟨x, rfl⟩, rfl⟩
  cases x
  · go_wp2
    go_ret
    exact ⟨rfl, Below.refl _ _⟩
  go_wp2
  refine wp_loop_rounds 1 ?_
  rw [rounds_succ]
  by_cases hk : k = 0
  · subst hk
    go_wp2_with fail
    refine (toOps_empty a cap _).mono ?_
    rintro e w1 ⟨rfl, hb1⟩
    go_wp2_with fail
    refine (index_none _ 0 R _).mono ?_
    rintro e w2 ⟨⟨r, rfl, hr⟩, hb2⟩
    obtain rfl := hr.uniq (.inl ⟨rfl, fun i hi => absurd hi (Nat.not_lt_zero _)⟩)
    clear hr
    go_wp2_with fail
    refine (index_none _ 0 R _).mono ?_
    rintro e w3 ⟨⟨p, rfl, hp⟩, hb3⟩
    obtain rfl := hp.uniq (.inl ⟨rfl, fun i hi => absurd hi (Nat.not_lt_zero _)⟩)
    clear hp
    have hbel := hidden ((hb1.trans (hb2.mono hb1.size)).trans (hb3.mono (Nat.le_trans hb1.size hb2.size)))
    go_wp2
    go_ret
    exact ⟨rfl, hbel.out⟩
  · by_cases hk0 : k < 0
    · go_wp2
      go_ret
      exact ⟨rfl, Below.refl _ _⟩
    · have hk1 : 0 < k := by omega
      go_wp2
      go_ret
      exact ⟨rfl, Below.refl _ _⟩
end Go.Proofs.Qxb6630071a
