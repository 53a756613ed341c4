/-
  Seat b6630071a: IndexAfterCommit: the least index behind a commit of its own transaction.
-/
import Derived.Test.Qxb6630071aProg
import Derived.Test.Qxb6630071aMem
import Derived.WalkSpells
import Derived.KernelRfl
namespace Go.Proofs.Qxb6630071a
open Go.RowKit Go.Maps

theorem law3 : Keyed Try.prog 3 := int_keyed Try.underlying3
theorem zero4 (w : World) : (zeroValue 4).run Try.prog w = .ok (.bool false) w := by kernel_rfl

/-- What the loop knows after k rounds. -/
structure Seen (R : Nat → Rec) (k : Nat) (p : Int → Bool) : Prop where
  none : ∀ i, i < k → ¬ comm R i (R i).t
  keys : ∀ x, p x = true ↔ comm R k x

theorem seen_zero (R : Nat → Rec) : Seen R 0 (fun _ => false) := ⟨fun i hi => absurd hi (Nat.not_lt_zero _), fun x => ⟨fun h => by simp at h, fun ⟨j, hj, _⟩ => absurd hj (Nat.not_lt_zero _)⟩⟩
theorem Seen.commit {R : Nat → Rec} {k : Nat} {p : Int → Bool} (h : Seen R k p) (hp : p (R k).t = false) (hk : (R k).k = 3) : Seen R (k + 1) (fun x => p x || x == (R k).t) := by
  refine ⟨fun i hi => ?_, fun x => ?_⟩
  · rcases Nat.lt_succ_iff_lt_or_eq.1 hi with hlt | rfl
    · exact h.none i hlt
    · intro hc; rw [(h.keys _).2 hc] at hp; cases hp
  · rw [comm_succ, ← h.keys x]
    simp only [Bool.or_eq_true, beq_iff_eq, hk, true_and]
    exact or_congr Iff.rfl ⟨Eq.symm, Eq.symm⟩
theorem Seen.other {R : Nat → Rec} {k : Nat} {p : Int → Bool} (h : Seen R k p) (hp : p (R k).t = false) (hk : (R k).k ≠ 3) : Seen R (k + 1) p := by
  refine ⟨fun i hi => ?_, fun x => ?_⟩
  · rcases Nat.lt_succ_iff_lt_or_eq.1 hi with hlt | rfl
    · exact h.none i hlt
    · intro hc; rw [(h.keys _).2 hc] at hp; cases hp
  · rw [comm_succ, ← h.keys x]
    simp [hk]
theorem Seen.hit {R : Nat → Rec} {n k : Nat} {p : Int → Bool} (h : Seen R k p) (hk : k < n) (hp : p (R k).t = true) : Ans R n k :=
  .inr ⟨k, rfl, hk, (h.keys _).1 hp, h.none⟩
theorem Seen.done {R : Nat → Rec} {n : Nat} {p : Int → Bool} (h : Seen R n p) : Ans R n (-1) := .inl ⟨rfl, h.none⟩

/-- The call gave back the answer. -/
def Gave (R : Nat → Rec) (n : Nat) (e : Ending) : Prop := ∃ r, e = .returned (.int .i64 r) ∧ Ans R n r

set_option maxRecDepth 100000 in
set_option maxHeartbeats 800000 in
theorem index_any (b off n cap : Nat) (R : Nat → Rec) (w : World) (hn : n ≤ 4096) (hb : b < w.heap.size) (h : RowAt w b off n R) (hwf : ∀ i, i < n → (Lit.int .i64 (R i).t).wf = true) :
    Calls Try.prog 7 #[.slice (some ⟨b, off, none⟩) n cap] w fun e w' => Gave R n e ∧ Below w.heap.size w w' := by
  have hmm := @run_makeMap Try.prog
  go_enter Try.func7, Try.ntmps7
  go_wp2
  go_loopw [9] (fun i wr => ∃ (k : Nat) (D : DataW Unit) (p : Int → Bool), k ≤ n ∧ i = .int .i64 k ∧ wr.ownsMap Try.prog 3 (plainElem Try.prog 4) w.heap.size k D ∧ Holds D p ∧ Seen R k p ∧ Below w.heap.size w wr ∧ w.heap.size < wr.heap.size)
    (fun i _ => n - (intOf i).toNat)
  case atStart => exact ⟨0, .map [], _, Nat.zero_le _, rfl, World.ownsMap_made _ _ _ _, holds_empty, seen_zero R, (Below.refl _ _).alloc (Nat.le_refl _) _, by simp⟩
  case round =>
    obtain ⟨k, D, p, hk, rfl, hown, hD, hS, hbr, hszr⟩ := hrel
    by_cases hlt : k < n
    · have hr := h.below hbr hb
      have c0 := hr.c0 k hlt
      have c1 := hr.c1 k hlt
      have c2 := hr.c2 k hlt
      have c3 := hr.c3 k hlt
      have c4 := hr.c4 k hlt
      have c5 := hr.c5 k hlt
      have c6 := hr.c6 k hlt
      have c7 := hr.c7 k hlt
      have hkey : keyOf Try.prog 3 (.int .i64 (R k).t) = some (.int .i64 (R k).t) := keyOf_int_mk Try.underlying3 (hwf k hlt)
      have hat := hD.at_ (R k).t
      clear hr
      go_wp2_with (first
        | (at_lookup; refine wpList_lookup_own_bool _ rfl _ _ 34 rfl 3 4 law3 Try.underlying34 Try.underlying4 (zero4 _) w.heap.size k D rfl (hown.alloc _) _ _ rfl hkey _ hat ?_)
        | (at_mapUpdate; refine wpList_mapUpdate_own _ rfl _ _ _ 34 rfl 3 4 law3 Try.underlying34 _ w.heap.size k _ rfl (hown.alloc _) (by unfold maxLen; omega) _ _ _ rfl rfl hkey _ [] (plainElem_bool Try.underlying4 _) ?_; intro w1 hown1 hgrow1)
        | go_in)
      · have hp : p (R k).t = true := by assumption
        go_ret
        exact ⟨⟨_, rfl, hS.hit hlt hp⟩, hbr.alloc hbr.size _⟩
      · have hp : p (R k).t = false := by assumption
        have hk3 : (R k).k = 3 := by simpa using (show ((R k).k == 3) = true by assumption)
        go_roundw
        case rel => exact ⟨k + 1, _, _, by omega, by go_num, hown1, hD.put _, hS.commit hp hk3, (hbr.alloc hbr.size _).grown hgrow1 (by simp; omega) (fun j hj => by cases hj; exact Nat.le_refl _), by have := hgrow1.size; simp at this; omega⟩
        case measure => simp [intOf]; omega
      · have hp : p (R k).t = false := by assumption
        have hk3 : (R k).k ≠ 3 := by simpa using (show ((R k).k == 3) = false by assumption)
        go_roundw
        case rel => exact ⟨k + 1, D, p, by omega, by go_num, (hown.alloc _).mono (by omega), hD, hS.other hp hk3, hbr.alloc hbr.size _, by simp; omega⟩
        case measure => simp [intOf]; omega
    · go_wp2
      go_ret
      obtain rfl : k = n := by omega
      exact ⟨⟨_, rfl, hS.done⟩, hbr⟩

/-- .. of no operations. -/
theorem index_none (a : Option Addr) (cap : Nat) (R : Nat → Rec) (w : World) : Calls Try.prog 7 #[.slice a 0 cap] w fun e w' => Gave R 0 e ∧ Below w.heap.size w w' := by
  have hmm := @run_makeMap Try.prog
  go_enter Try.func7, Try.ntmps7
  go_wp2
  refine wp_loop_rounds 1 ?_
  rw [rounds_succ]
  go_wp2
  go_ret
  exact ⟨⟨_, rfl, (seen_zero R).done⟩, (Below.refl _ _).alloc (Nat.le_refl _) _⟩

end Go.Proofs.Qxb6630071a
