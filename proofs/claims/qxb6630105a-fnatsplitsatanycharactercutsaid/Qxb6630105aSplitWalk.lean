/-
  Seat b6630105a: the law FnAtSplitsAtAnyCharacterCut, walked.
-/
import Derived.Test.Qxb6630105aAt
import Derived.Test.Qxb6630105aSmall
import Derived.Deep.RegionHeld3
import Derived.Deep.QuietTactic
import Derived.BigQuiet
import Derived.OpenShut
namespace Go.Proofs.Qxb6630105a
open Go.RowKit

theorem old_fst (w : World) (o1 o2 : Obj) : ((w.alloc o1).alloc o2).heap[w.heap.size]? = some o1 := by
  show ((w.heap.push o1).push o2)[_]? = _
  rw [Array.getElem?_push, if_neg (by simp), Array.getElem?_push, if_pos rfl]
theorem old_snd (w : World) (o1 o2 : Obj) : ((w.alloc o1).alloc o2).heap[w.heap.size + 1]? = some o2 := by
  show ((w.heap.push o1).push o2)[_]? = _
  rw [Array.getElem?_push, if_pos (by simp)]

theorem past2 {w w1 : World} {o1 o2 : Obj} (hb : Below ((w.alloc o1).alloc o2).heap.size ((w.alloc o1).alloc o2) w1) :
    w1.heap[w.heap.size]? = some o1 ∧ w1.heap[w.heap.size + 1]? = some o2 ∧ w.heap.size + 1 + 1 ≤ w1.heap.size ∧ Below w.heap.size w w1 := by
  have hs : ((w.alloc o1).alloc o2).heap.size = w.heap.size + 1 + 1 := by simp
  rw [hs] at hb
  have hz := hb.size
  rw [hs] at hz
  exact ⟨(hb.block _ (by omega)).trans (old_fst w o1 o2), (hb.block _ (by omega)).trans (old_snd w o1 o2), hz,
    (((Below.refl _ _).alloc (Nat.le_refl _) _).alloc (by simp) _).trans (hb.mono (by omega))⟩

theorem past2d {w w1 : World} {o1 o2 : Obj} (hb : Below ((w.alloc o1).alloc o2).drew.heap.size ((w.alloc o1).alloc o2).drew w1) :
    w1.heap[w.heap.size]? = some o1 ∧ w1.heap[w.heap.size + 1]? = some o2 ∧ w.heap.size + 1 + 1 ≤ w1.heap.size ∧ Below w.heap.size w w1 := by
  have hs : ((w.alloc o1).alloc o2).drew.heap.size = w.heap.size + 1 + 1 := by simp
  rw [hs] at hb
  have hz := hb.size
  rw [hs] at hz
  exact ⟨(hb.block _ (by omega)).trans (old_fst w o1 o2), (hb.block _ (by omega)).trans (old_snd w o1 o2), hz,
    (((Below.refl _ _).alloc (Nat.le_refl _) _).alloc (by simp) _).drew.trans (hb.mono (by omega))⟩

theorem past1 {w w1 : World} {o1 : Obj} (hb : Below (w.alloc o1).heap.size (w.alloc o1) w1) : w1.heap[w.heap.size]? = some o1 ∧ w.heap.size + 1 ≤ w1.heap.size ∧ Below w.heap.size w w1 := by
  have hs : (w.alloc o1).heap.size = w.heap.size + 1 := by simp
  rw [hs] at hb
  have hz := hb.size
  rw [hs] at hz
  refine ⟨(hb.block _ (by omega)).trans ?_, hz, ((Below.refl _ _).alloc (Nat.le_refl _) _).trans (hb.mono (by omega))⟩
  show (w.heap.push o1)[_]? = _
  rw [Array.getElem?_push, if_pos rfl]

theorem bcell {W w1 : World} (hb : Below W.heap.size W w1) : (∀ b o, b < W.heap.size → w1.cell? ⟨b, o, none⟩ = W.cell? ⟨b, o, none⟩) ∧ (∀ b o, b < W.heap.size → w1.frozen? ⟨b, o, none⟩ = W.frozen? ⟨b, o, none⟩) :=
  ⟨fun b o h => hb.cell (p := ⟨b, o, none⟩) h, fun b o h => hb.frozen (p := ⟨b, o, none⟩) h⟩

/-- The head of a list that is cut short is cut where the list is. -/
theorem cut_take {l : List UInt8} (h : Cut l) (n : Nat) : Cut (l.take n) := by
  cases n with
  | zero => exact cut_nil
  | succ n =>
    cases l with
    | nil => exact cut_nil
    | cons x r => simpa [Cut, cont, byteAt] using h

theorem ext_list (s : ByteArray) (a b : Nat) : (s.extract a b).data.toList = (s.data.toList.take b).drop a := by
  rw [ByteArray.data_extract, Array.toList_extract, List.extract_eq_take_drop, List.drop_take]

/-- The place of off, from k on. -/
theorem go_cut_at (s : ByteArray) (k off : Nat) (p : Int × Int) (hk : k ≤ off) (hc : Cut (s.data.toList.drop k)) :
    go ((s.extract k s.size).extract 0 (off - k)).data.toList (go (s.extract 0 k).data.toList p) = go (s.extract 0 off).data.toList p := by
  have e1 : ((s.extract k s.size).extract 0 (off - k)).data.toList = (s.data.toList.drop k).take (off - k) := by
    rw [ext_list, ext_list, List.drop_zero, List.take_of_length_le (i := s.size) (by rw [Array.length_toList]; exact Nat.le_refl _)]
  have e2 : (s.extract 0 off).data.toList = (s.extract 0 k).data.toList ++ (s.data.toList.drop k).take (off - k) := by
    rw [ext_list, ext_list, List.drop_zero, List.drop_zero, ← List.take_add]
    congr 1
    omega
  rw [e1, e2]
  exact (go_append step _ _ p (cut_take hc _)).symm

theorem cut_at (s : ByteArray) (k : Nat) (hk : k < s.size) (h : (s[k].toNat : Int) < 128 ∨ 191 < (s[k].toNat : Int)) : Cut (s.data.toList.drop k) := by
  have e : byteAt (s.data.toList.drop k) 0 = s[k].toNat := by
    simp only [byteAt, List.getD_eq_getElem?_getD, List.getElem?_drop, Nat.add_zero, Array.getElem?_toList]
    rw [Array.getElem?_eq_getElem hk]
    rfl
  have h2 : (s[k].toNat / 64 == 2) = false := by
    rw [beq_eq_false_iff_ne]
    omega
  unfold Cut cont
  rw [e, h2, Bool.and_false]
theorem cut_end (s : ByteArray) (k : Nat) (hk : ¬ k < s.size) : Cut (s.data.toList.drop k) := by
  rw [List.drop_eq_nil_of_le (by rw [Array.length_toList]; show s.size ≤ k; omega)]
  exact cut_nil
theorem wrap_of_wf {n : Int} (h : (Lit.int .i64 n).wf = true) : wrap64 n = n := by
  obtain ⟨h1, h2⟩ := bounds_i64 h
  unfold wrap64
  omega

set_option maxRecDepth 100000 in
set_option maxHeartbeats 1000000 in
theorem splits_any (a0 a1 a2 a5 : ByteArray) (a3 a4 a6 a7 a8 a9 : Int) (w : World) (w6 : (Lit.int .i64 a6).wf = true) :
    Calls Try.prog 4 #[.string a0, .string a1, .string a2, .int .i64 a3, .int .i64 a4, .string a5, .int .i64 a6, .int .i64 a7, .int .i64 a8, .int .i64 a9] w fun e w' => e = .returned (.bool true) ∧ Below w.heap.size w w' := by
  go_enter Try.func4, Try.ntmps4
  go_wp2_with fail
  refine (bytes9 a0 a1 a2 a5 a3 a4 a6 a7 a8 a9 _).mono ?_
  rintro e w' ⟨⟨x, rfl⟩, rfl⟩
  cases x
  · go_wp2
    go_ret
    exact ⟨rfl, Below.refl _ _⟩
  by_cases g0 : a0.size ≤ 262144
  · by_cases g1 : a1.size ≤ 262144
    · by_cases g2 : a2.size ≤ 262144
      · by_cases g5 : a5.size ≤ 262144
        · by_cases hk : 0 ≤ a8 ∧ a8 ≤ a9 ∧ a9 ≤ a1.size
          · obtain ⟨hk0, hk1, hk2⟩ := hk
            obtain ⟨k, rfl⟩ := Int.eq_ofNat_of_zero_le hk0
            obtain ⟨off, rfl⟩ := Int.eq_ofNat_of_zero_le (Int.le_trans hk0 hk1)
            go_wp2_with fail
            · go_ret
              exact ⟨rfl, Below.refl _ _⟩
            all_goals
              have hcut : Cut (a1.data.toList.drop k) := by first | exact cut_at a1 k (by assumption) (.inr (by assumption)) | exact cut_at a1 k (by assumption) (.inl (by assumption)) | exact cut_end a1 k (by assumption)
              have E1 := hidden (go_cut_at a1 k off (a6, a7) (by omega) hcut)
              have E2 := hidden (go_line _ (a1.extract 0 k).data.toList (a6, a7) (Nat.le_refl _) (wrap_of_wf w6))
              refine (at_any a0 a1 a2 a5 a3 a4 a6 a7 k _ (by omega) g1).mono ?_
              rintro e w1 ⟨rfl, hb1⟩
              obtain ⟨hN, hQ, hz1, hB1⟩ := past2 hb1
              have hlt1 : w'.heap.size < w1.heap.size := by omega
              have hlt2 : w'.heap.size + 1 < w1.heap.size := by omega
              have hks : k ≤ a1.size := by omega
              have n0 := cell_of_row w1 _ 0 _ _ _ hN
              have n1 := cell_of_row w1 _ 1 _ _ _ hN
              have n2 := cell_of_row w1 _ 2 _ _ _ hN
              have p0 := cell_of_row w1 _ 0 _ _ _ hQ
              have p1 := cell_of_row w1 _ 1 _ _ _ hQ
              have p2 := cell_of_row w1 _ 2 _ _ _ hQ
              have p3 := cell_of_row w1 _ 3 _ _ _ hQ
              have p4 := cell_of_row w1 _ 4 _ _ _ hQ
              have p5 := cell_of_row w1 _ 5 _ _ _ hQ
              have p6 := cell_of_row w1 _ 6 _ _ _ hQ
              have p7 := cell_of_row w1 _ 7 _ _ _ hQ
              have p8 := cell_of_row w1 _ 8 _ _ _ hQ
              have HN := hidden hN
              have HQ := hidden hQ
              have HB1 := hidden hB1
              clear hN hQ hb1 hB1
              generalize hP : go (a1.extract 0 k).data.toList (a6, a7) = P at *
              clear hP
              obtain ⟨L1, C1⟩ := P
              go_wp2_with fail
              go_region
              clear n0 n1 n2
              go_wp2_with fail
              refine (at_any a0 a1 a2 a5 a3 a4 a6 a7 off _ (by omega) g1).mono ?_
              rintro e w2 ⟨rfl, hb2⟩
              obtain ⟨hM, hQ2, hz2, hB2⟩ := past2d hb2
              have q0 := cell_of_row w2 _ 0 _ _ _ hQ2
              have q1 := cell_of_row w2 _ 1 _ _ _ hQ2
              have q2 := cell_of_row w2 _ 2 _ _ _ hQ2
              have q3 := cell_of_row w2 _ 3 _ _ _ hQ2
              have q4 := cell_of_row w2 _ 4 _ _ _ hQ2
              have q5 := cell_of_row w2 _ 5 _ _ _ hQ2
              have q6 := cell_of_row w2 _ 6 _ _ _ hQ2
              have q7 := cell_of_row w2 _ 7 _ _ _ hQ2
              have q8 := cell_of_row w2 _ 8 _ _ _ hQ2
              have lt3 : w1.heap.size < w2.heap.size := by omega
              have lt4 : w1.heap.size + 1 < w2.heap.size := by omega
              have HB2 := hidden hB2
              have HM := hidden hM
              clear hb2 hQ2 hM hB2 p0 p1 p2 p3 p4 p5 p6 p7 p8
              generalize hW : go (a1.extract 0 off).data.toList (a6, a7) = W at *
              clear hW
              obtain ⟨L2, C2⟩ := W
              go_wp2_with fail
              rw [show ((off : Int) - (k : Int)) = ((off - k : Nat) : Int) by omega]
              refine (at_any a0 (a1.extract k a1.size) a2 a5 a3 a4 L1 C1 (off - k) _ (by simp; omega) (by simp; omega)).mono ?_
              rw [E1.out]
              rintro e w3 ⟨rfl, hb3⟩
              obtain ⟨hW3, hz3, hB3⟩ := past1 hb3
              have hM3 := (hB3.block _ lt3).trans HM.out
              have m0 := cell_of_row w3 _ 0 _ _ _ hM3
              have m1 := cell_of_row w3 _ 1 _ _ _ hM3
              have x0 := cell_of_row w3 _ 0 _ _ _ hW3
              have x1 := cell_of_row w3 _ 1 _ _ _ hW3
              have x2 := cell_of_row w3 _ 2 _ _ _ hW3
              have lt5 : w2.heap.size < w3.heap.size := by omega
              have lt6 : w1.heap.size < w3.heap.size := by omega
              have hnx : (a1.extract 0 k).size ≤ 262144 := by simp; omega
              have hbel := hidden ((HB1.out.trans (HB2.out.mono (by omega))).trans (hB3.mono (by omega)))
              have hE2 : L1 = wrap64 (a6 + nl (a1.extract 0 k).data.toList) := E2.out
              clear hb3 hW3 hM3 hB3 q0 q1 q2 q3 q4 q5 q6 q7 q8
              subst hE2
              go_wp2_with fail
              go_quiet ((go_at_call 8; exact Calls.quiet_of_same (newlines_any _ _ hnx)))
              go_wp2
              go_ret
              exact ⟨rfl, below_drewN (hbel.out.alloc hbel.out.size _) _⟩
          · go_wp2
            all_goals (go_ret; exact ⟨rfl, Below.refl _ _⟩)
        · go_wp2
          go_ret
          exact ⟨rfl, Below.refl _ _⟩
      · go_wp2
        go_ret
        exact ⟨rfl, Below.refl _ _⟩
    · go_wp2
      go_ret
      exact ⟨rfl, Below.refl _ _⟩
  · go_wp2
    go_ret
    exact ⟨rfl, Below.refl _ _⟩
end Go.Proofs.Qxb6630105a
