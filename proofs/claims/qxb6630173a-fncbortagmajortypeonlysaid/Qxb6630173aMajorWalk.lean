/-
  Seat b6630173a: the law FnCBORTagMajorTypeOnly, walked.
-/
import Derived.Test.Qxb6630173aHead
namespace Go.Proofs.Qxb6630173a
open Go.RowKit

theorem headLen_le (i : Int) : 1 ≤ headLen i ∧ headLen i ≤ 9 := by
  unfold headLen
  repeat' split
  all_goals omega

theorem headOk_of {z : Int} {n : Nat} (h : z % 32 < 28) (hn : headLen (z % 32) ≤ n) : HeadOk z n := by
  unfold headLen at hn
  unfold HeadOk
  repeat' split at hn
  all_goals omega

theorem num_set (bs : List Int) (x : Int) : ∀ k, num (bs.set 0 x) k = num bs k
  | 0 => rfl
  | k + 1 => by
    simp only [num]
    rw [num_set bs x k, List.getD_eq_getElem?_getD, List.getD_eq_getElem?_getD, List.getElem?_set_ne (by omega)]

theorem or_info (m i : Int) (hm : 0 ≤ m ∧ m ≤ 7) (hi : 0 ≤ i ∧ i ≤ 31) : bits .or .u8 (m * 32) i = m * 32 + i := by
  obtain ⟨a, rfl⟩ := Int.eq_ofNat_of_zero_le hm.1
  obtain ⟨b, rfl⟩ := Int.eq_ofNat_of_zero_le hi.1
  have key : ∀ (a : Fin 8) (b : Fin 32), bits .or .u8 ((a.val : Int) * 32) (b.val : Int) = (a.val : Int) * 32 + (b.val : Int) := by decide +kernel
  exact key ⟨a, by omega⟩ ⟨b, by omega⟩

theorem isBytes_set {bs : List Int} (h : IsBytes bs) {x : Int} (h0 : 0 ≤ x) (h1 : x ≤ 255) : IsBytes (bs.set 0 x) := fun i => by
  have hi := h i
  rw [List.getD_eq_getElem?_getD] at hi ⊢
  by_cases e : i = 0
  · subst e
    by_cases hl : 0 < bs.length
    · rw [List.getElem?_set_self hl]; exact ⟨h0, h1⟩
    · rw [List.getElem?_eq_none (by rw [List.length_set]; omega)]; exact ⟨Int.le_refl _, by decide⟩
  · rw [List.getElem?_set_ne (by omega)]; exact hi
theorem headOk_same {z z' : Int} {n : Nat} (h : HeadOk z n) (e : z' % 32 = z % 32) : HeadOk z' n := by
  unfold HeadOk at h ⊢
  rw [e]
  exact h

set_option maxRecDepth 100000 in
set_option maxHeartbeats 1000000 in
theorem major_any (b off n c : Nat) (bs : List Int) (m : Int) (w : World) (hn1 : 1 ≤ n) (hl : bs.length = n) (hb : IsBytes bs) (hm : 0 ≤ m ∧ m ≤ 255) (hS : Src w (some ⟨b, off, none⟩) n bs) (hbw : b < w.heap.size) (hnm : n ≤ maxLen) :
    Calls Try.prog 4 #[.slice (some ⟨b, off, none⟩) n c, .int .u8 m] w fun e w' => e = .returned (.bool true) ∧ Below w.heap.size w w' := by
  unfold maxLen at hnm
  obtain ⟨hm0, hm1⟩ := hm
  have hz := hb 0
  have cz : w.cell? ⟨b, off, none⟩ = some (.int .u8 (bs.getD 0 0)) := by
    have := hS.cell (i := 0) hn1
    rw [List.getD_eq_getElem?_getD, List.getElem?_eq_getElem (by omega)]
    exact this
  obtain ⟨z, ez⟩ : ∃ z, z = bs.getD 0 0 := ⟨_, rfl⟩
  rw [← ez] at cz hz
  have EZ := hidden ez
  clear ez
  obtain ⟨hz0, hz1⟩ := hz
  go_enter Try.func4, Try.ntmps4
  go_wp2_with fail
  refine (bytes11 _ _ _ _ _).mono ?_
  rintro e w' ⟨⟨x, rfl⟩, rfl⟩
  cases x
  · go_wp2
    go_ret
    exact ⟨rfl, Below.refl _ _⟩
  by_cases hbig : n ≤ 1048576
  · by_cases hm7 : m ≤ 7
    · have hl0 : (0 : Int) < (n : Int) := by omega
      by_cases hi : z % 32 < 28
      · go_wp2_with fail
        refine (headLen_any _ _).mono ?_
        rintro e w'' ⟨rfl, rfl⟩
        have hh := headLen_le (z % 32)
        obtain ⟨hh1, hh9⟩ := hh
        by_cases hnl : headLen (z % 32) ≤ n
        · have hok := hidden (headOk_of hi hnl)
          obtain ⟨h, eh⟩ : ∃ h, h = headLen (z % 32) := ⟨_, rfl⟩
          rw [← eh] at hnl hh1 hh9 ⊢
          have EH := hidden eh
          clear eh
          go_wp2_with fail
          refine (clone_any _ n c bs _ hbig hS (fun _ => hbw)).mono ?_
          rintro e w1 ⟨rfl, hB1, hb1⟩
          have hs1 := hB1.lt
          go_wp2_with fail
          refine (clone_any _ n n bs _ hbig (by have := hB1.src 0; rwa [Nat.sub_zero, List.drop_zero, hl] at this) (fun _ => hs1)).mono ?_
          rintro e w2 ⟨rfl, hB2, hb2⟩
          have hB1' := hB1.below hb2 hs1
          have hs2 := hB2.lt
          have hs12 := hb2.size
          go_wp2_with fail
          refine (clone_any _ n n bs _ hbig (by have := hB1'.src 0; rwa [Nat.sub_zero, List.drop_zero, hl] at this) (fun _ => Nat.lt_of_lt_of_le hs1 hs12)).mono ?_
          rintro e w3 ⟨rfl, hB3, hb3⟩
          have hs23 := hb3.size
          have hB1'' := hB1'.below hb3 (by omega)
          have hB2' := hB2.below hb3 hs2
          have hs3 := hB3.lt
          have f3 := hB3.frozen 0
          have c3 : w3.cell? ⟨w2.heap.size, 0, none⟩ = some (.int .u8 z) := by
            rw [hB3.cell (i := 0) (by omega), EZ.out, List.getD_eq_getElem?_getD, List.getElem?_eq_getElem (by omega)]
            rfl
          have X1 := hidden hB1''
          have X2 := hidden hB2'
          have X3 := hidden hB3
          have Y := hidden ((hb1.trans (hb2.mono (by omega))).trans (hb3.mono (by omega)))
          clear hB1 hB1' hB1'' hB2 hB2' hB3 hb1 hb2 hb3 hS cz
          go_wp2_with fail
          have hor := or_info m (z % 32) ⟨hm0, hm7⟩ ⟨by omega, by omega⟩
          rw [hor]
          clear hor
          have Z1 := hidden (X1.out.other 0 (.int .u8 (m * 32 + z % 32)) (g' := w2.heap.size) (by omega))
          have Z2 := hidden (X2.out.other 0 (.int .u8 (m * 32 + z % 32)) (g' := w2.heap.size) (by omega))
          have Z3 := hidden (X3.out.set 0 (m * 32 + z % 32))
          have Y2 := hidden (Y.out.setCell (p := ⟨w2.heap.size, 0, none⟩) (show _ ≤ w2.heap.size by omega) (.int .u8 (m * 32 + z % 32)))
          have hsz : (w3.setCell ⟨w2.heap.size, 0, none⟩ (.int .u8 (m * 32 + z % 32))).heap.size = w3.heap.size := by simp [World.setCell]
          generalize w3.setCell ⟨w2.heap.size, 0, none⟩ (.int .u8 (m * 32 + z % 32)) = w4 at *
          clear X1 X2 X3 Y f3 c3
          refine (tag_any _ n bs _ Z2.out hl hb hbig (by rw [← EZ.out]; exact hok.out)).mono ?_
          rintro e w5 ⟨v1, rfl, ⟨ra1, rfl, hra1⟩, hb5⟩
          rw [← EZ.out, ← EH.out] at hra1 ⊢
          have hs45 := hb5.size
          go_wp2_with fail
          have hz' : (bs.set 0 (m * 32 + z % 32)).getD 0 0 = m * 32 + z % 32 := by
            rw [List.getD_eq_getElem?_getD, List.getElem?_set_self (by omega)]; rfl
          refine (tag_any _ n (bs.set 0 (m * 32 + z % 32)) _ (Z3.out.below hb5 (by omega)) (by rw [List.length_set]; exact hl) ?_ hbig ?_).mono ?_
          · exact isBytes_set hb (by omega) (by omega)
          · rw [hz']; exact headOk_same hok.out (by omega)
          rintro e w6 ⟨v2, rfl, ⟨ra2, rfl, hra2⟩, hb6⟩
          have e1 : (m * 32 + z % 32) % 32 = z % 32 := by omega
          have e2 : (m * 32 + z % 32) / 32 = m := by omega
          have e3 : headNum (m * 32 + z % 32) (bs.set 0 (m * 32 + z % 32)) = headNum z bs := by unfold headNum; rw [e1, num_set]
          rw [hz', e1, ← EH.out] at hra2
          rw [hz', e1, e2, e3, ← EH.out]
          clear e1 e2 e3 hz'
          have hs56 := hb6.size
          have W1 := hidden ((Z1.out.below hb5 (by omega)).below hb6 (by omega))
          have W2 := hidden ((Z2.out.below hb5 (by omega)).below hb6 (by omega))
          have W3 := hidden ((Z3.out.below hb5 (by omega)).below hb6 (by omega))
          have Y3 := hidden ((Y2.out.trans (hb5.mono (by omega))).trans (hb6.mono (by omega)))
          have c6 : w6.cell? ⟨w''.heap.size, 0, none⟩ = some (.int .u8 z) := by
            rw [W1.out.cell (i := 0) (by omega), EZ.out, List.getD_eq_getElem?_getD, List.getElem?_eq_getElem (by omega)]
            rfl
          generalize headNum z bs = N at *
          have hnh : (h : Int) ≤ (n : Int) := by omega
          clear Z1 Z2 Z3 Y2 hb5 hb6 hok EZ EH
          by_cases hnh' : n = h
          · subst hnh'
            simp only [Nat.sub_self]
            go_wp2_with fail
            refine (same_none _ _ _ _ _).mono ?_
            rintro e w7 ⟨rfl, hb7⟩
            go_wp2_with fail
            refine (same_none _ _ _ _ _).mono ?_
            rintro e w8 ⟨rfl, hb8⟩
            go_wp2
            go_ret
            exact ⟨rfl, (Y3.out.trans (hb7.mono (by omega))).trans (hb8.mono (by have := hb7.size; omega))⟩
          · obtain rfl := hra1 hnh'
            obtain rfl := hra2 hnh'
            have s1 := W1.out.src h
            have s2 := W2.out.src h
            have s3 := W3.out.src h
            rw [hl] at s1 s2
            rw [List.length_set, hl, List.drop_set_of_lt (by omega)] at s3
            have S1 := hidden s1
            have S2 := hidden s2
            have S3 := hidden s3
            clear s1 s2 s3 W1 W2 W3 hra1 hra2
            go_wp2_with fail
            refine (same_any _ _ _ _ _ _ _ _ _ (by omega) S2.out S1.out).mono ?_
            rintro e w7 ⟨rfl, hb7⟩
            go_wp2_with fail
            refine (same_any _ _ _ _ _ _ _ _ _ (by omega) (S3.out.below hb7 (fun ad e _ => by cases e; show w2.heap.size < _; omega)) (S2.out.below hb7 (fun ad e _ => by cases e; show w1.heap.size < _; omega))).mono ?_
            rintro e w8 ⟨rfl, hb8⟩
            go_wp2
            go_ret
            exact ⟨rfl, (Y3.out.trans (hb7.mono (by omega))).trans (hb8.mono (by have := hb7.size; omega))⟩
        · go_wp2
          go_ret
          exact ⟨rfl, Below.refl _ _⟩
      · go_wp2
        go_ret
        exact ⟨rfl, Below.refl _ _⟩
    · go_wp2
      go_ret
      exact ⟨rfl, Below.refl _ _⟩
  · go_wp2
    go_ret
    exact ⟨rfl, Below.refl _ _⟩

theorem major_none (a : Option Addr) (c : Nat) (m : Int) (w : World) :
    Calls Try.prog 4 #[.slice a 0 c, .int .u8 m] w fun e w' => e = .returned (.bool true) ∧ Below w.heap.size w w' := by
  go_enter Try.func4, Try.ntmps4
  go_wp2_with fail
  refine (bytes11 _ _ _ _ _).mono ?_
  rintro e w' ⟨⟨x, rfl⟩, rfl⟩
  cases x
  · go_wp2
    go_ret
    exact ⟨rfl, Below.refl _ _⟩
  go_wp2
  all_goals (go_ret; exact ⟨rfl, Below.refl _ _⟩)
end Go.Proofs.Qxb6630173a
