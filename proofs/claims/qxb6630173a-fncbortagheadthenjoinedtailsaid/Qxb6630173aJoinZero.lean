/-
  Seat b6630173a: the law FnCBORTagHeadThenJoinedTail at an empty tail, walked.
-/
import Derived.Test.Qxb6630173aJoinWalk
namespace Go.Proofs.Qxb6630173a
open Go.RowKit

theorem splice_all (cur : List Value) (bs : List Int) (hl : bs.length = cur.length) : splice cur 0 (vals bs) = vals bs := by
  rw [splice_fst cur bs _ rfl, List.drop_eq_nil_of_le (by omega), List.append_nil]

set_option maxRecDepth 100000 in
set_option maxHeartbeats 4000000 in
theorem join_zero (b off n c : Nat) (bs : List Int) (a1 : Option Addr) (c1 : Nat) (w : World) (hn1 : 1 ≤ n) (hl : bs.length = n) (hb : IsBytes bs) (hS : Src w (some ⟨b, off, none⟩) n bs) (hbw : b < w.heap.size) (hnm : n ≤ maxLen)
    (ha1 : a1 = none → c1 = 0) :
    Calls Try.prog 3 #[.slice (some ⟨b, off, none⟩) n c, .slice a1 0 c1] w fun e w' => e = .returned (.bool true) ∧ Below w.heap.size w w' := by
  unfold maxLen at hnm
  obtain ⟨i0, hi0, hz0', hz1', hz2'⟩ := info_parts Try.info5
  have hz := hb 0
  have cz : w.cell? ⟨b, off, none⟩ = some (.int .u8 (bs.getD 0 0)) := by
    have := hS.cell (i := 0) hn1
    rw [List.getD_eq_getElem?_getD, List.getElem?_eq_getElem (by omega)]
    exact this
  obtain ⟨z, ez⟩ : ∃ z, z = bs.getD 0 0 := ⟨_, rfl⟩
  rw [← ez] at cz hz
  have EZ := hidden ez
  clear ez
  obtain ⟨hz0, hz1⟩ := hz
  go_enter Try.func3, Try.ntmps3
  go_wp2_with fail
  refine (bytes5 _ _ _ _ _ _ _).mono ?_
  rintro e w' ⟨⟨x, rfl⟩, rfl⟩
  cases x
  · go_wp2
    go_ret
    exact ⟨rfl, Below.refl _ _⟩
  by_cases hbig : n ≤ 1048576
  · skip
    · have hl0 : (0 : Int) < (n : Int) := by omega
      have hcls : (z % 32 < 28 ∨ (31 ≤ z % 32 ∧ z / 32 ≠ 0 ∧ z / 32 ≠ 1 ∧ z / 32 ≠ 6)) ∨ (28 ≤ z % 32 ∧ z % 32 ≤ 30) ∨ (31 ≤ z % 32 ∧ (z / 32 = 0 ∨ z / 32 = 1 ∨ z / 32 = 6)) := by omega
      rcases hcls with hgo | ⟨h28, h30⟩ | ⟨h31, hmaj⟩
      · have hcl := hidden (show z % 32 < 28 ∨ z % 32 = 31 by omega)
        rcases hgo with hi | ⟨hi, hm0, hm1, hm6⟩
        · have k31 : (z % 32 == 31) = false := by rw [beq_eq_false_iff_ne]; omega
          go_wp2_with fail
          refine (headLen_any _ _).mono ?_
          rintro e w'' ⟨rfl, rfl⟩
          obtain ⟨hh1, hh9⟩ := headLen_le (z % 32)
          by_cases hnl : headLen (z % 32) ≤ n
          · have hok := hidden (headOk_of hcl.out hnl)
            obtain ⟨hd, eh⟩ : ∃ hd, hd = headLen (z % 32) := ⟨_, rfl⟩
            rw [← eh] at hnl hh1 hh9 ⊢
            have EH := hidden eh
            clear eh hcl
            go_wp2_with fail
            refine (clone_any _ n c bs _ hbig hS (fun _ => hbw)).mono ?_
            rintro e w1 ⟨rfl, hB1, hb1⟩
            have hs1 := hB1.lt
            go_wp2_with fail
            refine (clone_src a1 0 c1 [] _ (fun e => ⟨rfl, ha1 e⟩) (by omega) ⟨rfl, fun h => absurd h (by omega)⟩ (fun ad e h0 => absurd h0 (by omega))).mono ?_
            rintro e w2 ⟨ta, tc, rfl, _, _, hb2⟩
            have hs12 := hb2.size
            have hB1' := hB1.below hb2 hs1
            go_wp2_with fail
            refine (clone_any _ n n bs _ hbig (by have := hB1'.src 0; rwa [Nat.sub_zero, List.drop_zero, hl] at this) (fun _ => Nat.lt_of_lt_of_le hs1 hs12)).mono ?_
            rintro e w3 ⟨rfl, hB3, hb3⟩
            have hs23 := hb3.size
            have hs3 := hB3.lt
            have D3 := hidden (hB1'.below hb3 (by omega))
            have I3 := hidden hB3
            have Y3 := hidden ((hb1.trans (hb2.mono (by omega))).trans (hb3.mono (by omega)))
            clear hB1 hB1' hB3 hb1 hb2 hb3 hS cz ha1
            go_wp2_with (first
              | (at_make; refine wpList_make_full _ rfl _ _ 22 rfl w3.heap.size 5 i0 _ 1 Try.underlying22 hi0 hz0' hz1' .i64 .i64 (n : Int) (n : Int) n rfl rfl rfl rfl (by rw [hz2']; omega) (by unfold maxLen; omega) (Nat.le_refl _) ?_; intro w4 hown4 hgrow4; obtain ⟨cur, hcl4, hcur4⟩ := fresh_row hown4; have HC := hidden hcur4; have B4 := hidden ((Below.refl w3.heap.size w3).grown hgrow4 (Nat.le_refl _) (fun j hj => by cases hj)); clear hcur4 hown4 hgrow4)
              | (refine wpList_copy_splice rfl (.tmp 81) (.tmp 82) 22 22 rfl 5 Try.underlying22 Try.size5 _ _ _ _ _ _ rfl rfl w3.heap.size 0 cur 5 HC.out (vals bs) ?c1 ?c2 ?c3 (vals_one bs) w3.heap.size w3 ?c4 (Nat.le_refl _) ?_)
              | fail)
            case c1 => rw [vals_length, hl]; exact (Nat.min_self n).symm
            case c2 =>
              intro _ j v hv
              have := (D3.out.below B4.out (by omega)).src 0
              obtain ⟨ad, e, hc⟩ := this.2 (by rw [hl]; omega)
              cases e
              have := hc j v (by rw [List.drop_zero]; exact hv)
              rwa [add_at, Nat.zero_add] at this
            case c3 => rw [vals_length, hl, hcl4]; omega
            case c4 => exact B4.out
            intro w6 J6' b6
            have J6 : Hid (Blk w6 w3.heap.size bs) := by
              have := J6'.out
              rw [splice_all cur bs (by rw [hl, hcl4])] at this
              exact this
            have I6 := hidden (I3.out.below b6 hs3)
            have D6 := hidden (D3.out.below b6 (by omega))
            have hs36 := b6.size
            have hsJ := J6.out.lt
            have Y6 := hidden (Y3.out.trans (b6.mono (by omega)))
            clear J6' b6 hcl4 I3 D3 Y3 HC B4
            go_wp2_with (first
              | (refine wpList_copy_nothing rfl (.tmp 87) (.tmp 88) 22 22 rfl 5 Try.underlying22 Try.size5 _ _ _ _ _ _ rfl rfl (Nat.zero_min _) ?_)
              | fail)
            refine (tag_any _ n bs _ I6.out hl hb hbig (by rw [← EZ.out]; exact hok.out)).mono ?_
            rintro e w7 ⟨v1, rfl, hv1, hb7⟩
            rw [← EZ.out, ← EH.out] at hv1
            rw [← EZ.out]
            have hs67 := hb7.size
            have J7 := hidden (J6.out.below hb7 hsJ)
            have I7 := hidden (I6.out.below hb7 (by omega))
            have D7 := hidden (D6.out.below hb7 (by omega))
            have Y7 := hidden (Y6.out.trans (hb7.mono (by omega)))
            obtain ⟨ra1, rfl, hr1, hr1w⟩ := hv1.src I7.out hl
            have R1 := hidden hr1
            have R1w := hidden hr1w
            clear hr1 hr1w hv1 J6 I6 D6 Y6 hb7
            go_wp2_with fail
            refine (tag_any _ n bs _ J7.out hl hb hbig (by rw [← EZ.out]; exact hok.out)).mono ?_
            rintro e w8 ⟨v2, rfl, hv2, hb8⟩
            rw [← EZ.out, ← EH.out] at hv2
            rw [← EZ.out]
            have hs78 := hb8.size
            have J8 := hidden (J7.out.below hb8 (by omega))
            have D8 := hidden (D7.out.below hb8 (by omega))
            have Y8 := hidden (Y7.out.trans (hb8.mono (by omega)))
            have R18 := hidden (R1.out.below hb8 R1w.out)
            have R1w8 := hidden (fun ad (e : ra1 = some ad) h0 => Nat.lt_of_lt_of_le (R1w.out ad e h0) hs78)
            obtain ⟨ra2, rfl, hr2, hr2w⟩ := hv2.src J8.out hl
            have R2 := hidden hr2
            have R2w := hidden hr2w
            clear hr2 hr2w hv2 J7 I7 D7 Y7 hb8 R1 R1w
            have hnh : (hd : Int) ≤ (n : Int) := by omega
            by_cases hne : n = hd
            · subst hne
              clear R2 R2w R18 R1w8
              simp only [Nat.sub_self]
              by_cases h1 : n = 1
              · subst h1
                go_wp2_with (first
                  | (at_make; refine wpList_make_full _ rfl _ _ 22 rfl w8.heap.size 5 i0 _ 1 Try.underlying22 hi0 hz0' hz1' .i64 .i64 0 0 0 rfl rfl rfl rfl (by omega) (by unfold maxLen; omega) (Nat.le_refl _) ?_; intro w9 hown9 hgrow9; obtain ⟨cur9, hcl9, hcur9⟩ := fresh_row hown9; have HC9 := hidden hcur9; have B9 := hidden ((Below.refl w8.heap.size w8).grown hgrow9 (Nat.le_refl _) (fun j hj => by cases hj)); clear hcur9 hown9 hgrow9)
                  | (refine wpList_copy_nothing rfl (.tmp 113) (.tmp 114) 22 22 rfl 5 Try.underlying22 Try.size5 _ _ _ _ _ _ rfl rfl (Nat.zero_min _) ?_)
                  | (refine wpList_copy_nothing rfl (.tmp 119) (.tmp 120) 22 22 rfl 5 Try.underlying22 Try.size5 _ _ _ _ _ _ rfl rfl (Nat.zero_min _) ?_)
                  | fail)
                have hs810 := B9.out.size
                have D10 := hidden (D8.out.below B9.out (by omega))
                have Y10 := hidden (Y8.out.trans (B9.out.mono (by omega)))
                have WR := hidden (fun (a : Option Addr) (ha : (1 : Nat) ≠ 1 → a = some ⟨w''.heap.size, 1, none⟩) (cx : Nat) => written_any w''.heap.size 1 cx a bs w9 z hb (D10.out.cells hl) hok.out ha)
                rw [← EH.out] at WR
                clear hcl9 J8 D8 Y8 HC9 B9
                rw [show (1 : Nat) - 1 = 0 from rfl] at WR
                generalize headNum z bs = N at *
                refine (WR.out _ (fun e => absurd rfl e) _).mono ?_
                rintro e wz ⟨rfl, rfl⟩
                go_wp2_with fail
                refine (same_none _ _ _ _ _).mono ?_
                rintro e w11 ⟨rfl, hb11⟩
                have hs11 := hb11.size
                go_wp2_with fail
                refine (same_none _ _ _ _ _).mono ?_
                rintro e w12 ⟨rfl, hb12⟩
                have hbe := hidden ((Y10.out.trans (hb11.mono (by omega))).trans (hb12.mono (by omega)))
                go_wp2
                go_ret
                exact ⟨rfl, hbe.out⟩
              · skip
                go_wp2_with (first
                  | (at_make; refine wpList_make_full _ rfl _ _ 22 rfl w8.heap.size 5 i0 _ 1 Try.underlying22 hi0 hz0' hz1' .i64 .i64 0 0 0 rfl rfl rfl rfl (by omega) (by unfold maxLen; omega) (Nat.le_refl _) ?_; intro w9 hown9 hgrow9; obtain ⟨cur9, hcl9, hcur9⟩ := fresh_row hown9; have HC9 := hidden hcur9; have B9 := hidden ((Below.refl w8.heap.size w8).grown hgrow9 (Nat.le_refl _) (fun j hj => by cases hj)); clear hcur9 hown9 hgrow9)
                  | (refine wpList_copy_nothing rfl (.tmp 113) (.tmp 114) 22 22 rfl 5 Try.underlying22 Try.size5 _ _ _ _ _ _ rfl rfl (Nat.zero_min _) ?_)
                  | (refine wpList_copy_nothing rfl (.tmp 119) (.tmp 120) 22 22 rfl 5 Try.underlying22 Try.size5 _ _ _ _ _ _ rfl rfl (Nat.zero_min _) ?_)
                  | fail)
                have hs810 := B9.out.size
                have D10 := hidden (D8.out.below B9.out (by omega))
                have Y10 := hidden (Y8.out.trans (B9.out.mono (by omega)))
                have WR := hidden (fun (a : Option Addr) (ha : n ≠ 1 → a = some ⟨w''.heap.size, 1, none⟩) (cx : Nat) => written_any w''.heap.size n cx a bs w9 z hb (D10.out.cells hl) hok.out ha)
                rw [← EH.out] at WR
                clear hcl9 J8 D8 Y8 HC9 B9
                generalize headNum z bs = N at *
                refine (WR.out _ (fun _ => rfl) _).mono ?_
                rintro e wz ⟨rfl, rfl⟩
                go_wp2_with fail
                refine (same_none _ _ _ _ _).mono ?_
                rintro e w11 ⟨rfl, hb11⟩
                have hs11 := hb11.size
                go_wp2_with fail
                refine (same_none _ _ _ _ _).mono ?_
                rintro e w12 ⟨rfl, hb12⟩
                have hbe := hidden ((Y10.out.trans (hb11.mono (by omega))).trans (hb12.mono (by omega)))
                go_wp2
                go_ret
                exact ⟨rfl, hbe.out⟩
            · go_wp2_with (first
                | (at_make; refine wpList_make_full _ rfl _ _ 22 rfl w8.heap.size 5 i0 _ 1 Try.underlying22 hi0 hz0' hz1' .i64 .i64 ((n - hd : Nat) : Int) ((n - hd : Nat) : Int) (n - hd) rfl rfl rfl rfl (by rw [hz2']; omega) (by unfold maxLen; omega) (Nat.le_refl _) ?_; intro w9 hown9 hgrow9; obtain ⟨cur9, hcl9, hcur9⟩ := fresh_row hown9; have HC9 := hidden hcur9; have B9 := hidden ((Below.refl w8.heap.size w8).grown hgrow9 (Nat.le_refl _) (fun j hj => by cases hj)); clear hcur9 hown9 hgrow9)
                | (refine wpList_copy_splice rfl (.tmp 113) (.tmp 114) 22 22 rfl 5 Try.underlying22 Try.size5 _ _ _ _ _ _ rfl rfl w8.heap.size 0 cur9 5 HC9.out (vals (bs.drop hd)) ?e1 ?e2 ?e3 (vals_one _) w8.heap.size w8 ?e4 (Nat.le_refl _) ?_)
                | fail)
              case e1 => rw [vals_length, List.length_drop, hl]; exact (Nat.min_self _).symm
              case e2 =>
                intro _ j v hv
                obtain ⟨ad, e, hc⟩ := ((D8.out.below B9.out (by omega)).src hd).2 (by rw [hl]; omega)
                cases e
                have := hc j v hv
                rwa [add_at] at this
              case e3 => rw [vals_length, List.length_drop, hl, hcl9]; omega
              case e4 => exact B9.out
              intro w10 K10' b10
              have K10 : Hid (Blk w10 w8.heap.size (bs.drop hd)) := by
                have := K10'.out
                rw [splice_all cur9 (bs.drop hd) (by rw [List.length_drop, hl, hcl9])] at this
                exact this
              clear K10' HC9 B9
              have hs810 := b10.size
              have hsK := K10.out.lt
              have D10 := hidden (D8.out.below b10 (by omega))
              have Q2' := hidden (R2.out.below b10 R2w.out)
              have Q1' := hidden (R18.out.below b10 R1w8.out)
              have Y10 := hidden (Y8.out.trans (b10.mono (by omega)))
              have Q2w' := hidden (fun ad (e : ra2 = some ad) h0 => Nat.lt_of_lt_of_le (R2w.out ad e h0) hs810)
              have WR := hidden (fun (a : Option Addr) (ha : n ≠ 1 → a = some ⟨w''.heap.size, 1, none⟩) (cx : Nat) => written_any w''.heap.size n cx a bs w10 z hb (D10.out.cells hl) hok.out ha)
              rw [← EH.out] at WR
              clear hcl9 b10 J8 D8 Y8 R2 R18 R2w R1w8
              have hn1' : ¬ n = 1 := by omega
              generalize headNum z bs = N at *
              go_wp2_with (first
                | (refine wpList_copy_nothing rfl (.tmp 119) (.tmp 120) 22 22 rfl 5 Try.underlying22 Try.size5 _ _ _ _ _ _ rfl rfl (Nat.zero_min _) ?_)
                | fail)
              refine (WR.out _ (fun _ => rfl) _).mono ?_
              rintro e wz ⟨rfl, rfl⟩
              have P1 := hidden (D10.out.src hd)
              rw [hl] at P1
              go_wp2_with fail
              refine (same_src _ _ _ _ _ _ _ (by omega) Q1'.out P1.out).mono ?_
              rintro e w11 ⟨rfl, hb11⟩
              have hs11 := hb11.size
              have P2 := hidden (Q2'.out.below hb11 Q2w'.out)
              have P3 := hidden ((K10.out.below hb11 hsK).src 0)
              rw [Nat.sub_zero, List.drop_zero, P2.out.1] at P3
              go_wp2_with fail
              refine (same_src _ _ _ _ _ _ _ (by omega) P2.out P3.out).mono ?_
              rintro e w12 ⟨rfl, hb12⟩
              have hbe := hidden ((Y10.out.trans (hb11.mono (by omega))).trans (hb12.mono (by omega)))
              go_wp2
              go_ret
              exact ⟨rfl, hbe.out⟩
          · go_wp2
            go_ret
            exact ⟨rfl, Below.refl _ _⟩
        · have hi' : z % 32 ≤ 31 := by omega
          have k31 : (z % 32 == 31) = true := by rw [beq_iff_eq]; omega
          have k0 : (z / 32 == 0) = false := by rw [beq_eq_false_iff_ne]; exact hm0
          have k1 : (z / 32 == 1) = false := by rw [beq_eq_false_iff_ne]; exact hm1
          have k6 : (z / 32 == 6) = false := by rw [beq_eq_false_iff_ne]; exact hm6
          clear hm0 hm1 hm6
          go_wp2_with fail
          refine (headLen_any _ _).mono ?_
          rintro e w'' ⟨rfl, rfl⟩
          obtain ⟨hh1, hh9⟩ := headLen_le (z % 32)
          by_cases hnl : headLen (z % 32) ≤ n
          · have hok := hidden (headOk_of hcl.out hnl)
            obtain ⟨hd, eh⟩ : ∃ hd, hd = headLen (z % 32) := ⟨_, rfl⟩
            rw [← eh] at hnl hh1 hh9 ⊢
            have EH := hidden eh
            clear eh hcl
            go_wp2_with fail
            refine (clone_any _ n c bs _ hbig hS (fun _ => hbw)).mono ?_
            rintro e w1 ⟨rfl, hB1, hb1⟩
            have hs1 := hB1.lt
            go_wp2_with fail
            refine (clone_src a1 0 c1 [] _ (fun e => ⟨rfl, ha1 e⟩) (by omega) ⟨rfl, fun h => absurd h (by omega)⟩ (fun ad e h0 => absurd h0 (by omega))).mono ?_
            rintro e w2 ⟨ta, tc, rfl, _, _, hb2⟩
            have hs12 := hb2.size
            have hB1' := hB1.below hb2 hs1
            go_wp2_with fail
            refine (clone_any _ n n bs _ hbig (by have := hB1'.src 0; rwa [Nat.sub_zero, List.drop_zero, hl] at this) (fun _ => Nat.lt_of_lt_of_le hs1 hs12)).mono ?_
            rintro e w3 ⟨rfl, hB3, hb3⟩
            have hs23 := hb3.size
            have hs3 := hB3.lt
            have D3 := hidden (hB1'.below hb3 (by omega))
            have I3 := hidden hB3
            have Y3 := hidden ((hb1.trans (hb2.mono (by omega))).trans (hb3.mono (by omega)))
            clear hB1 hB1' hB3 hb1 hb2 hb3 hS cz ha1
            go_wp2_with (first
              | (at_make; refine wpList_make_full _ rfl _ _ 22 rfl w3.heap.size 5 i0 _ 1 Try.underlying22 hi0 hz0' hz1' .i64 .i64 (n : Int) (n : Int) n rfl rfl rfl rfl (by rw [hz2']; omega) (by unfold maxLen; omega) (Nat.le_refl _) ?_; intro w4 hown4 hgrow4; obtain ⟨cur, hcl4, hcur4⟩ := fresh_row hown4; have HC := hidden hcur4; have B4 := hidden ((Below.refl w3.heap.size w3).grown hgrow4 (Nat.le_refl _) (fun j hj => by cases hj)); clear hcur4 hown4 hgrow4)
              | (refine wpList_copy_splice rfl (.tmp 81) (.tmp 82) 22 22 rfl 5 Try.underlying22 Try.size5 _ _ _ _ _ _ rfl rfl w3.heap.size 0 cur 5 HC.out (vals bs) ?c1 ?c2 ?c3 (vals_one bs) w3.heap.size w3 ?c4 (Nat.le_refl _) ?_)
              | fail)
            case c1 => rw [vals_length, hl]; exact (Nat.min_self n).symm
            case c2 =>
              intro _ j v hv
              have := (D3.out.below B4.out (by omega)).src 0
              obtain ⟨ad, e, hc⟩ := this.2 (by rw [hl]; omega)
              cases e
              have := hc j v (by rw [List.drop_zero]; exact hv)
              rwa [add_at, Nat.zero_add] at this
            case c3 => rw [vals_length, hl, hcl4]; omega
            case c4 => exact B4.out
            intro w6 J6' b6
            have J6 : Hid (Blk w6 w3.heap.size bs) := by
              have := J6'.out
              rw [splice_all cur bs (by rw [hl, hcl4])] at this
              exact this
            have I6 := hidden (I3.out.below b6 hs3)
            have D6 := hidden (D3.out.below b6 (by omega))
            have hs36 := b6.size
            have hsJ := J6.out.lt
            have Y6 := hidden (Y3.out.trans (b6.mono (by omega)))
            clear J6' b6 hcl4 I3 D3 Y3 HC B4
            go_wp2_with (first
              | (refine wpList_copy_nothing rfl (.tmp 87) (.tmp 88) 22 22 rfl 5 Try.underlying22 Try.size5 _ _ _ _ _ _ rfl rfl (Nat.zero_min _) ?_)
              | fail)
            refine (tag_any _ n bs _ I6.out hl hb hbig (by rw [← EZ.out]; exact hok.out)).mono ?_
            rintro e w7 ⟨v1, rfl, hv1, hb7⟩
            rw [← EZ.out, ← EH.out] at hv1
            rw [← EZ.out]
            have hs67 := hb7.size
            have J7 := hidden (J6.out.below hb7 hsJ)
            have I7 := hidden (I6.out.below hb7 (by omega))
            have D7 := hidden (D6.out.below hb7 (by omega))
            have Y7 := hidden (Y6.out.trans (hb7.mono (by omega)))
            obtain ⟨ra1, rfl, hr1, hr1w⟩ := hv1.src I7.out hl
            have R1 := hidden hr1
            have R1w := hidden hr1w
            clear hr1 hr1w hv1 J6 I6 D6 Y6 hb7
            go_wp2_with fail
            refine (tag_any _ n bs _ J7.out hl hb hbig (by rw [← EZ.out]; exact hok.out)).mono ?_
            rintro e w8 ⟨v2, rfl, hv2, hb8⟩
            rw [← EZ.out, ← EH.out] at hv2
            rw [← EZ.out]
            have hs78 := hb8.size
            have J8 := hidden (J7.out.below hb8 (by omega))
            have D8 := hidden (D7.out.below hb8 (by omega))
            have Y8 := hidden (Y7.out.trans (hb8.mono (by omega)))
            have R18 := hidden (R1.out.below hb8 R1w.out)
            have R1w8 := hidden (fun ad (e : ra1 = some ad) h0 => Nat.lt_of_lt_of_le (R1w.out ad e h0) hs78)
            obtain ⟨ra2, rfl, hr2, hr2w⟩ := hv2.src J8.out hl
            have R2 := hidden hr2
            have R2w := hidden hr2w
            clear hr2 hr2w hv2 J7 I7 D7 Y7 hb8 R1 R1w
            have hnh : (hd : Int) ≤ (n : Int) := by omega
            by_cases hne : n = hd
            · subst hne
              clear R2 R2w R18 R1w8
              simp only [Nat.sub_self]
              by_cases h1 : n = 1
              · subst h1
                go_wp2_with (first
                  | (at_make; refine wpList_make_full _ rfl _ _ 22 rfl w8.heap.size 5 i0 _ 1 Try.underlying22 hi0 hz0' hz1' .i64 .i64 0 0 0 rfl rfl rfl rfl (by omega) (by unfold maxLen; omega) (Nat.le_refl _) ?_; intro w9 hown9 hgrow9; obtain ⟨cur9, hcl9, hcur9⟩ := fresh_row hown9; have HC9 := hidden hcur9; have B9 := hidden ((Below.refl w8.heap.size w8).grown hgrow9 (Nat.le_refl _) (fun j hj => by cases hj)); clear hcur9 hown9 hgrow9)
                  | (refine wpList_copy_nothing rfl (.tmp 113) (.tmp 114) 22 22 rfl 5 Try.underlying22 Try.size5 _ _ _ _ _ _ rfl rfl (Nat.zero_min _) ?_)
                  | (refine wpList_copy_nothing rfl (.tmp 119) (.tmp 120) 22 22 rfl 5 Try.underlying22 Try.size5 _ _ _ _ _ _ rfl rfl (Nat.zero_min _) ?_)
                  | fail)
                have hs810 := B9.out.size
                have D10 := hidden (D8.out.below B9.out (by omega))
                have Y10 := hidden (Y8.out.trans (B9.out.mono (by omega)))
                have WR := hidden (fun (a : Option Addr) (ha : (1 : Nat) ≠ 1 → a = some ⟨w''.heap.size, 1, none⟩) (cx : Nat) => written_any w''.heap.size 1 cx a bs w9 z hb (D10.out.cells hl) hok.out ha)
                rw [← EH.out] at WR
                clear hcl9 J8 D8 Y8 HC9 B9
                rw [show (1 : Nat) - 1 = 0 from rfl] at WR
                generalize headNum z bs = N at *
                refine (WR.out _ (fun e => absurd rfl e) _).mono ?_
                rintro e wz ⟨rfl, rfl⟩
                go_wp2_with fail
                refine (same_none _ _ _ _ _).mono ?_
                rintro e w11 ⟨rfl, hb11⟩
                have hs11 := hb11.size
                go_wp2_with fail
                refine (same_none _ _ _ _ _).mono ?_
                rintro e w12 ⟨rfl, hb12⟩
                have hbe := hidden ((Y10.out.trans (hb11.mono (by omega))).trans (hb12.mono (by omega)))
                go_wp2
                go_ret
                exact ⟨rfl, hbe.out⟩
              · skip
                go_wp2_with (first
                  | (at_make; refine wpList_make_full _ rfl _ _ 22 rfl w8.heap.size 5 i0 _ 1 Try.underlying22 hi0 hz0' hz1' .i64 .i64 0 0 0 rfl rfl rfl rfl (by omega) (by unfold maxLen; omega) (Nat.le_refl _) ?_; intro w9 hown9 hgrow9; obtain ⟨cur9, hcl9, hcur9⟩ := fresh_row hown9; have HC9 := hidden hcur9; have B9 := hidden ((Below.refl w8.heap.size w8).grown hgrow9 (Nat.le_refl _) (fun j hj => by cases hj)); clear hcur9 hown9 hgrow9)
                  | (refine wpList_copy_nothing rfl (.tmp 113) (.tmp 114) 22 22 rfl 5 Try.underlying22 Try.size5 _ _ _ _ _ _ rfl rfl (Nat.zero_min _) ?_)
                  | (refine wpList_copy_nothing rfl (.tmp 119) (.tmp 120) 22 22 rfl 5 Try.underlying22 Try.size5 _ _ _ _ _ _ rfl rfl (Nat.zero_min _) ?_)
                  | fail)
                have hs810 := B9.out.size
                have D10 := hidden (D8.out.below B9.out (by omega))
                have Y10 := hidden (Y8.out.trans (B9.out.mono (by omega)))
                have WR := hidden (fun (a : Option Addr) (ha : n ≠ 1 → a = some ⟨w''.heap.size, 1, none⟩) (cx : Nat) => written_any w''.heap.size n cx a bs w9 z hb (D10.out.cells hl) hok.out ha)
                rw [← EH.out] at WR
                clear hcl9 J8 D8 Y8 HC9 B9
                generalize headNum z bs = N at *
                refine (WR.out _ (fun _ => rfl) _).mono ?_
                rintro e wz ⟨rfl, rfl⟩
                go_wp2_with fail
                refine (same_none _ _ _ _ _).mono ?_
                rintro e w11 ⟨rfl, hb11⟩
                have hs11 := hb11.size
                go_wp2_with fail
                refine (same_none _ _ _ _ _).mono ?_
                rintro e w12 ⟨rfl, hb12⟩
                have hbe := hidden ((Y10.out.trans (hb11.mono (by omega))).trans (hb12.mono (by omega)))
                go_wp2
                go_ret
                exact ⟨rfl, hbe.out⟩
            · go_wp2_with (first
                | (at_make; refine wpList_make_full _ rfl _ _ 22 rfl w8.heap.size 5 i0 _ 1 Try.underlying22 hi0 hz0' hz1' .i64 .i64 ((n - hd : Nat) : Int) ((n - hd : Nat) : Int) (n - hd) rfl rfl rfl rfl (by rw [hz2']; omega) (by unfold maxLen; omega) (Nat.le_refl _) ?_; intro w9 hown9 hgrow9; obtain ⟨cur9, hcl9, hcur9⟩ := fresh_row hown9; have HC9 := hidden hcur9; have B9 := hidden ((Below.refl w8.heap.size w8).grown hgrow9 (Nat.le_refl _) (fun j hj => by cases hj)); clear hcur9 hown9 hgrow9)
                | (refine wpList_copy_splice rfl (.tmp 113) (.tmp 114) 22 22 rfl 5 Try.underlying22 Try.size5 _ _ _ _ _ _ rfl rfl w8.heap.size 0 cur9 5 HC9.out (vals (bs.drop hd)) ?e1 ?e2 ?e3 (vals_one _) w8.heap.size w8 ?e4 (Nat.le_refl _) ?_)
                | fail)
              case e1 => rw [vals_length, List.length_drop, hl]; exact (Nat.min_self _).symm
              case e2 =>
                intro _ j v hv
                obtain ⟨ad, e, hc⟩ := ((D8.out.below B9.out (by omega)).src hd).2 (by rw [hl]; omega)
                cases e
                have := hc j v hv
                rwa [add_at] at this
              case e3 => rw [vals_length, List.length_drop, hl, hcl9]; omega
              case e4 => exact B9.out
              intro w10 K10' b10
              have K10 : Hid (Blk w10 w8.heap.size (bs.drop hd)) := by
                have := K10'.out
                rw [splice_all cur9 (bs.drop hd) (by rw [List.length_drop, hl, hcl9])] at this
                exact this
              clear K10' HC9 B9
              have hs810 := b10.size
              have hsK := K10.out.lt
              have D10 := hidden (D8.out.below b10 (by omega))
              have Q2' := hidden (R2.out.below b10 R2w.out)
              have Q1' := hidden (R18.out.below b10 R1w8.out)
              have Y10 := hidden (Y8.out.trans (b10.mono (by omega)))
              have Q2w' := hidden (fun ad (e : ra2 = some ad) h0 => Nat.lt_of_lt_of_le (R2w.out ad e h0) hs810)
              have WR := hidden (fun (a : Option Addr) (ha : n ≠ 1 → a = some ⟨w''.heap.size, 1, none⟩) (cx : Nat) => written_any w''.heap.size n cx a bs w10 z hb (D10.out.cells hl) hok.out ha)
              rw [← EH.out] at WR
              clear hcl9 b10 J8 D8 Y8 R2 R18 R2w R1w8
              have hn1' : ¬ n = 1 := by omega
              generalize headNum z bs = N at *
              go_wp2_with (first
                | (refine wpList_copy_nothing rfl (.tmp 119) (.tmp 120) 22 22 rfl 5 Try.underlying22 Try.size5 _ _ _ _ _ _ rfl rfl (Nat.zero_min _) ?_)
                | fail)
              refine (WR.out _ (fun _ => rfl) _).mono ?_
              rintro e wz ⟨rfl, rfl⟩
              have P1 := hidden (D10.out.src hd)
              rw [hl] at P1
              go_wp2_with fail
              refine (same_src _ _ _ _ _ _ _ (by omega) Q1'.out P1.out).mono ?_
              rintro e w11 ⟨rfl, hb11⟩
              have hs11 := hb11.size
              have P2 := hidden (Q2'.out.below hb11 Q2w'.out)
              have P3 := hidden ((K10.out.below hb11 hsK).src 0)
              rw [Nat.sub_zero, List.drop_zero, P2.out.1] at P3
              go_wp2_with fail
              refine (same_src _ _ _ _ _ _ _ (by omega) P2.out P3.out).mono ?_
              rintro e w12 ⟨rfl, hb12⟩
              have hbe := hidden ((Y10.out.trans (hb11.mono (by omega))).trans (hb12.mono (by omega)))
              go_wp2
              go_ret
              exact ⟨rfl, hbe.out⟩
          · go_wp2
            go_ret
            exact ⟨rfl, Below.refl _ _⟩
      · go_wp2
        go_ret
        exact ⟨rfl, Below.refl _ _⟩
      · have h31' : z % 32 ≤ 31 := by omega
        rcases hmaj with hj | hj | hj
        all_goals
          go_wp2
          go_ret
          exact ⟨rfl, Below.refl _ _⟩
  · go_wp2
    go_ret
    exact ⟨rfl, Below.refl _ _⟩

theorem join_none (a : Option Addr) (c : Nat) (a1 : Option Addr) (m c1 : Nat) (w : World) :
    Calls Try.prog 3 #[.slice a 0 c, .slice a1 m c1] w fun e w' => e = .returned (.bool true) ∧ Below w.heap.size w w' := by

  go_enter Try.func3, Try.ntmps3
  go_wp2_with fail
  refine (bytes5 _ _ _ _ _ _ _).mono ?_
  rintro e w' ⟨⟨x, rfl⟩, rfl⟩
  cases x
  · go_wp2
    go_ret
    exact ⟨rfl, Below.refl _ _⟩
  go_wp2
  all_goals (go_ret; exact ⟨rfl, Below.refl _ _⟩)
end Go.Proofs.Qxb6630173a
