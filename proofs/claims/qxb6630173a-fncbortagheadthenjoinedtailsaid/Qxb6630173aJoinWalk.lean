/-
  Seat b6630173a: the law FnCBORTagHeadThenJoinedTail, walked.
-/
import Derived.Test.Qxb6630173aNumber
namespace Go.Proofs.Qxb6630173a
open Go.RowKit

theorem headLen_le (i : Int) : 1 ≤ headLen i ∧ headLen i ≤ 9 := by
  unfold headLen
  repeat' split
  all_goals omega

theorem headOk_of {z : Int} {n : Nat} (h : z % 32 < 28 ∨ z % 32 = 31) (hn : headLen (z % 32) ≤ n) : HeadOk z n := by
  unfold headLen at hn
  unfold HeadOk
  repeat' split at hn
  all_goals omega
theorem headOk_more {z : Int} {n m : Nat} (h : HeadOk z n) (hm : n ≤ m) : HeadOk z m := by
  unfold HeadOk at h ⊢
  omega

theorem num_append (bs ts : List Int) : ∀ k, k < bs.length → num (bs ++ ts) k = num bs k
  | 0, _ => rfl
  | k + 1, h => by
    simp only [num]
    rw [num_append bs ts k (by omega), List.getD_eq_getElem?_getD, List.getD_eq_getElem?_getD, List.getElem?_append_left (by omega)]
theorem headNum_append (z : Int) (bs ts : List Int) (h : HeadOk z bs.length) : headNum z (bs ++ ts) = headNum z bs := by
  unfold headNum
  split
  · rfl
  · split
    · rfl
    · refine num_append bs ts _ ?_
      unfold HeadOk at h
      unfold headLen
      repeat' split
      all_goals omega
theorem isBytes_append {bs ts : List Int} (h : IsBytes bs) (h' : IsBytes ts) : IsBytes (bs ++ ts) := fun i => by
  rw [List.getD_eq_getElem?_getD]
  by_cases hi : i < bs.length
  · have := h i
    rw [List.getD_eq_getElem?_getD] at this
    rw [List.getElem?_append_left hi]
    exact this
  · have := h' (i - bs.length)
    rw [List.getD_eq_getElem?_getD] at this
    rw [List.getElem?_append_right (by omega)]
    exact this

/-- What is left behind a head, read as a slice. -/
theorem RestAt.src {g n k : Nat} {v : Value} {w : World} {bs : List Int} (h : RestAt g n k v) (hB : Blk w g bs) (hl : bs.length = n) : ∃ ra, v = .slice ra (n - k) (n - k) ∧ Src w ra (n - k) (bs.drop k) ∧ ∀ ad, ra = some ad → 0 < n - k → ad.block < w.heap.size := by
  obtain ⟨ra, rfl, hr⟩ := h
  refine ⟨ra, rfl, ?_, ?_⟩
  · by_cases e : n = k
    · exact ⟨by rw [List.length_drop, hl], fun h => by omega⟩
    · rw [hr e]
      have := hB.src k
      rwa [hl] at this
  · intro ad e h
    rw [hr (by omega)] at e
    cases e
    exact hB.lt
/-- The same of a slice expression 'x[k:]' as the walk writes it. -/
theorem cut_src {g n k : Nat} {w : World} {bs : List Int} (hB : Blk w g bs) (hl : bs.length = n) : Src w (if n = k then some ⟨g, 0, none⟩ else some ⟨g, k, none⟩) (n - k) (bs.drop k) := by
  split
  · exact ⟨by rw [List.length_drop, hl], fun h => by omega⟩
  · have := hB.src k
    rwa [hl] at this

/-- cborSameBytes at two slices that read alike. -/
theorem same_src (a1 a2 : Option Addr) (n c1 c2 : Nat) (bs : List Int) (w : World) (hn : n ≤ 1048576) (h1 : Src w a1 n bs) (h2 : Src w a2 n bs) :
    Calls Try.prog 10 #[.slice a1 n c1, .slice a2 n c2] w fun e w' => e = .returned (.bool true) ∧ Below w.heap.size w w' := by
  by_cases h0 : n = 0
  · subst h0
    exact same_none a1 a2 c1 c2 w
  · obtain ⟨ad1, rfl, hc1⟩ := h1.2 (by omega)
    obtain ⟨ad2, rfl, hc2⟩ := h2.2 (by omega)
    have hl : 0 < bs.length := by rw [h1.1]; omega
    have x1 := hc1 0 (.int .u8 bs[0]) (by simp [vals, hl])
    have x2 := hc2 0 (.int .u8 bs[0]) (by simp [vals, hl])
    obtain ⟨b1, o1, s1⟩ := ad1
    obtain ⟨b2, o2, s2⟩ := ad2
    have e1 : s1 = none := by simpa [Addr.add] using World.cell?_spot x1
    have e2 : s2 = none := by simpa [Addr.add] using World.cell?_spot x2
    subst e1 e2
    exact same_any b1 o1 c1 b2 o2 c2 n bs w hn h1 h2

/-- cborCloneBytes at a slice, nil or not: what comes back reads alike. -/
theorem clone_src (a : Option Addr) (n c : Nat) (bs : List Int) (w : World) (ha : a = none → n = 0 ∧ c = 0) (hn : n ≤ 1048576) (hs : Src w a n bs) (hb : ∀ ad, a = some ad → 0 < n → ad.block < w.heap.size) :
    Calls Try.prog 7 #[.slice a n c] w fun e w' => ∃ ta tc, e = .returned (.slice ta n tc) ∧ Src w' ta n bs ∧ (∀ ad, ta = some ad → 0 < n → ad.block < w'.heap.size) ∧ Below w.heap.size w w' := by
  cases a with
  | none =>
    obtain ⟨rfl, rfl⟩ := ha rfl
    refine (clone_nil w).mono ?_
    rintro e w' ⟨rfl, rfl⟩
    exact ⟨_, _, rfl, hs, fun ad e => (by cases e), Below.refl _ _⟩
  | some ad =>
    refine (clone_any ad n c bs w hn hs (hb ad rfl)).mono ?_
    rintro e w' ⟨rfl, hB, hb'⟩
    have := hB.src 0
    rw [Nat.sub_zero, List.drop_zero, hs.1] at this
    exact ⟨_, _, rfl, this, fun ad e _ => by cases e; exact hB.lt, hb'⟩

theorem splice_fst (cur : List Value) (bs : List Int) (n : Nat) (hl : bs.length = n) : splice cur 0 (vals bs) = vals bs ++ cur.drop n := by
  simp [splice, vals_length, hl]
theorem splice_snd (cur : List Value) (bs ts : List Int) (n m : Nat) (hl : bs.length = n) (hm : ts.length = m) (hc : cur.length = n + m) : splice (splice cur 0 (vals bs)) n (vals ts) = vals (bs ++ ts) := by
  rw [splice_fst cur bs n hl]
  unfold splice
  rw [List.take_left' (by rw [vals_length, hl]), List.drop_append, vals_length, vals_length, hl, hm, List.drop_drop]
  rw [List.drop_eq_nil_of_le (by rw [vals_length, hl]; omega), List.drop_eq_nil_of_le (by omega)]
  simp [vals]

theorem add_at (b o j : Nat) : (⟨b, o, none⟩ : Addr).add j = ⟨b, o + j, none⟩ := by unfold Addr.add; split <;> simp_all
theorem Blk.cells {w : World} {g n : Nat} {bs : List Int} (h : Blk w g bs) (hl : bs.length = n) : ∀ i, i < n → w.cell? ⟨g, i, none⟩ = some (.int .u8 (bs.getD i 0)) := fun i hi => by
  have hi' : i < bs.length := by omega
  rw [h.cell hi', List.getD_eq_getElem?_getD, List.getElem?_eq_getElem hi']
  rfl

set_option maxRecDepth 100000 in
set_option maxHeartbeats 4000000 in
theorem join_pos (b off n c : Nat) (bs : List Int) (a1 : Option Addr) (m c1 : Nat) (ts : List Int) (w : World) (hn1 : 1 ≤ n) (hl : bs.length = n) (hb : IsBytes bs) (hS : Src w (some ⟨b, off, none⟩) n bs) (hbw : b < w.heap.size) (hnm : n ≤ maxLen)
    (ha1 : a1 = none → m = 0 ∧ c1 = 0) (ht : IsBytes ts) (hT : Src w a1 m ts) (htw : ∀ ad, a1 = some ad → 0 < m → ad.block < w.heap.size) (hmm : m ≤ maxLen) (hmp : 0 < m) :
    Calls Try.prog 3 #[.slice (some ⟨b, off, none⟩) n c, .slice a1 m c1] w fun e w' => e = .returned (.bool true) ∧ Below w.heap.size w w' := by
  unfold maxLen at hnm hmm
  obtain ⟨i0, hi0, hz0', hz1', hz2'⟩ := info_parts Try.info5
  have hz := hb 0
  have cz : w.cell? ⟨b, off, none⟩ = some (.int .u8 (bs.getD 0 0)) := by
    have := hS.cell (i := 0) hn1
    rw [List.getD_eq_getElem?_getD, List.getElem?_eq_getElem (by omega)]
    exact this
  obtain ⟨z, ez⟩ : ∃ z, z = bs.getD 0 0 := ⟨_, rfl⟩
  rw [← ez] at cz hz
  have EZ := hidden ez
  clear ez
  obtain ⟨hz0, hz1⟩ := hz
  have hmne : ¬ m = 0 := by omega
  go_enter Try.func3, Try.ntmps3
  go_wp2_with fail
  refine (bytes5 _ _ _ _ _ _ _).mono ?_
  rintro e w' ⟨⟨x, rfl⟩, rfl⟩
  cases x
  · go_wp2
    go_ret
    exact ⟨rfl, Below.refl _ _⟩
  by_cases hbig : n ≤ 1048576
  · by_cases hbig2 : n + m ≤ 1048576
    · have hl0 : (0 : Int) < (n : Int) := by omega
      have hcls : (z % 32 < 28 ∨ (31 ≤ z % 32 ∧ z / 32 ≠ 0 ∧ z / 32 ≠ 1 ∧ z / 32 ≠ 6)) ∨ (28 ≤ z % 32 ∧ z % 32 ≤ 30) ∨ (31 ≤ z % 32 ∧ (z / 32 = 0 ∨ z / 32 = 1 ∨ z / 32 = 6)) := by omega
      rcases hcls with hgo | ⟨h28, h30⟩ | ⟨h31, hmaj⟩
      · have hcl := hidden (show z % 32 < 28 ∨ z % 32 = 31 by omega)
        rcases hgo with hi | ⟨hi, hm0, hm1, hm6⟩
        · have k31 : (z % 32 == 31) = false := by rw [beq_eq_false_iff_ne]; omega
          go_wp2_with fail
          refine (headLen_any _ _).mono ?_
          rintro e w'' ⟨rfl, rfl⟩
          obtain ⟨hh1, hh9⟩ := headLen_le (z % 32)
          by_cases hnl : headLen (z % 32) ≤ n
          · have hok := hidden (headOk_of hcl.out hnl)
            obtain ⟨hd, eh⟩ : ∃ hd, hd = headLen (z % 32) := ⟨_, rfl⟩
            rw [← eh] at hnl hh1 hh9 ⊢
            have EH := hidden eh
            clear eh hcl
            go_wp2_with fail
            refine (clone_any _ n c bs _ hbig hS (fun _ => hbw)).mono ?_
            rintro e w1 ⟨rfl, hB1, hb1⟩
            have hs1 := hB1.lt
            go_wp2_with fail
            refine (clone_src a1 m c1 ts _ ha1 (by omega) (hT.below hb1 htw) (fun ad e h0 => Nat.lt_of_lt_of_le (htw ad e h0) hb1.size)).mono ?_
            rintro e w2 ⟨ta, tc, rfl, hT2, htw2, hb2⟩
            have hs12 := hb2.size
            have hB1' := hB1.below hb2 hs1
            go_wp2_with fail
            refine (clone_any _ n n bs _ hbig (by have := hB1'.src 0; rwa [Nat.sub_zero, List.drop_zero, hl] at this) (fun _ => Nat.lt_of_lt_of_le hs1 hs12)).mono ?_
            rintro e w3 ⟨rfl, hB3, hb3⟩
            have hs23 := hb3.size
            have hs3 := hB3.lt
            have D3 := hidden (hB1'.below hb3 (by omega))
            have I3 := hidden hB3
            have T3 := hidden (hT2.below hb3 htw2)
            have tw3 := hidden (fun ad (e : ta = some ad) h0 => Nat.lt_of_lt_of_le (htw2 ad e h0) hs23)
            have Y3 := hidden ((hb1.trans (hb2.mono (by omega))).trans (hb3.mono (by omega)))
            clear hB1 hB1' hB3 hb1 hb2 hb3 hS cz hT hT2 htw htw2 ha1
            go_wp2_with (first
              | (at_make; refine wpList_make_full _ rfl _ _ 22 rfl w3.heap.size 5 i0 _ 1 Try.underlying22 hi0 hz0' hz1' .i64 .i64 ((n : Int) + m) ((n : Int) + m) (n + m) rfl rfl (by omega) (by omega) (by rw [hz2']; omega) (by unfold maxLen; omega) (Nat.le_refl _) ?_; intro w4 hown4 hgrow4; obtain ⟨cur, hcl4, hcur4⟩ := fresh_row hown4; have HC := hidden hcur4; have B4 := hidden ((Below.refl w3.heap.size w3).grown hgrow4 (Nat.le_refl _) (fun j hj => by cases hj)); clear hcur4 hown4 hgrow4)
              | (refine wpList_copy_splice rfl (.tmp 81) (.tmp 82) 22 22 rfl 5 Try.underlying22 Try.size5 _ _ _ _ _ _ rfl rfl w3.heap.size 0 cur 5 HC.out (vals bs) ?c1 ?c2 ?c3 (vals_one bs) w3.heap.size w3 ?c4 (Nat.le_refl _) ?_)
              | fail)
            case c1 => rw [vals_length, hl]; exact (Nat.min_eq_left (Nat.le_add_right n m)).symm
            case c2 =>
              intro _ j v hv
              have := (D3.out.below B4.out (by omega)).src 0
              obtain ⟨ad, e, hc⟩ := this.2 (by rw [hl]; omega)
              cases e
              have := hc j v (by rw [List.drop_zero]; exact hv)
              rwa [add_at, Nat.zero_add] at this
            case c3 => rw [vals_length, hl, hcl4]; omega
            case c4 => exact B4.out
            intro w5 J5 b5
            clear HC B4
            have B5 := hidden b5
            clear b5
            go_wp2_with (first
              | (refine wpList_copy_splice rfl (.tmp 87) (.tmp 88) 22 22 rfl 5 Try.underlying22 Try.size5 _ _ _ _ _ _ rfl rfl w3.heap.size n (splice cur 0 (vals bs)) 5 J5.out (vals ts) ?d1 ?d2 ?d3 (vals_one ts) w3.heap.size w3 ?d4 (Nat.le_refl _) ?_)
              | fail)
            case d1 => rw [vals_length, T3.out.1]; exact (Nat.min_self m).symm
            case d2 => exact fun _ => (T3.out.below B5.out tw3.out).2 hmp
            case d3 => rw [length_splice _ _ _ (by rw [vals_length, hl, hcl4]; omega), vals_length, T3.out.1, hcl4]; exact Nat.le_refl _
            case d4 => exact B5.out
            intro w6 J6' b6
            have J6 : Hid (Blk w6 w3.heap.size (bs ++ ts)) := by
              have := J6'.out
              rw [splice_snd cur bs ts n m hl T3.out.1 hcl4] at this
              exact this
            have I6 := hidden (I3.out.below b6 hs3)
            have D6 := hidden (D3.out.below b6 (by omega))
            have T6 := hidden (T3.out.below b6 tw3.out)
            have hs36 := b6.size
            have hsJ := J6.out.lt
            have Y6 := hidden (Y3.out.trans (b6.mono (by omega)))
            have tw6 := hidden (fun ad (e : ta = some ad) h0 => Nat.lt_of_lt_of_le (tw3.out ad e h0) hs36)
            clear J6' b6 J5 B5 hcl4 I3 D3 T3 Y3 tw3
            go_wp2_with fail
            refine (tag_any _ n bs _ I6.out hl hb hbig (by rw [← EZ.out]; exact hok.out)).mono ?_
            rintro e w7 ⟨v1, rfl, hv1, hb7⟩
            rw [← EZ.out, ← EH.out] at hv1
            rw [← EZ.out]
            have hs67 := hb7.size
            have hJl : (bs ++ ts).length = n + m := by rw [List.length_append, hl, T6.out.1]
            have hJ0 : (bs ++ ts).getD 0 0 = z := by rw [EZ.out, List.getD_eq_getElem?_getD, List.getD_eq_getElem?_getD, List.getElem?_append_left (by omega)]
            have J7 := hidden (J6.out.below hb7 hsJ)
            have I7 := hidden (I6.out.below hb7 (by omega))
            have D7 := hidden (D6.out.below hb7 (by omega))
            have T7 := hidden (T6.out.below hb7 tw6.out)
            have Y7 := hidden (Y6.out.trans (hb7.mono (by omega)))
            have tw7 := hidden (fun ad (e : ta = some ad) h0 => Nat.lt_of_lt_of_le (tw6.out ad e h0) hs67)
            obtain ⟨ra1, rfl, hr1, hr1w⟩ := hv1.src I7.out hl
            have R1 := hidden hr1
            have R1w := hidden hr1w
            clear hr1 hr1w hv1 J6 I6 D6 T6 Y6 tw6 hb7
            have HJ := hidden hJl
            have HJ0 := hidden hJ0
            clear hJl hJ0
            go_wp2_with fail
            refine (tag_any _ (n + m) (bs ++ ts) _ J7.out HJ.out (isBytes_append hb ht) hbig2 (by rw [HJ0.out]; exact headOk_more hok.out (by omega))).mono ?_
            rintro e w8 ⟨v2, rfl, hv2, hb8⟩
            rw [HJ0.out, ← EH.out] at hv2
            rw [HJ0.out, headNum_append z bs ts (by rw [hl]; exact hok.out)]
            have hs78 := hb8.size
            have J8 := hidden (J7.out.below hb8 (by omega))
            have D8 := hidden (D7.out.below hb8 (by omega))
            have T8 := hidden (T7.out.below hb8 tw7.out)
            have Y8 := hidden (Y7.out.trans (hb8.mono (by omega)))
            have R18 := hidden (R1.out.below hb8 R1w.out)
            have R1w8 := hidden (fun ad (e : ra1 = some ad) h0 => Nat.lt_of_lt_of_le (R1w.out ad e h0) hs78)
            have tw8 := hidden (fun ad (e : ta = some ad) h0 => Nat.lt_of_lt_of_le (tw7.out ad e h0) hs78)
            obtain ⟨ra2, rfl, hr2, hr2w⟩ := hv2.src J8.out HJ.out
            have eN : n + m - hd = n - hd + m := by omega
            rw [eN, List.drop_append_of_le_length (by omega)] at hr2
            rw [eN] at hr2w ⊢
            clear eN
            have R2 := hidden hr2
            have R2w := hidden hr2w
            clear hr2 hr2w hv2 J7 I7 D7 T7 Y7 tw7 hb8 R1 R1w
            have hnh : (hd : Int) ≤ (n : Int) := by omega
            by_cases hne : n = hd
            · subst hne
              have R2' := R2.out
              have R2w' := R2w.out
              have R18' := R18.out
              rw [Nat.sub_self, Nat.zero_add, List.drop_eq_nil_of_le (by omega), List.nil_append] at R2'
              rw [Nat.sub_self, Nat.zero_add] at R2w'
              rw [Nat.sub_self, List.drop_eq_nil_of_le (by omega)] at R18'
              have Q2 := hidden R2'
              have Q2w := hidden R2w'
              have Q1 := hidden R18'
              clear R2' R2w' R18' R2 R2w R18
              simp only [Nat.sub_self, Nat.zero_add]
              go_wp2_with (first
                | (at_make; refine wpList_make_full _ rfl _ _ 22 rfl w8.heap.size 5 i0 _ 1 Try.underlying22 hi0 hz0' hz1' .i64 .i64 (m : Int) (m : Int) m rfl rfl (by omega) (by omega) (by rw [hz2']; omega) (by unfold maxLen; omega) (Nat.le_refl _) ?_; intro w9 hown9 hgrow9; obtain ⟨cur9, hcl9, hcur9⟩ := fresh_row hown9; have HC9 := hidden hcur9; have B9 := hidden ((Below.refl w8.heap.size w8).grown hgrow9 (Nat.le_refl _) (fun j hj => by cases hj)); clear hcur9 hown9 hgrow9)
                | (refine wpList_copy_nothing rfl (.tmp 113) (.tmp 114) 22 22 rfl 5 Try.underlying22 Try.size5 _ _ _ _ _ _ rfl rfl (Nat.zero_min _) ?_)
                | (refine wpList_copy_splice rfl (.tmp 119) (.tmp 120) 22 22 rfl 5 Try.underlying22 Try.size5 _ _ _ _ _ _ rfl rfl w8.heap.size 0 cur9 5 HC9.out (vals ts) ?f1 ?f2 ?f3 (vals_one ts) w8.heap.size w8 ?f4 (Nat.le_refl _) ?_)
                | fail)
              case f1 => rw [vals_length, T8.out.1]; exact (Nat.min_self m).symm
              case f2 => exact fun _ => (T8.out.below B9.out tw8.out).2 hmp
              case f3 => rw [vals_length, T8.out.1, hcl9]; omega
              case f4 => exact B9.out
              intro w10 K10' b10
              have K10 : Hid (Blk w10 w8.heap.size ts) := by
                have := K10'.out
                rw [splice_fst cur9 ts m T8.out.1, List.drop_eq_nil_of_le (by omega), List.append_nil] at this
                exact this
              clear K10' HC9 B9
              have hs810 := b10.size
              have hsK := K10.out.lt
              have D10 := hidden (D8.out.below b10 (by omega))
              have Q2' := hidden (Q2.out.below b10 Q2w.out)
              have Q1' := hidden (Q1.out.below b10 (fun ad e h0 => by omega))
              have Y10 := hidden (Y8.out.trans (b10.mono (by omega)))
              have Q2w' := hidden (fun ad (e : ra2 = some ad) h0 => Nat.lt_of_lt_of_le (Q2w.out ad e h0) hs810)
              have WR := hidden (fun (a : Option Addr) (ha : n ≠ 1 → a = some ⟨w''.heap.size, 1, none⟩) (cx : Nat) => written_any w''.heap.size n cx a bs w10 z hb (D10.out.cells hl) hok.out ha)
              rw [← EH.out] at WR
              clear hcl9 b10 J8 D8 T8 Y8 Q1 Q2 tw8 R1w8
              generalize headNum z bs = N at *
              by_cases h1 : n = 1
              · subst h1
                rw [show (1 : Nat) - 1 = 0 from rfl] at WR
                go_wp2_with fail
                refine (WR.out _ (fun e => absurd rfl e) _).mono ?_
                rintro e wz ⟨rfl, rfl⟩
                go_wp2_with fail
                refine (same_none _ _ _ _ _).mono ?_
                rintro e w11 ⟨rfl, hb11⟩
                have hs11 := hb11.size
                have P2 := hidden (Q2'.out.below hb11 Q2w'.out)
                have P3 := hidden ((K10.out.below hb11 hsK).src 0)
                rw [Nat.sub_zero, List.drop_zero, P2.out.1] at P3
                go_wp2_with fail
                refine (same_src _ _ _ _ _ _ _ (by omega) P2.out P3.out).mono ?_
                rintro e w12 ⟨rfl, hb12⟩
                have hb := hidden ((Y10.out.trans (hb11.mono (by omega))).trans (hb12.mono (by omega)))
                go_wp2
                go_ret
                exact ⟨rfl, hb.out⟩
              · go_wp2_with fail
                refine (WR.out _ (fun _ => rfl) _).mono ?_
                rintro e wz ⟨rfl, rfl⟩
                go_wp2_with fail
                refine (same_none _ _ _ _ _).mono ?_
                rintro e w11 ⟨rfl, hb11⟩
                have hs11 := hb11.size
                have P2 := hidden (Q2'.out.below hb11 Q2w'.out)
                have P3 := hidden ((K10.out.below hb11 hsK).src 0)
                rw [Nat.sub_zero, List.drop_zero, P2.out.1] at P3
                go_wp2_with fail
                refine (same_src _ _ _ _ _ _ _ (by omega) P2.out P3.out).mono ?_
                rintro e w12 ⟨rfl, hb12⟩
                have hb := hidden ((Y10.out.trans (hb11.mono (by omega))).trans (hb12.mono (by omega)))
                go_wp2
                go_ret
                exact ⟨rfl, hb.out⟩
            · have Q2 := R2
              have Q2w := R2w
              have Q1 := R18
              clear R2 R2w R18
              have hXl : (bs.drop hd).length = (n - hd) := by rw [List.length_drop, hl]
              go_wp2_with (first
                | (at_make; refine wpList_make_full _ rfl _ _ 22 rfl w8.heap.size 5 i0 _ 1 Try.underlying22 hi0 hz0' hz1' .i64 .i64 (((n - hd : Nat) : Int) + m) (((n - hd : Nat) : Int) + m) (n - hd + m) rfl rfl (by omega) (by omega) (by rw [hz2']; omega) (by unfold maxLen; omega) (Nat.le_refl _) ?_; intro w9 hown9 hgrow9; obtain ⟨cur9, hcl9, hcur9⟩ := fresh_row hown9; have HC9 := hidden hcur9; have B9 := hidden ((Below.refl w8.heap.size w8).grown hgrow9 (Nat.le_refl _) (fun j hj => by cases hj)); clear hcur9 hown9 hgrow9)
                | (refine wpList_copy_splice rfl (.tmp 113) (.tmp 114) 22 22 rfl 5 Try.underlying22 Try.size5 _ _ _ _ _ _ rfl rfl w8.heap.size 0 cur9 5 HC9.out (vals (bs.drop hd)) ?e1 ?e2 ?e3 (vals_one _) w8.heap.size w8 ?e4 (Nat.le_refl _) ?_)
                | fail)
              case e1 => rw [vals_length, hXl]; exact (Nat.min_eq_left (Nat.le_add_right _ m)).symm
              case e2 =>
                intro _ j v hv
                obtain ⟨ad, e, hc⟩ := ((D8.out.below B9.out (by omega)).src hd).2 (by rw [hl]; omega)
                cases e
                have := hc j v hv
                rwa [add_at] at this
              case e3 => rw [vals_length, hXl, hcl9]; omega
              case e4 => exact B9.out
              intro wa Ka ba
              have Ba := hidden ba
              clear HC9 B9 ba
              go_wp2_with (first
                | (refine wpList_copy_splice rfl (.tmp 119) (.tmp 120) 22 22 rfl 5 Try.underlying22 Try.size5 _ _ _ _ _ _ rfl rfl w8.heap.size (n - hd) (splice cur9 0 (vals (bs.drop hd))) 5 Ka.out (vals ts) ?f1 ?f2 ?f3 (vals_one ts) w8.heap.size w8 ?f4 (Nat.le_refl _) ?_)
                | fail)
              case f1 => rw [vals_length, T8.out.1]; exact (Nat.min_self m).symm
              case f2 => exact fun _ => (T8.out.below Ba.out tw8.out).2 hmp
              case f3 => rw [length_splice _ _ _ (by rw [vals_length, hXl, hcl9]; omega), vals_length, T8.out.1, hcl9]; exact Nat.le_refl _
              case f4 => exact Ba.out
              intro w10 K10' b10
              have K10 : Hid (Blk w10 w8.heap.size (bs.drop hd ++ ts)) := by
                have := K10'.out
                rw [splice_snd cur9 (bs.drop hd) ts (n - hd) m hXl T8.out.1 hcl9] at this
                exact this
              clear K10' Ka Ba
              have hs810 := b10.size
              have hsK := K10.out.lt
              have D10 := hidden (D8.out.below b10 (by omega))
              have Q2' := hidden (Q2.out.below b10 Q2w.out)
              have Q1' := hidden (Q1.out.below b10 R1w8.out)
              have Y10 := hidden (Y8.out.trans (b10.mono (by omega)))
              have Q2w' := hidden (fun ad (e : ra2 = some ad) h0 => Nat.lt_of_lt_of_le (Q2w.out ad e h0) hs810)
              have WR := hidden (fun (a : Option Addr) (ha : n ≠ 1 → a = some ⟨w''.heap.size, 1, none⟩) (cx : Nat) => written_any w''.heap.size n cx a bs w10 z hb (D10.out.cells hl) hok.out ha)
              rw [← EH.out] at WR
              clear hcl9 b10 J8 D8 T8 Y8 Q1 Q2 tw8 R1w8
              generalize headNum z bs = N at *
              have hn1' : ¬ n = 1 := by omega
              go_wp2_with fail
              refine (WR.out _ (fun _ => rfl) _).mono ?_
              rintro e wz ⟨rfl, rfl⟩
              have P1 := hidden (D10.out.src hd)
              rw [hl] at P1
              go_wp2_with fail
              refine (same_src _ _ _ _ _ _ _ (by omega) Q1'.out P1.out).mono ?_
              rintro e w11 ⟨rfl, hb11⟩
              have hs11 := hb11.size
              have P2 := hidden (Q2'.out.below hb11 Q2w'.out)
              have P3 := hidden ((K10.out.below hb11 hsK).src 0)
              rw [Nat.sub_zero, List.drop_zero, P2.out.1] at P3
              go_wp2_with fail
              refine (same_src _ _ _ _ _ _ _ (by omega) P2.out P3.out).mono ?_
              rintro e w12 ⟨rfl, hb12⟩
              have hb := hidden ((Y10.out.trans (hb11.mono (by omega))).trans (hb12.mono (by omega)))
              go_wp2
              go_ret
              exact ⟨rfl, hb.out⟩
          · go_wp2
            go_ret
            exact ⟨rfl, Below.refl _ _⟩
        · have hi' : z % 32 ≤ 31 := by omega
          have k31 : (z % 32 == 31) = true := by rw [beq_iff_eq]; omega
          have k0 : (z / 32 == 0) = false := by rw [beq_eq_false_iff_ne]; exact hm0
          have k1 : (z / 32 == 1) = false := by rw [beq_eq_false_iff_ne]; exact hm1
          have k6 : (z / 32 == 6) = false := by rw [beq_eq_false_iff_ne]; exact hm6
          clear hm0 hm1 hm6
          go_wp2_with fail
          refine (headLen_any _ _).mono ?_
          rintro e w'' ⟨rfl, rfl⟩
          obtain ⟨hh1, hh9⟩ := headLen_le (z % 32)
          by_cases hnl : headLen (z % 32) ≤ n
          · have hok := hidden (headOk_of hcl.out hnl)
            obtain ⟨hd, eh⟩ : ∃ hd, hd = headLen (z % 32) := ⟨_, rfl⟩
            rw [← eh] at hnl hh1 hh9 ⊢
            have EH := hidden eh
            clear eh hcl
            go_wp2_with fail
            refine (clone_any _ n c bs _ hbig hS (fun _ => hbw)).mono ?_
            rintro e w1 ⟨rfl, hB1, hb1⟩
            have hs1 := hB1.lt
            go_wp2_with fail
            refine (clone_src a1 m c1 ts _ ha1 (by omega) (hT.below hb1 htw) (fun ad e h0 => Nat.lt_of_lt_of_le (htw ad e h0) hb1.size)).mono ?_
            rintro e w2 ⟨ta, tc, rfl, hT2, htw2, hb2⟩
            have hs12 := hb2.size
            have hB1' := hB1.below hb2 hs1
            go_wp2_with fail
            refine (clone_any _ n n bs _ hbig (by have := hB1'.src 0; rwa [Nat.sub_zero, List.drop_zero, hl] at this) (fun _ => Nat.lt_of_lt_of_le hs1 hs12)).mono ?_
            rintro e w3 ⟨rfl, hB3, hb3⟩
            have hs23 := hb3.size
            have hs3 := hB3.lt
            have D3 := hidden (hB1'.below hb3 (by omega))
            have I3 := hidden hB3
            have T3 := hidden (hT2.below hb3 htw2)
            have tw3 := hidden (fun ad (e : ta = some ad) h0 => Nat.lt_of_lt_of_le (htw2 ad e h0) hs23)
            have Y3 := hidden ((hb1.trans (hb2.mono (by omega))).trans (hb3.mono (by omega)))
            clear hB1 hB1' hB3 hb1 hb2 hb3 hS cz hT hT2 htw htw2 ha1
            go_wp2_with (first
              | (at_make; refine wpList_make_full _ rfl _ _ 22 rfl w3.heap.size 5 i0 _ 1 Try.underlying22 hi0 hz0' hz1' .i64 .i64 ((n : Int) + m) ((n : Int) + m) (n + m) rfl rfl (by omega) (by omega) (by rw [hz2']; omega) (by unfold maxLen; omega) (Nat.le_refl _) ?_; intro w4 hown4 hgrow4; obtain ⟨cur, hcl4, hcur4⟩ := fresh_row hown4; have HC := hidden hcur4; have B4 := hidden ((Below.refl w3.heap.size w3).grown hgrow4 (Nat.le_refl _) (fun j hj => by cases hj)); clear hcur4 hown4 hgrow4)
              | (refine wpList_copy_splice rfl (.tmp 81) (.tmp 82) 22 22 rfl 5 Try.underlying22 Try.size5 _ _ _ _ _ _ rfl rfl w3.heap.size 0 cur 5 HC.out (vals bs) ?c1 ?c2 ?c3 (vals_one bs) w3.heap.size w3 ?c4 (Nat.le_refl _) ?_)
              | fail)
            case c1 => rw [vals_length, hl]; exact (Nat.min_eq_left (Nat.le_add_right n m)).symm
            case c2 =>
              intro _ j v hv
              have := (D3.out.below B4.out (by omega)).src 0
              obtain ⟨ad, e, hc⟩ := this.2 (by rw [hl]; omega)
              cases e
              have := hc j v (by rw [List.drop_zero]; exact hv)
              rwa [add_at, Nat.zero_add] at this
            case c3 => rw [vals_length, hl, hcl4]; omega
            case c4 => exact B4.out
            intro w5 J5 b5
            clear HC B4
            have B5 := hidden b5
            clear b5
            go_wp2_with (first
              | (refine wpList_copy_splice rfl (.tmp 87) (.tmp 88) 22 22 rfl 5 Try.underlying22 Try.size5 _ _ _ _ _ _ rfl rfl w3.heap.size n (splice cur 0 (vals bs)) 5 J5.out (vals ts) ?d1 ?d2 ?d3 (vals_one ts) w3.heap.size w3 ?d4 (Nat.le_refl _) ?_)
              | fail)
            case d1 => rw [vals_length, T3.out.1]; exact (Nat.min_self m).symm
            case d2 => exact fun _ => (T3.out.below B5.out tw3.out).2 hmp
            case d3 => rw [length_splice _ _ _ (by rw [vals_length, hl, hcl4]; omega), vals_length, T3.out.1, hcl4]; exact Nat.le_refl _
            case d4 => exact B5.out
            intro w6 J6' b6
            have J6 : Hid (Blk w6 w3.heap.size (bs ++ ts)) := by
              have := J6'.out
              rw [splice_snd cur bs ts n m hl T3.out.1 hcl4] at this
              exact this
            have I6 := hidden (I3.out.below b6 hs3)
            have D6 := hidden (D3.out.below b6 (by omega))
            have T6 := hidden (T3.out.below b6 tw3.out)
            have hs36 := b6.size
            have hsJ := J6.out.lt
            have Y6 := hidden (Y3.out.trans (b6.mono (by omega)))
            have tw6 := hidden (fun ad (e : ta = some ad) h0 => Nat.lt_of_lt_of_le (tw3.out ad e h0) hs36)
            clear J6' b6 J5 B5 hcl4 I3 D3 T3 Y3 tw3
            go_wp2_with fail
            refine (tag_any _ n bs _ I6.out hl hb hbig (by rw [← EZ.out]; exact hok.out)).mono ?_
            rintro e w7 ⟨v1, rfl, hv1, hb7⟩
            rw [← EZ.out, ← EH.out] at hv1
            rw [← EZ.out]
            have hs67 := hb7.size
            have hJl : (bs ++ ts).length = n + m := by rw [List.length_append, hl, T6.out.1]
            have hJ0 : (bs ++ ts).getD 0 0 = z := by rw [EZ.out, List.getD_eq_getElem?_getD, List.getD_eq_getElem?_getD, List.getElem?_append_left (by omega)]
            have J7 := hidden (J6.out.below hb7 hsJ)
            have I7 := hidden (I6.out.below hb7 (by omega))
            have D7 := hidden (D6.out.below hb7 (by omega))
            have T7 := hidden (T6.out.below hb7 tw6.out)
            have Y7 := hidden (Y6.out.trans (hb7.mono (by omega)))
            have tw7 := hidden (fun ad (e : ta = some ad) h0 => Nat.lt_of_lt_of_le (tw6.out ad e h0) hs67)
            obtain ⟨ra1, rfl, hr1, hr1w⟩ := hv1.src I7.out hl
            have R1 := hidden hr1
            have R1w := hidden hr1w
            clear hr1 hr1w hv1 J6 I6 D6 T6 Y6 tw6 hb7
            have HJ := hidden hJl
            have HJ0 := hidden hJ0
            clear hJl hJ0
            go_wp2_with fail
            refine (tag_any _ (n + m) (bs ++ ts) _ J7.out HJ.out (isBytes_append hb ht) hbig2 (by rw [HJ0.out]; exact headOk_more hok.out (by omega))).mono ?_
            rintro e w8 ⟨v2, rfl, hv2, hb8⟩
            rw [HJ0.out, ← EH.out] at hv2
            rw [HJ0.out, headNum_append z bs ts (by rw [hl]; exact hok.out)]
            have hs78 := hb8.size
            have J8 := hidden (J7.out.below hb8 (by omega))
            have D8 := hidden (D7.out.below hb8 (by omega))
            have T8 := hidden (T7.out.below hb8 tw7.out)
            have Y8 := hidden (Y7.out.trans (hb8.mono (by omega)))
            have R18 := hidden (R1.out.below hb8 R1w.out)
            have R1w8 := hidden (fun ad (e : ra1 = some ad) h0 => Nat.lt_of_lt_of_le (R1w.out ad e h0) hs78)
            have tw8 := hidden (fun ad (e : ta = some ad) h0 => Nat.lt_of_lt_of_le (tw7.out ad e h0) hs78)
            obtain ⟨ra2, rfl, hr2, hr2w⟩ := hv2.src J8.out HJ.out
            have eN : n + m - hd = n - hd + m := by omega
            rw [eN, List.drop_append_of_le_length (by omega)] at hr2
            rw [eN] at hr2w ⊢
            clear eN
            have R2 := hidden hr2
            have R2w := hidden hr2w
            clear hr2 hr2w hv2 J7 I7 D7 T7 Y7 tw7 hb8 R1 R1w
            have hnh : (hd : Int) ≤ (n : Int) := by omega
            by_cases hne : n = hd
            · subst hne
              have R2' := R2.out
              have R2w' := R2w.out
              have R18' := R18.out
              rw [Nat.sub_self, Nat.zero_add, List.drop_eq_nil_of_le (by omega), List.nil_append] at R2'
              rw [Nat.sub_self, Nat.zero_add] at R2w'
              rw [Nat.sub_self, List.drop_eq_nil_of_le (by omega)] at R18'
              have Q2 := hidden R2'
              have Q2w := hidden R2w'
              have Q1 := hidden R18'
              clear R2' R2w' R18' R2 R2w R18
              simp only [Nat.sub_self, Nat.zero_add]
              go_wp2_with (first
                | (at_make; refine wpList_make_full _ rfl _ _ 22 rfl w8.heap.size 5 i0 _ 1 Try.underlying22 hi0 hz0' hz1' .i64 .i64 (m : Int) (m : Int) m rfl rfl (by omega) (by omega) (by rw [hz2']; omega) (by unfold maxLen; omega) (Nat.le_refl _) ?_; intro w9 hown9 hgrow9; obtain ⟨cur9, hcl9, hcur9⟩ := fresh_row hown9; have HC9 := hidden hcur9; have B9 := hidden ((Below.refl w8.heap.size w8).grown hgrow9 (Nat.le_refl _) (fun j hj => by cases hj)); clear hcur9 hown9 hgrow9)
                | (refine wpList_copy_nothing rfl (.tmp 113) (.tmp 114) 22 22 rfl 5 Try.underlying22 Try.size5 _ _ _ _ _ _ rfl rfl (Nat.zero_min _) ?_)
                | (refine wpList_copy_splice rfl (.tmp 119) (.tmp 120) 22 22 rfl 5 Try.underlying22 Try.size5 _ _ _ _ _ _ rfl rfl w8.heap.size 0 cur9 5 HC9.out (vals ts) ?f1 ?f2 ?f3 (vals_one ts) w8.heap.size w8 ?f4 (Nat.le_refl _) ?_)
                | fail)
              case f1 => rw [vals_length, T8.out.1]; exact (Nat.min_self m).symm
              case f2 => exact fun _ => (T8.out.below B9.out tw8.out).2 hmp
              case f3 => rw [vals_length, T8.out.1, hcl9]; omega
              case f4 => exact B9.out
              intro w10 K10' b10
              have K10 : Hid (Blk w10 w8.heap.size ts) := by
                have := K10'.out
                rw [splice_fst cur9 ts m T8.out.1, List.drop_eq_nil_of_le (by omega), List.append_nil] at this
                exact this
              clear K10' HC9 B9
              have hs810 := b10.size
              have hsK := K10.out.lt
              have D10 := hidden (D8.out.below b10 (by omega))
              have Q2' := hidden (Q2.out.below b10 Q2w.out)
              have Q1' := hidden (Q1.out.below b10 (fun ad e h0 => by omega))
              have Y10 := hidden (Y8.out.trans (b10.mono (by omega)))
              have Q2w' := hidden (fun ad (e : ra2 = some ad) h0 => Nat.lt_of_lt_of_le (Q2w.out ad e h0) hs810)
              have WR := hidden (fun (a : Option Addr) (ha : n ≠ 1 → a = some ⟨w''.heap.size, 1, none⟩) (cx : Nat) => written_any w''.heap.size n cx a bs w10 z hb (D10.out.cells hl) hok.out ha)
              rw [← EH.out] at WR
              clear hcl9 b10 J8 D8 T8 Y8 Q1 Q2 tw8 R1w8
              generalize headNum z bs = N at *
              by_cases h1 : n = 1
              · subst h1
                rw [show (1 : Nat) - 1 = 0 from rfl] at WR
                go_wp2_with fail
                refine (WR.out _ (fun e => absurd rfl e) _).mono ?_
                rintro e wz ⟨rfl, rfl⟩
                go_wp2_with fail
                refine (same_none _ _ _ _ _).mono ?_
                rintro e w11 ⟨rfl, hb11⟩
                have hs11 := hb11.size
                have P2 := hidden (Q2'.out.below hb11 Q2w'.out)
                have P3 := hidden ((K10.out.below hb11 hsK).src 0)
                rw [Nat.sub_zero, List.drop_zero, P2.out.1] at P3
                go_wp2_with fail
                refine (same_src _ _ _ _ _ _ _ (by omega) P2.out P3.out).mono ?_
                rintro e w12 ⟨rfl, hb12⟩
                have hb := hidden ((Y10.out.trans (hb11.mono (by omega))).trans (hb12.mono (by omega)))
                go_wp2
                go_ret
                exact ⟨rfl, hb.out⟩
              · go_wp2_with fail
                refine (WR.out _ (fun _ => rfl) _).mono ?_
                rintro e wz ⟨rfl, rfl⟩
                go_wp2_with fail
                refine (same_none _ _ _ _ _).mono ?_
                rintro e w11 ⟨rfl, hb11⟩
                have hs11 := hb11.size
                have P2 := hidden (Q2'.out.below hb11 Q2w'.out)
                have P3 := hidden ((K10.out.below hb11 hsK).src 0)
                rw [Nat.sub_zero, List.drop_zero, P2.out.1] at P3
                go_wp2_with fail
                refine (same_src _ _ _ _ _ _ _ (by omega) P2.out P3.out).mono ?_
                rintro e w12 ⟨rfl, hb12⟩
                have hb := hidden ((Y10.out.trans (hb11.mono (by omega))).trans (hb12.mono (by omega)))
                go_wp2
                go_ret
                exact ⟨rfl, hb.out⟩
            · have Q2 := R2
              have Q2w := R2w
              have Q1 := R18
              clear R2 R2w R18
              have hXl : (bs.drop hd).length = (n - hd) := by rw [List.length_drop, hl]
              go_wp2_with (first
                | (at_make; refine wpList_make_full _ rfl _ _ 22 rfl w8.heap.size 5 i0 _ 1 Try.underlying22 hi0 hz0' hz1' .i64 .i64 (((n - hd : Nat) : Int) + m) (((n - hd : Nat) : Int) + m) (n - hd + m) rfl rfl (by omega) (by omega) (by rw [hz2']; omega) (by unfold maxLen; omega) (Nat.le_refl _) ?_; intro w9 hown9 hgrow9; obtain ⟨cur9, hcl9, hcur9⟩ := fresh_row hown9; have HC9 := hidden hcur9; have B9 := hidden ((Below.refl w8.heap.size w8).grown hgrow9 (Nat.le_refl _) (fun j hj => by cases hj)); clear hcur9 hown9 hgrow9)
                | (refine wpList_copy_splice rfl (.tmp 113) (.tmp 114) 22 22 rfl 5 Try.underlying22 Try.size5 _ _ _ _ _ _ rfl rfl w8.heap.size 0 cur9 5 HC9.out (vals (bs.drop hd)) ?e1 ?e2 ?e3 (vals_one _) w8.heap.size w8 ?e4 (Nat.le_refl _) ?_)
                | fail)
              case e1 => rw [vals_length, hXl]; exact (Nat.min_eq_left (Nat.le_add_right _ m)).symm
              case e2 =>
                intro _ j v hv
                obtain ⟨ad, e, hc⟩ := ((D8.out.below B9.out (by omega)).src hd).2 (by rw [hl]; omega)
                cases e
                have := hc j v hv
                rwa [add_at] at this
              case e3 => rw [vals_length, hXl, hcl9]; omega
              case e4 => exact B9.out
              intro wa Ka ba
              have Ba := hidden ba
              clear HC9 B9 ba
              go_wp2_with (first
                | (refine wpList_copy_splice rfl (.tmp 119) (.tmp 120) 22 22 rfl 5 Try.underlying22 Try.size5 _ _ _ _ _ _ rfl rfl w8.heap.size (n - hd) (splice cur9 0 (vals (bs.drop hd))) 5 Ka.out (vals ts) ?f1 ?f2 ?f3 (vals_one ts) w8.heap.size w8 ?f4 (Nat.le_refl _) ?_)
                | fail)
              case f1 => rw [vals_length, T8.out.1]; exact (Nat.min_self m).symm
              case f2 => exact fun _ => (T8.out.below Ba.out tw8.out).2 hmp
              case f3 => rw [length_splice _ _ _ (by rw [vals_length, hXl, hcl9]; omega), vals_length, T8.out.1, hcl9]; exact Nat.le_refl _
              case f4 => exact Ba.out
              intro w10 K10' b10
              have K10 : Hid (Blk w10 w8.heap.size (bs.drop hd ++ ts)) := by
                have := K10'.out
                rw [splice_snd cur9 (bs.drop hd) ts (n - hd) m hXl T8.out.1 hcl9] at this
                exact this
              clear K10' Ka Ba
              have hs810 := b10.size
              have hsK := K10.out.lt
              have D10 := hidden (D8.out.below b10 (by omega))
              have Q2' := hidden (Q2.out.below b10 Q2w.out)
              have Q1' := hidden (Q1.out.below b10 R1w8.out)
              have Y10 := hidden (Y8.out.trans (b10.mono (by omega)))
              have Q2w' := hidden (fun ad (e : ra2 = some ad) h0 => Nat.lt_of_lt_of_le (Q2w.out ad e h0) hs810)
              have WR := hidden (fun (a : Option Addr) (ha : n ≠ 1 → a = some ⟨w''.heap.size, 1, none⟩) (cx : Nat) => written_any w''.heap.size n cx a bs w10 z hb (D10.out.cells hl) hok.out ha)
              rw [← EH.out] at WR
              clear hcl9 b10 J8 D8 T8 Y8 Q1 Q2 tw8 R1w8
              generalize headNum z bs = N at *
              have hn1' : ¬ n = 1 := by omega
              go_wp2_with fail
              refine (WR.out _ (fun _ => rfl) _).mono ?_
              rintro e wz ⟨rfl, rfl⟩
              have P1 := hidden (D10.out.src hd)
              rw [hl] at P1
              go_wp2_with fail
              refine (same_src _ _ _ _ _ _ _ (by omega) Q1'.out P1.out).mono ?_
              rintro e w11 ⟨rfl, hb11⟩
              have hs11 := hb11.size
              have P2 := hidden (Q2'.out.below hb11 Q2w'.out)
              have P3 := hidden ((K10.out.below hb11 hsK).src 0)
              rw [Nat.sub_zero, List.drop_zero, P2.out.1] at P3
              go_wp2_with fail
              refine (same_src _ _ _ _ _ _ _ (by omega) P2.out P3.out).mono ?_
              rintro e w12 ⟨rfl, hb12⟩
              have hb := hidden ((Y10.out.trans (hb11.mono (by omega))).trans (hb12.mono (by omega)))
              go_wp2
              go_ret
              exact ⟨rfl, hb.out⟩
          · go_wp2
            go_ret
            exact ⟨rfl, Below.refl _ _⟩
      · go_wp2
        go_ret
        exact ⟨rfl, Below.refl _ _⟩
      · have h31' : z % 32 ≤ 31 := by omega
        rcases hmaj with hj | hj | hj
        all_goals
          go_wp2
          go_ret
          exact ⟨rfl, Below.refl _ _⟩
    · go_wp2
      go_ret
      exact ⟨rfl, Below.refl _ _⟩
  · go_wp2
    go_ret
    exact ⟨rfl, Below.refl _ _⟩
end Go.Proofs.Qxb6630173a
