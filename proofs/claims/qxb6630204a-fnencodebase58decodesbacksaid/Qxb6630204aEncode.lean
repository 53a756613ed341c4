/-
  Seat b6630204a: EncodeBase58, walked.
-/
import Derived.Test.Qxb6630204aMem
namespace Go.Proofs.Qxb6630204a
open Go.RowKit

/-- What the loop over the bytes knows after j of them. -/
def Enc (bs : List Nat) (k j : Nat) (ds : List Nat) : Prop := Canon 58 ds (big 256 ((bs.drop k).take j))
theorem enc_zero (bs : List Nat) (k : Nat) : Enc bs k 0 [] := ⟨fun d hd => (by cases hd), rfl, .inl rfl⟩
theorem Enc.len {bs : List Nat} {k j : Nat} {ds : List Nat} (h : Enc bs k j ds) (hs : ∀ d ∈ bs, d < 256) (hj : j ≤ 4096) : ds.length ≤ 8192 := by
  have := Canon.len h (small_big (m := j) (fun d hd => hs d (List.mem_of_mem_drop (List.mem_of_mem_take hd))) (List.length_take_le _ _))
  omega
/-- On the way to the digits behind byte j. -/
def EncWay (bs : List Nat) (k j : Nat) (fs : List Nat) (c : Nat) : Prop := Way 58 fs c (big 256 ((bs.drop k).take (j + 1)))
theorem Enc.way {bs : List Nat} {k j : Nat} {ds es : List Nat} {c : Nat} (h : Enc bs k j ds) (hj : k + j < bs.length) (ht : Turn 58 256 ds (bs.getD (k + j) 0) es c) (hl : es.length = ds.length) : EncWay bs k j es c := by
  have e : (bs.drop k).take (j + 1) = (bs.drop k).take j ++ [bs.getD (k + j) 0] := by
    rw [List.take_succ_eq_append_getElem (by rw [List.length_drop]; omega), List.getElem_drop, getD_eq hj]
  unfold EncWay
  rw [e, big_snoc]
  exact ht.way (by decide) hl h
theorem EncWay.push {bs : List Nat} {k j : Nat} {fs : List Nat} {c : Nat} (h : EncWay bs k j fs c) (hc : 0 < c) : EncWay bs k j (fs ++ [c % 58]) (c / 58) := Way.push (by decide) h hc
theorem EncWay.done {bs : List Nat} {k j : Nat} {fs : List Nat} (h : EncWay bs k j fs 0) : Enc bs k (j + 1) fs := Way.done h
theorem EncWay.len {bs : List Nat} {k j : Nat} {fs : List Nat} {c : Nat} (h : EncWay bs k j fs c) (hs : ∀ d ∈ bs, d < 256) (hj : j + 1 ≤ 4096) (hc : 0 < c) : fs.length < 8192 := by
  have := Way.len h hc (small_big (m := j + 1) (fun d hd => hs d (List.mem_of_mem_drop (List.mem_of_mem_take hd))) (List.length_take_le _ _))
  omega
/-- A turn's step, with the carry's bound. -/
def EncTurn (bs : List Nat) (k j : Nat) (ds es : List Nat) (c : Nat) : Prop := Turn 58 256 ds (bs.getD (k + j) 0) es c
theorem enc_turn_zero (bs : List Nat) (k j : Nat) (ds : List Nat) : EncTurn bs k j ds [] (bs.getD (k + j) 0) := Turn.start _ _
theorem EncTurn.step {bs : List Nat} {k j : Nat} {ds es : List Nat} {c y : Nat} (h : EncTurn bs k j ds es c) (hi : es.length < ds.length) (hy : ds[es.length] = y) : EncTurn bs k j ds (es ++ [(c + y * 256) % 58]) ((c + y * 256) / 58) := by
  subst hy
  exact Turn.step (by decide) h hi
/-- A row of ones so far; digits' letters from the end so far. -/
def Ones (k : Nat) (cur : List Nat) : Prop := ∀ t, t < k → cur.getD t 0 = 49
def Tail (k : Nat) (ds cur : List Nat) (i : Nat) : Prop := ∀ t, t < i → cur.getD (k + ds.length - 1 - t) 0 = al (ds.getD t 0)
theorem getD_set_same {cur : List Nat} {i : Nat} (h : i < cur.length) (x : Nat) : (cur.set i x).getD i 0 = x := by
  rw [List.getD_eq_getElem?_getD, List.getElem?_set_self h]; rfl
theorem getD_set_other {cur : List Nat} {i j : Nat} (h : i ≠ j) (x : Nat) : (cur.set i x).getD j 0 = cur.getD j 0 := by
  rw [List.getD_eq_getElem?_getD, List.getElem?_set_ne h, List.getD_eq_getElem?_getD]
theorem Ones.step {k : Nat} {cur : List Nat} (h : Ones k cur) (hk : k < cur.length) : Ones (k + 1) (cur.set k 49) := fun t ht => by
  rcases Nat.lt_succ_iff_lt_or_eq.1 ht with hlt | rfl
  · rw [getD_set_other (by omega)]; exact h t hlt
  · exact getD_set_same hk _
theorem Ones.keep {k : Nat} {cur : List Nat} (h : Ones k cur) {i : Nat} (hi : k ≤ i) (x : Nat) : Ones k (cur.set i x) := fun t ht => by
  rw [getD_set_other (by omega)]; exact h t ht
theorem Tail.step {k : Nat} {ds cur : List Nat} {i : Nat} (h : Tail k ds cur i) (hi : i < ds.length) (hl : cur.length = k + ds.length) : Tail k ds (cur.set (k + ds.length - 1 - i) (al (ds.getD i 0))) (i + 1) := fun t ht => by
  rcases Nat.lt_succ_iff_lt_or_eq.1 ht with hlt | rfl
  · rw [getD_set_other (by omega)]; exact h t hlt
  · exact getD_set_same (by omega) _

theorem append_row {w' : World} {B cap g' : Nat} {ds : List Nat} {d : Nat} {xs : List Value} (hx : xs = vals ds ++ [.int .u8 (d : Int)]) (h : w'.ownsRow B 5 1 (.slice (some ⟨g', 0, none⟩) (ds.length + 1) cap) (ds.length + 1) xs) : Row w' B g' cap (ds ++ [d]) := by
  unfold Row
  rw [List.length_append, List.length_singleton, vals_append]
  rw [hx] at h
  exact h

theorem al_idx (d : Nat) (h : d < (⟨#[49, 50, 51, 52, 53, 54, 55, 56, 57, 65, 66, 67, 68, 69, 70, 71, 72, 74, 75, 76, 77, 78, 80, 81, 82, 83, 84, 85, 86, 87, 88, 89, 90, 97, 98, 99, 100, 101, 102, 103, 104, 105, 106, 107, 109, 110, 111, 112, 113, 114, 115, 116, 117, 118, 119, 120, 121, 122]⟩ : ByteArray).size) : ((⟨#[49, 50, 51, 52, 53, 54, 55, 56, 57, 65, 66, 67, 68, 69, 70, 71, 72, 74, 75, 76, 77, 78, 80, 81, 82, 83, 84, 85, 86, 87, 88, 89, 90, 97, 98, 99, 100, 101, 102, 103, 104, 105, 106, 107, 109, 110, 111, 112, 113, 114, 115, 116, 117, 118, 119, 120, 121, 122]⟩ : ByteArray)[d]'h).toNat = al d := by
  have key : ∀ d : Fin 58, ((⟨#[49, 50, 51, 52, 53, 54, 55, 56, 57, 65, 66, 67, 68, 69, 70, 71, 72, 74, 75, 76, 77, 78, 80, 81, 82, 83, 84, 85, 86, 87, 88, 89, 90, 97, 98, 99, 100, 101, 102, 103, 104, 105, 106, 107, 109, 110, 111, 112, 113, 114, 115, 116, 117, 118, 119, 120, 121, 122]⟩ : ByteArray)[d.val]'(d.isLt)).toNat = al d.val := by decide +kernel
  exact key ⟨d, h⟩

set_option maxRecDepth 100000 in
set_option maxHeartbeats 4000000 in
theorem encode_any (D n : Nat) (bs : List Nat) (w : World) (hn1 : 1 ≤ n) (hn : n ≤ 4096) (hl : bs.length = n) (hs : ∀ d ∈ bs, d < 256) (hD : Blk w D bs) :
    Calls Try.prog 6 #[.slice (some ⟨D, 0, none⟩) n n] w fun e w' => ∃ k ds, Lead bs k ∧ Canon 58 ds (big 256 (bs.drop k)) ∧ e = .returned (.string (strOf (text k ds))) ∧ Below w.heap.size w w' := by
  obtain ⟨i0, hi0, hz0, hz1, hz2⟩ := info_parts Try.info5
  have hDw := hD.lt
  have hx : ∀ i, i < n → (bs.getD i 0) < 256 := fun i hi => by
    rw [getD_eq (by omega)]
    exact hs _ (List.getElem_mem _)
  have hc : ∀ i, i < n → w.cell? ⟨D, i, none⟩ = some (.int .u8 (bs.getD i 0 : Int)) := fun i hi => by
    rw [hD.cell (by omega), getD_eq (by omega)]
  have HS := hidden hs
  clear hs
  go_enter Try.func6, Try.ntmps6
  go_wp2
  go_loop [3] (fun p => ∃ k : Nat, k ≤ n ∧ p = .int .i64 k ∧ Lz bs k) (fun p => n - (intOf p).toNat)
  case atStart => exact ⟨0, Nat.zero_le _, rfl, lz_zero bs⟩
  case round =>
    obtain ⟨k, hk, rfl, hL⟩ := hrel
    by_cases hlt : k < n
    · have ck := hc k hlt
      by_cases h0 : bs.getD k 0 = 0
      · have HZ := hidden (hL.step h0)
        rw [h0] at ck
        clear hL hc hx
        go_wp2
        go_round
        case rel => exact ⟨k + 1, by omega, by go_num, HZ.out⟩
        case measure => simp [intOf]; omega
      · have hlead := hidden (Lead.mk (by omega) hL (fun _ => h0) : Lead bs k)
        have h0' : (((bs.getD k 0 : Nat) : Int) == 0) = false := by rw [beq_eq_false_iff_ne]; omega
        have hC := hidden hc
        have hX := hidden hx
        clear hL hc hx
        generalize bs.getD k 0 = y at ck h0 h0'
        have hkn : ¬ n = k := by omega
        go_wp2_with (first
          | (at_make; refine wpList_make_own _ rfl _ _ 22 rfl w.heap.size 5 i0 _ 1 Try.underlying22 hi0 hz0 hz1 .i64 .i64 ((n : Int) * 138 / 100 + 1) (n * 138 / 100 + 1) rfl rfl (by omega) (by rw [hz2]; omega) (by unfold maxLen; omega) (Nat.le_refl _) ?_; intro w1 hown1 hgrow1)
          | fail)
        clear ck h0 h0'
        have R0 := hidden (show Row w1 w.heap.size w.heap.size (n * 138 / 100 + 1) [] from hown1)
        have B0 := hidden ((Below.refl w.heap.size w).grown hgrow1 (Nat.le_refl _) (fun j hj => by cases hj))
        clear hown1 hgrow1
        go_loopw [4, 36] (fun v p wr => ∃ (j : Nat) (ds : List Nat) (g cap : Nat), j ≤ n - k ∧ p = .int .i64 j ∧ v = .slice (some ⟨g, 0, none⟩) ds.length cap ∧ Row wr w.heap.size g cap ds ∧ Enc bs k j ds ∧ Below w.heap.size w wr) (fun _ p _ => n - k - (intOf p).toNat)
        case atStart => exact ⟨0, [], _, _, Nat.zero_le _, rfl, rfl, R0.out, enc_zero bs k, B0.out⟩
        case round =>
          clear R0 B0
          obtain ⟨j, ds, g, cap, hj, rfl, rfl, hR, hE, hB⟩ := hrel
          have hdl := hE.len HS.out (by omega)
          by_cases hjl : j < n - k
          · have cj : wr.cell? ⟨D, k + j, none⟩ = some (.int .u8 (bs.getD (k + j) 0 : Int)) := (hB.cell (p := ⟨D, k + j, none⟩) hDw).trans (hC.out (k + j) (by omega))
            have hb := hX.out (k + j) (by omega)
            have hT := hidden (enc_turn_zero bs k j ds)
            have HR := hidden hR
            have HE := hidden hE
            have HB := hidden hB
            obtain ⟨b, eb⟩ : ∃ b, b = bs.getD (k + j) 0 := ⟨_, rfl⟩
            rw [← eb] at cj hb hT
            have EB := hidden eb
            clear hR hE hB eb
            go_wp2
            go_loopw [7, 44] (fun q p wx => ∃ (es : List Nat) (c : Nat), es.length ≤ ds.length ∧ p = .int .i64 es.length ∧ q = .int .i64 c ∧ c ≤ 255 ∧ EncTurn bs k j ds es c ∧ Row wx w.heap.size g cap (es ++ ds.drop es.length) ∧ Below w.heap.size w wx) (fun _ p _ => ds.length - (intOf p).toNat)
            case atStart => exact ⟨[], b, Nat.zero_le _, rfl, rfl, by omega, hT.out, HR.out, HB.out⟩
            case round =>
              clear HR HB hT cj
              obtain ⟨es, c, hel, rfl, rfl, hc255, hTu, hRx, hBx⟩ := hrel
              by_cases hil : es.length < ds.length
              · have hg := hRx.cell (i := es.length) (by rw [mid_len hel]; exact hil)
                rw [mid_get hil] at hg
                have fz := hRx.frozen es.length
                have hgB := hRx.base.1
                have hy : ds[es.length] < 58 := HE.out.small _ (List.getElem_mem _)
                obtain ⟨y, ey⟩ : ∃ y, y = ds[es.length] := ⟨_, rfl⟩
                rw [← ey] at hg hy
                have hTn := hidden (hTu.step hil ey.symm)
                have hset := hRx.set es.length ((c + y * 256) % 58)
                rw [mid_set hil, show ((((c + y * 256) % 58 : Nat)) : Int) = ((c : Int) + (y : Int) * 256) % 58 from by omega] at hset
                have HSet := hidden hset
                have HBs := hidden (hBx.setCell (p := ⟨g, es.length, none⟩) hgB (.int .u8 (((c : Int) + (y : Int) * 256) % 58)))
                clear hset hTu hRx hBx ey
                go_wp2
                go_roundw
                case rel => exact ⟨es ++ [(c + y * 256) % 58], (c + y * 256) / 58, by simp; omega, by simp, by go_num, by omega, hTn.out, HSet.out, HBs.out⟩
                case measure => simp [intOf]; omega
              · have hEq : es.length = ds.length := by omega
                have hW := HE.out.way (c := c) (by omega) hTu hEq
                have hRes : Row wr w.heap.size g cap es := by
                  rw [hEq, List.drop_length, List.append_nil] at hRx
                  exact hRx
                have HW := hidden hW
                have HRe := hidden hRes
                have HBx := hidden hBx
                clear hW hRes hTu hRx hBx
                have HEq := hidden hEq
                clear hEq
                go_wp2
                go_loopw [4, 7] (fun v q wy => ∃ (fs : List Nat) (c g cap : Nat), v = .slice (some ⟨g, 0, none⟩) fs.length cap ∧ q = .int .i64 c ∧ c ≤ 255 ∧ EncWay bs k j fs c ∧ Row wy w.heap.size g cap fs ∧ Below w.heap.size w wy) (fun _ q _ => (intOf q).toNat)
                case atStart => exact ⟨es, c, g, cap, by rw [HEq.out], rfl, hc255, HW.out, HRe.out, HBx.out⟩
                case round =>
                  clear HW HRe HBx
                  obtain ⟨fs, c', g', cap', rfl, rfl, hc', hW', hR', hB'⟩ := hrel
                  by_cases hc0 : 0 < c'
                  · have hfl := hW'.len HS.out (by omega) hc0
                    have HP := hidden (hW'.push hc0)
                    have HR' := hidden hR'
                    have HB' := hidden hB'
                    have hsz := hB'.size
                    clear hW' hR' hB'
                    have e58 : ((((c' % 58 : Nat)) : Int)) = (c' : Int) % 58 := by omega
                    go_wp2_with (first
                      | (at_builtin; refine wpList_append_lies _ rfl _ _ 22 rfl w.heap.size 5 i0 _ 1 1 Try.underlying22 hi0 hz0 hz1 hz2 rfl (by omega) _ fs.length (vals fs) rfl (HR'.out.alloc _) ⟨wr.heap.size, 0, none⟩ 1 1 [.int .u8 ((c' : Int) % 58)] rfl rfl (cell_one_new _ _ _) (fun u hu => by rw [List.mem_singleton.1 hu]; rfl) (by omega) (by unfold maxLen; omega) (by omega) (by simp; omega) (wr.heap.size + 1) (by simp) ?_; intro g2 cap2 w2 hown2 hgrow2 hat2 hlt2)
                      | fail)
                    have hgb := HR'.out.base.1
                    have HR2 := hidden (append_row (d := c' % 58) (ds := fs) (by rw [e58]) hown2)
                    have HB2 := hidden ((HB'.out.alloc hsz _).grown hgrow2 (by simp; omega) (fun t ht => by cases ht; exact hgb))
                    clear hown2 hgrow2 hat2 HR' HB'
                    go_roundw
                    case rel => exact ⟨fs ++ [c' % 58], c' / 58, g2, cap2, by simp, by go_num, by omega, HP.out, HR2.out, HB2.out⟩
                    case measure => simp [intOf]; omega
                  · obtain rfl : c' = 0 := by omega
                    have HE2 := hidden hW'.done
                    have HR2 := hidden hR'
                    have HB2 := hidden hB'
                    clear hW' hR' hB'
                    go_wp2
                    go_roundw
                    case rel => exact ⟨j + 1, fs, g', cap', by omega, by go_num, rfl, HR2.out, HE2.out, HB2.out⟩
                    case measure => simp [intOf]; omega
          · have hjn : j = n - k := by omega
            have hEn : Enc bs k (n - k) ds := by rw [← hjn]; exact hE
            have HE := hidden (show Canon 58 ds (big 256 (bs.drop k)) from by
              have := hEn
              unfold Enc at this
              rwa [List.take_of_length_le (by rw [List.length_drop, hl]; exact Nat.le_refl _)] at this)
            have HR := hidden hR
            have HB := hidden hB
            have hsz := hB.size
            have hgl := hR.base
            clear hE hEn hR hB
            go_wp2_with (first
              | (at_make; refine wpList_make_full _ rfl _ _ 22 rfl w.heap.size 5 i0 _ 1 Try.underlying22 hi0 hz0 hz1 .i64 .i64 ((k : Int) + ds.length) ((k : Int) + ds.length) (k + ds.length) rfl rfl (by omega) (by omega) (by rw [hz2]; omega) (by unfold maxLen; omega) hsz ?_; intro w2 hown2 hgrow2)
              | fail)
            have hcur := fresh_row hown2
            have HT := hidden hcur
            have HR2 := hidden (HR.out.grown hgrow2)
            have HB2 := hidden (HB.out.grown hgrow2 hsz (fun t ht => by cases ht))
            have hne : wr.heap.size ≠ g := by omega
            clear hown2 hgrow2 HR HB hcur
            obtain ⟨T, eT⟩ : ∃ T, T = wr.heap.size := ⟨_, rfl⟩
            rw [← eT] at HT hne hsz hgl ⊢
            clear eT
            go_loopw [10] (fun p wx => ∃ (i : Nat) (cur : List Nat), i ≤ k ∧ p = .int .i64 i ∧ cur.length = k + ds.length ∧ Ones i cur ∧ Blk wx T cur ∧ Row wx w.heap.size g cap ds ∧ Below w.heap.size w wx) (fun p _ => k - (intOf p).toNat)
            case atStart => exact ⟨0, _, Nat.zero_le _, rfl, by simp, fun t ht => absurd ht (Nat.not_lt_zero _), HT.out, HR2.out, HB2.out⟩
            case round =>
              clear HT HR2 HB2
              obtain ⟨i, cur, hi, rfl, hcl, hO, hT, hR, hB⟩ := hrel
              by_cases hik : i < k
              · have ct := hT.cell (i := i) (by omega)
                have ft := hT.frozen i
                have HO := hidden (hO.step (by omega))
                have HT := hidden (hT.set i 49)
                have HR := hidden (hR.other hne i (.int .u8 49))
                have HB := hidden (hB.setCell (p := ⟨T, i, none⟩) hsz (.int .u8 49))
                clear hO hT hR hB
                generalize cur[i]'(by omega) = y' at ct
                go_wp2
                go_roundw
                case rel => exact ⟨i + 1, cur.set i 49, by omega, by go_num, by rw [List.length_set]; exact hcl, HO.out, HT.out, HR.out, HB.out⟩
                case measure => simp [intOf]; omega
              · obtain rfl : k = i := by omega
                have HO := hidden hO
                have HT := hidden hT
                have HR := hidden hR
                have HB := hidden hB
                clear hO hT hR hB
                go_wp2
                go_loopw [91] (fun p wx => ∃ (i : Nat) (cur : List Nat), i ≤ ds.length ∧ p = .int .i64 i ∧ cur.length = k + ds.length ∧ Ones k cur ∧ Tail k ds cur i ∧ Blk wx T cur ∧ Row wx w.heap.size g cap ds ∧ Below w.heap.size w wx) (fun p _ => ds.length - (intOf p).toNat)
                case atStart => exact ⟨0, cur, Nat.zero_le _, rfl, hcl, HO.out, fun t ht => absurd ht (Nat.not_lt_zero _), HT.out, HR.out, HB.out⟩
                case round =>
                  clear HO HT HR HB hcl
                  obtain ⟨i, cur, hi, rfl, hcl, hO, hTl, hT, hR, hB⟩ := hrel
                  by_cases hil : i < ds.length
                  · have cd := hR.cell (i := i) hil
                    have hy : ds[i] < 58 := HE.out.small _ (List.getElem_mem _)
                    have ct := hT.cell (i := k + ds.length - 1 - i) (by omega)
                    have ft := hT.frozen (k + ds.length - 1 - i)
                    have ed : al (ds.getD i 0) = al ds[i] := by rw [getD_eq hil]
                    have HO := hidden (hO.keep (i := k + ds.length - 1 - i) (by omega) (al ds[i]))
                    have HTl := hTl.step hil hcl
                    rw [ed] at HTl
                    have HTl := hidden HTl
                    have HT := hidden (hT.set (k + ds.length - 1 - i) (al ds[i]))
                    have HR := hidden (hR.other hne (k + ds.length - 1 - i) (.int .u8 (al ds[i] : Int)))
                    have HB := hidden (hB.setCell (p := ⟨T, k + ds.length - 1 - i, none⟩) hsz (.int .u8 (al ds[i] : Int)))
                    clear hO hTl hT hR hB ed
                    generalize cur[k + ds.length - 1 - i]'(by omega) = y' at ct
                    generalize ds[i] = d at *
                    go_wp2
                    rw [al_idx]
                    go_roundw
                    case rel => exact ⟨i + 1, cur.set (k + ds.length - 1 - i) (al d), by omega, by go_num, by rw [List.length_set]; exact hcl, HO.out, HTl.out, HT.out, HR.out, HB.out⟩
                    case measure => simp [intOf]; omega
                  · obtain rfl : i = ds.length := by omega
                    have eT := text_of hcl hO hTl
                    rw [eT] at hT
                    have hcv := run_string (cap := k + ds.length) hT
                    rw [text_length] at hcv
                    have HB := hidden hB
                    generalize hst : strOf (text k ds) = st at hcv
                    have HST := hidden hst
                    clear hO hTl hT hR hB eT hst
                    go_wp2
                    go_ret
                    exact ⟨k, ds, hlead.out, HE.out, congrArg (fun x => Ending.returned (Value.string x)) HST.out.symm, HB.out⟩
    · have hlead := hidden (Lead.mk (by omega) (by rw [show k = k from rfl]; exact hL) (fun h => absurd h (by omega)) : Lead bs k)
      obtain rfl : n = k := by omega
      have hemp : Hid (Canon 58 [] (big 256 (bs.drop n))) := by
        rw [List.drop_eq_nil_of_le (by omega)]
        exact ⟨fun d hd => (by cases hd), rfl, .inl rfl⟩
      clear hL hc hx
      go_wp2_with (first
        | (at_make; refine wpList_make_own _ rfl _ _ 22 rfl w.heap.size 5 i0 _ 1 Try.underlying22 hi0 hz0 hz1 .i64 .i64 ((n : Int) * 138 / 100 + 1) (n * 138 / 100 + 1) rfl rfl (by omega) (by rw [hz2]; omega) (by unfold maxLen; omega) (Nat.le_refl _) ?_; intro w1 hown1 hgrow1)
        | fail)
      have B0 := hidden ((Below.refl w.heap.size w).grown hgrow1 (Nat.le_refl _) (fun j hj => by cases hj))
      have hsz := hgrow1.size
      clear hown1 hgrow1
      refine wp_loop_rounds 1 ?_
      rw [rounds_succ]
      go_wp2_with (first
        | (at_make; refine wpList_make_full _ rfl _ _ 22 rfl w.heap.size 5 i0 _ 1 Try.underlying22 hi0 hz0 hz1 .i64 .i64 (n : Int) (n : Int) n rfl rfl rfl rfl (by rw [hz2]; omega) (by unfold maxLen; omega) hsz ?_; intro w2 hown2 hgrow2)
        | fail)
      have HT := hidden (fresh_row hown2)
      have HB2 := hidden (B0.out.grown hgrow2 hsz (fun t ht => by cases ht))
      clear hown2 hgrow2 B0
      obtain ⟨T, eT⟩ : ∃ T, T = w1.heap.size := ⟨_, rfl⟩
      rw [← eT] at HT hsz ⊢
      clear eT
      go_loopw [10] (fun p wx => ∃ (i : Nat) (cur : List Nat), i ≤ n ∧ p = .int .i64 i ∧ cur.length = n ∧ Ones i cur ∧ Blk wx T cur ∧ Below w.heap.size w wx) (fun p _ => n - (intOf p).toNat)
      case atStart => exact ⟨0, _, Nat.zero_le _, rfl, by simp, fun t ht => absurd ht (Nat.not_lt_zero _), HT.out, HB2.out⟩
      case round =>
        clear HT HB2
        obtain ⟨i, cur, hi, rfl, hcl, hO, hT, hB⟩ := hrel
        by_cases hik : i < n
        · have ct := hT.cell (i := i) (by omega)
          have ft := hT.frozen i
          have HO := hidden (hO.step (by omega))
          have HT := hidden (hT.set i 49)
          have HB := hidden (hB.setCell (p := ⟨T, i, none⟩) hsz (.int .u8 49))
          clear hO hT hB
          generalize cur[i]'(by omega) = y' at ct
          go_wp2
          go_roundw
          case rel => exact ⟨i + 1, cur.set i 49, by omega, by go_num, by rw [List.length_set]; exact hcl, HO.out, HT.out, HB.out⟩
          case measure => simp [intOf]; omega
        · obtain rfl : n = i := by omega
          have eT := text_of (k := n) (ds := []) hcl hO (fun t ht => absurd ht (Nat.not_lt_zero _))
          rw [eT] at hT
          have hcv := run_string (cap := n) hT
          rw [text_length, List.length_nil, Nat.add_zero] at hcv
          have HB := hidden hB
          generalize hst : strOf (text n []) = st at hcv
          have HST := hidden hst
          clear hO hT hB eT hst
          go_wp2
          refine wp_loop_rounds 1 ?_
          rw [rounds_succ]
          go_wp2
          go_ret
          exact ⟨n, [], hlead.out, hemp.out, congrArg (fun x => Ending.returned (Value.string x)) HST.out.symm, HB.out⟩
end Go.Proofs.Qxb6630204a
