/-
  Seat b6630204a: zzB58ByDivision, walked.
-/
import Derived.Test.Qxb6630204aLong
namespace Go.Proofs.Qxb6630204a
open Go.RowKit

theorem drop_getD {bs : List Nat} {k i : Nat} (h : k ≤ i) : (bs.drop k).getD (i - k) 0 = bs.getD i 0 := by
  rw [List.getD_eq_getElem?_getD, List.getElem?_drop, List.getD_eq_getElem?_getD, Nat.add_sub_cancel' h]

set_option maxRecDepth 100000 in
set_option maxHeartbeats 4000000 in
theorem division_any (D n : Nat) (bs : List Nat) (w : World) (hn1 : 1 ≤ n) (hn : n ≤ 4096) (hl : bs.length = n) (hs : ∀ d ∈ bs, d < 256) (hD : Blk w D bs) :
    Calls Try.prog 7 #[.slice (some ⟨D, 0, none⟩) n n] w fun e w' => ∃ k ds, Lead bs k ∧ Canon 58 ds (big 256 (bs.drop k)) ∧ e = .returned (.string (strOf (text k ds))) ∧ Below w.heap.size w w' := by
  obtain ⟨i0, hi0, hz0, hz1, hz2⟩ := info_parts Try.info5
  have hDw := hD.lt
  have hc : ∀ i, i < n → w.cell? ⟨D, i, none⟩ = some (.int .u8 (bs.getD i 0 : Int)) := fun i hi => by
    rw [hD.cell (by omega), getD_eq (by omega)]
  have HS := hidden hs
  have HL := hidden hl
  clear hs hl
  go_enter Try.func7, Try.ntmps7
  go_wp2
  go_loop [3] (fun p => ∃ k : Nat, k ≤ n ∧ p = .int .i64 k ∧ Lz bs k) (fun p => n - (intOf p).toNat)
  case atStart => exact ⟨0, Nat.zero_le _, rfl, lz_zero bs⟩
  case round =>
    obtain ⟨k, hk, rfl, hL⟩ := hrel
    by_cases hlt : k < n
    · have ck := hc k hlt
      by_cases h0 : bs.getD k 0 = 0
      · have HZ := hidden (hL.step h0)
        rw [h0] at ck
        clear hL hc
        go_wp2
        go_round
        case rel => exact ⟨k + 1, by omega, by go_num, HZ.out⟩
        case measure => simp [intOf]; omega
      · have hlead := hidden (Lead.mk (by rw [HL.out]; omega) hL (fun _ => h0) : Lead bs k)
        have h0n := hidden h0
        have h0' : (((bs.getD k 0 : Nat) : Int) == 0) = false := by rw [beq_eq_false_iff_ne]; omega
        have hC := hidden hc
        clear hL hc
        generalize bs.getD k 0 = y at ck h0 h0'
        obtain ⟨m, em⟩ : ∃ m, m = n - k := ⟨_, rfl⟩
        have EM := hidden (show n = k + m by omega)
        have hm : m ≤ 4096 := by omega
        have hm1 : 1 ≤ m := by omega
        clear em
        go_wp2_with (first
          | (at_make; refine wpList_make_full _ rfl _ _ 22 rfl w.heap.size 5 i0 _ 1 Try.underlying22 hi0 hz0 hz1 .i64 .i64 ((n : Int) - k) ((n : Int) - k) m rfl rfl (by have := EM.out; omega) (by have := EM.out; omega) (by rw [hz2]; omega) (by unfold maxLen; omega) (Nat.le_refl _) ?_; intro w1 hown1 hgrow1)
          | fail)
        clear ck h0 h0'
        have HN := hidden (fresh_row hown1)
        have B0 := hidden ((Below.refl w.heap.size w).grown hgrow1 (Nat.le_refl _) (fun j hj => by cases hj))
        clear hown1 hgrow1
        go_loopw [5] (fun p wr => ∃ (i : Nat) (cur : List Nat), k ≤ i ∧ i ≤ n ∧ p = .int .i64 i ∧ cur.length = m ∧ Laid (bs.drop k) cur (i - k) ∧ Blk wr w.heap.size cur ∧ Below w.heap.size w wr) (fun p _ => n - (intOf p).toNat)
        case atStart => exact ⟨k, _, Nat.le_refl _, by omega, rfl, by simp, fun t ht => absurd ht (by omega), HN.out, B0.out⟩
        case round =>
          clear HN B0
          obtain ⟨i, cur, hki, hin, rfl, hcl, hLa, hN, hB⟩ := hrel
          by_cases hlti : i < n
          · have cd : wr.cell? ⟨D, i, none⟩ = some (.int .u8 (bs.getD i 0 : Int)) := (hB.cell (p := ⟨D, i, none⟩) hDw).trans (hC.out i hlti)
            have hik : i - k < m := by have := EM.out; omega
            have ct := hN.cell (i := i - k) (by omega)
            have ft := hN.frozen (i - k)
            have hLn := hLa.step (by omega)
            rw [drop_getD hki] at hLn
            have HLa := hidden hLn
            have HN := hidden (hN.set (i - k) (bs.getD i 0))
            have HB := hidden (hB.setCell (p := ⟨w.heap.size, i - k, none⟩) (Nat.le_refl _) (.int .u8 (bs.getD i 0 : Int)))
            clear hLa hLn hN hB
            generalize cur[i - k]'(by omega) = y' at ct
            generalize bs.getD i 0 = b at *
            go_wp2
            go_roundw
            case rel => exact ⟨i + 1, cur.set (i - k) b, by omega, by omega, by go_num, by rw [List.length_set]; exact hcl, by rw [show i + 1 - k = i - k + 1 by omega]; exact HLa.out, HN.out, HB.out⟩
            case measure => simp [intOf]; omega
          · obtain rfl : n = i := by omega
            obtain ⟨ys, ey⟩ : ∃ ys, ys = bs.drop k := ⟨_, rfl⟩
            have hyl : ys.length = m := by
              have := EM.out
              have := HL.out
              rw [ey, List.length_drop]; omega
            have hys : ∀ d ∈ ys, d < 256 := fun d hd => HS.out d (List.mem_of_mem_drop (ey ▸ hd))
            have hys0 : ys.getD 0 0 ≠ 0 := by
              have := drop_getD (bs := bs) (k := k) (i := k) (Nat.le_refl _)
              rw [Nat.sub_self] at this
              rw [ey, this]
              exact h0n.out
            have hcu : cur = ys := by
              have e : n - k = ys.length := by have := EM.out; omega
              rw [← ey, e] at hLa
              exact hLa.done (by omega)
            rw [hcu] at hN
            have HN := hidden hN
            have HB := hidden hB
            have hsz := hB.size
            have hNl := hN.lt
            have EY := hidden ey
            have HYL := hidden hyl
            have HYS := hidden hys
            have HO := hidden (show Out ys ys 0 [] from ⟨rfl, Nat.zero_le _, hys, Way.start, fun _ => hys0⟩)
            clear hLa hN hB hcu hcl ey hyl hys hys0 h0n hC cur
            go_wp2_with (first
              | (at_make; refine wpList_make_own _ rfl _ _ 22 rfl wr.heap.size 5 i0 _ 1 Try.underlying22 hi0 hz0 hz1 .i64 .i64 (2 * (m : Int) + 1) (2 * m + 1) rfl rfl (by omega) (by rw [hz2]; omega) (by unfold maxLen; omega) (Nat.le_refl _) ?_; intro w2 hown2 hgrow2)
              | fail)
            have R0 := hidden (show Row w2 wr.heap.size wr.heap.size (2 * m + 1) [] from hown2)
            have N0 := hidden (HN.out.below ((Below.refl wr.heap.size wr).grown hgrow2 (Nat.le_refl _) (fun j hj => by cases hj)) hNl)
            have B0 := hidden (HB.out.grown hgrow2 hsz (fun t ht => by cases ht))
            clear hown2 hgrow2 HN HB
            obtain ⟨S, eS⟩ : ∃ S, S = wr.heap.size := ⟨_, rfl⟩
            rw [← eS] at R0 hNl hsz ⊢
            clear eS
            go_loopw [6, 7] (fun v p wr => ∃ (xs rs ls : List Nat) (st g cap : Nat), p = .int .i64 st ∧ v = .slice (some ⟨g, 0, none⟩) ls.length cap ∧ Hid (ls = rs.map al) ∧ Out ys xs st rs ∧ Blk wr w.heap.size xs ∧ Row wr S g cap ls ∧ Below w.heap.size w wr) (fun v _ _ => 2 * m - lenOf v)
            case atStart => exact ⟨ys, [], [], 0, S, _, rfl, rfl, rfl, HO.out, N0.out, R0.out, B0.out⟩
            case round =>
              clear R0 B0 N0 HO
              obtain ⟨xs, rs, ls, st, g, cap, rfl, rfl, hls, hO, hN, hR, hB⟩ := hrel
              have hxl : xs.length = m := hO.len.trans HYL.out
              have hll : ls.length = rs.length := by rw [show ls = rs.map al from hls, List.length_map]
              have hstm : st ≤ m := by have := hO.stle; omega
              have hgS := hR.base.1
              have hgN : w.heap.size ≠ g := by omega
              by_cases hst : st < m
              · have hrl : ls.length < 2 * m := by
                  have := hO.len58 HYS.out (by omega)
                  rw [HYL.out] at this
                  omega
                have HXL := hidden hxl
                have HLL := hidden hll
                have HO := hidden hO
                have HN := hidden hN
                have HR := hidden hR
                have HB := hidden hB
                clear hxl hll hO hN hR hB
                go_wp2
                go_loopw [8, 9] (fun q p wx => ∃ (qs : List Nat) (r i : Nat), Hid (i = st + qs.length) ∧ i ≤ m ∧ p = .int .i64 i ∧ q = .int .i64 r ∧ Div xs st qs r ∧ Blk wx w.heap.size (mid xs st qs) ∧ Row wx S g cap ls ∧ Below w.heap.size w wx) (fun _ p _ => m - (intOf p).toNat)
                case atStart => exact ⟨[], 0, st, rfl, hstm, rfl, rfl, div_zero (by rw [HXL.out]; exact hstm), by rw [mid_zero]; exact HN.out, HR.out, HB.out⟩
                case round =>
                  clear HR HB HN
                  obtain ⟨qs, r, i, hi, him, rfl, rfl, hDv, hN, hR, hB⟩ := hrel
                  have hr58 := hDv.rest
                  by_cases hil : i < m
                  · have hi' : i = st + qs.length := hi
                    have hin : st + qs.length < xs.length := by rw [HXL.out]; omega
                    have ct := hN.cell (i := i) (by rw [mid_length hDv.len, HXL.out]; exact hil)
                    have ft := hN.frozen i
                    have ex : (mid xs st qs)[i]'(by rw [mid_length hDv.len, HXL.out]; exact hil) = xs.getD i 0 := by
                      rw [← getD_eq, hi']
                      exact mid_next hin
                    rw [ex] at ct
                    have hx8 := getD_small HO.out.small i
                    obtain ⟨x, exx⟩ : ∃ x, x = xs.getD i 0 := ⟨_, rfl⟩
                    rw [← exx] at ct hx8
                    have hDn := hidden (hDv.step hin (by rw [← hi']; exact exx.symm) hx8)
                    have hset := hN.set i ((r * 256 + x) / 58)
                    rw [show (mid xs st qs).set i ((r * 256 + x) / 58) = mid xs st (qs ++ [(r * 256 + x) / 58]) from by rw [hi']; exact mid_put hin _,
                      show ((((r * 256 + x) / 58 : Nat)) : Int) = ((r : Int) * 256 + (x : Int)) / 58 from by omega] at hset
                    have HSet := hidden hset
                    have HRs := hidden (hR.other hgN i (.int .u8 (((r : Int) * 256 + (x : Int)) / 58)))
                    have HBs := hidden (hB.setCell (p := ⟨w.heap.size, i, none⟩) (Nat.le_refl _) (.int .u8 (((r : Int) * 256 + (x : Int)) / 58)))
                    clear hset hDv hN hR hB ex exx hi' hin
                    go_wp2
                    go_roundw
                    case rel => exact ⟨qs ++ [(r * 256 + x) / 58], (r * 256 + x) % 58, i + 1, by have h' : i = st + qs.length := hi; show i + 1 = _; rw [List.length_append, List.length_singleton]; omega, by omega, by go_num, by go_num, hDn.out, HSet.out, HRs.out, HBs.out⟩
                    case measure => simp [intOf]; omega
                  · have hi' : i = st + qs.length := hi
                    have hsk := HO.out.skip (by rw [HXL.out]; exact hst) hDv (by rw [HXL.out]; omega)
                    have hzl : (mid xs st qs).length = m := by rw [mid_length hDv.len]; exact HXL.out
                    obtain ⟨zs, ez⟩ : ∃ zs, zs = mid xs st qs := ⟨_, rfl⟩
                    rw [← ez] at hsk hzl hN
                    have HSk := hidden hsk
                    have HZL := hidden hzl
                    have HN := hidden hN
                    have HR := hidden hR
                    have HB := hidden hB
                    have hsz' := hB.size
                    have hSz : S ≤ wr.heap.size := by have := hR.base; omega
                    clear hi' hi hDv hsk hzl ez hN hR hB
                    go_wp2_with (first
                      | (at_builtin; rw [al_idx]; refine wpList_append_lies _ rfl _ _ 22 rfl S 5 i0 _ 1 1 Try.underlying22 hi0 hz0 hz1 hz2 rfl (by omega) _ ls.length (vals ls) rfl (HR.out.alloc _) ⟨wr.heap.size, 0, none⟩ 1 1 [.int .u8 (al r : Int)] rfl rfl (cell_one_new _ _ _) (fun u hu => by rw [List.mem_singleton.1 hu]; rfl) (by omega) (by unfold maxLen; omega) (by omega) (by simp; omega) (wr.heap.size + 1) (by simp) ?_; intro g2 cap2 w2 hown2 hgrow2 hat2 hlt2)
                      | fail)
                    have HR2 := hidden (append_row (d := al r) (ds := ls) rfl hown2)
                    have hBS : Below S wr w2 := ((Below.refl S wr).alloc hSz _).grown hgrow2 (by simp; omega) (fun t ht => by cases ht; exact hgS)
                    have HB2 := hidden ((HB.out.alloc hsz' _).grown hgrow2 (by simp; omega) (fun t ht => by cases ht; exact Nat.le_trans (Nat.le_of_lt hNl) hgS))
                    have hN2 := HN.out.below hBS hNl
                    clear hown2 hgrow2 hat2 HR HB HN hBS
                    go_loop [7] (fun p => ∃ st' : Nat, st' ≤ m ∧ p = .int .i64 st' ∧ Skip ys zs st' (rs ++ [r])) (fun p => m - (intOf p).toNat)
                    case atStart => exact ⟨st, hstm, rfl, HSk.out⟩
                    case round =>
                      clear HSk
                      obtain ⟨st', hs', rfl, hSk⟩ := hrel
                      by_cases hlt' : st' < m
                      · have cz := hN2.cell (i := st') (by rw [HZL.out]; exact hlt')
                        rw [← getD_eq] at cz
                        by_cases hz' : zs.getD st' 0 = 0
                        · have HSn := hidden (hSk.step (by rw [HZL.out]; exact hlt') hz')
                          rw [hz'] at cz
                          clear hSk hz'
                          go_wp2
                          go_round
                          case rel => exact ⟨st' + 1, by omega, by go_num, HSn.out⟩
                          case measure => simp [intOf]; omega
                        · have HOn := hidden (hSk.out (fun _ => hz'))
                          have hz2' : (((zs.getD st' 0 : Nat) : Int) == 0) = false := by rw [beq_eq_false_iff_ne]; omega
                          clear hSk
                          generalize zs.getD st' 0 = y at cz hz' hz2'
                          have HN2 := hidden hN2
                          clear hN2
                          go_wp2
                          go_roundw
                          case rel => exact ⟨zs, rs ++ [r], ls ++ [al r], st', g2, cap2, rfl, by rw [List.length_append]; rfl, by show _ = _; rw [List.map_append, show ls = rs.map al from hls]; rfl, HOn.out, HN2.out, HR2.out, HB2.out⟩
                          case measure => simp [lenOf]; omega
                      · have HOn := hidden (hSk.out (fun h => absurd h (by rw [HZL.out]; exact hlt')))
                        clear hSk
                        have HN2 := hidden hN2
                        clear hN2
                        go_wp2
                        go_roundw
                        case rel => exact ⟨zs, rs ++ [r], ls ++ [al r], st', g2, cap2, rfl, by rw [List.length_append]; rfl, by show _ = _; rw [List.map_append, show ls = rs.map al from hls]; rfl, HOn.out, HN2.out, HR2.out, HB2.out⟩
                        case measure => simp [lenOf]; omega
              · have hE := hO.done (by rw [hxl]; exact hst)
                rw [EY.out] at hE
                have HE := hidden hE
                have hlb : ls.length ≤ 8192 := by
                  have := Canon.len hE (m := m) (small_big (fun d hd => HS.out d (List.mem_of_mem_drop hd)) m (by rw [← EY.out, HYL.out]; exact Nat.le_refl _))
                  omega
                have HR := hidden hR
                have HB := hidden hB
                have hsz' := hB.size
                have hgl := hR.base
                have HLL := hidden hll
                clear hE hR hB hO hN hxl hll
                go_wp2_with (first
                  | (at_make; refine wpList_make_full _ rfl _ _ 22 rfl w.heap.size 5 i0 _ 1 Try.underlying22 hi0 hz0 hz1 .i64 .i64 ((k : Int) + ls.length) ((k : Int) + ls.length) (k + ls.length) rfl rfl (by omega) (by omega) (by rw [hz2]; omega) (by unfold maxLen; omega) hsz' ?_; intro w2 hown2 hgrow2)
                  | fail)
                have hcur := fresh_row hown2
                have HT := hidden hcur
                have HR2 := hidden (HR.out.grown hgrow2)
                have HB2 := hidden (HB.out.grown hgrow2 hsz' (fun t ht => by cases ht))
                have hne : wr.heap.size ≠ g := by omega
                clear hown2 hgrow2 HR HB hcur
                obtain ⟨T, eT⟩ : ∃ T, T = wr.heap.size := ⟨_, rfl⟩
                rw [← eT] at HT hne hsz' hgl ⊢
                clear eT
                go_loopw [12] (fun p wx => ∃ (i : Nat) (cur : List Nat), i ≤ k ∧ p = .int .i64 i ∧ cur.length = k + ls.length ∧ Ones i cur ∧ Blk wx T cur ∧ Row wx S g cap ls ∧ Below w.heap.size w wx) (fun p _ => k - (intOf p).toNat)
                case atStart => exact ⟨0, _, Nat.zero_le _, rfl, by simp, fun t ht => absurd ht (Nat.not_lt_zero _), HT.out, HR2.out, HB2.out⟩
                case round =>
                  clear HT HR2 HB2
                  obtain ⟨i, cur, hi, rfl, hcl, hO, hT, hR, hB⟩ := hrel
                  by_cases hik : i < k
                  · have ct := hT.cell (i := i) (by omega)
                    have ft := hT.frozen i
                    have HO := hidden (hO.step (by omega))
                    have HT := hidden (hT.set i 49)
                    have HR := hidden (hR.other hne i (.int .u8 49))
                    have HB := hidden (hB.setCell (p := ⟨T, i, none⟩) hsz' (.int .u8 49))
                    clear hO hT hR hB
                    generalize cur[i]'(by omega) = y' at ct
                    go_wp2
                    go_roundw
                    case rel => exact ⟨i + 1, cur.set i 49, by omega, by go_num, by rw [List.length_set]; exact hcl, HO.out, HT.out, HR.out, HB.out⟩
                    case measure => simp [intOf]; omega
                  · obtain rfl : k = i := by omega
                    have HO := hidden hO
                    have HT := hidden hT
                    have HR := hidden hR
                    have HB := hidden hB
                    clear hO hT hR hB
                    go_wp2
                    go_loopw [13] (fun p wx => ∃ (i : Nat) (cur : List Nat), i ≤ ls.length ∧ p = .int .i64 i ∧ cur.length = k + ls.length ∧ Ones k cur ∧ Front k ls cur i ∧ Blk wx T cur ∧ Row wx S g cap ls ∧ Below w.heap.size w wx) (fun p _ => ls.length - (intOf p).toNat)
                    case atStart => exact ⟨0, cur, Nat.zero_le _, rfl, hcl, HO.out, fun t ht => absurd ht (Nat.not_lt_zero _), HT.out, HR.out, HB.out⟩
                    case round =>
                      clear HO HT HR HB hcl
                      obtain ⟨i, cur, hi, rfl, hcl, hO, hF, hT, hR, hB⟩ := hrel
                      by_cases hil : i < ls.length
                      · have cd := hR.cell (i := ls.length - 1 - i) (by omega)
                        rw [← getD_eq] at cd
                        have ct := hT.cell (i := k + i) (by omega)
                        have ft := hT.frozen (k + i)
                        obtain ⟨d, ed⟩ : ∃ d, d = ls.getD (ls.length - 1 - i) 0 := ⟨_, rfl⟩
                        have HF := hF.step (by omega)
                        rw [← ed] at cd HF
                        have HF := hidden HF
                        have HO := hidden (hO.keep (i := k + i) (by omega) d)
                        have HT := hidden (hT.set (k + i) d)
                        have HR := hidden (hR.other hne (k + i) (.int .u8 (d : Int)))
                        have HB := hidden (hB.setCell (p := ⟨T, k + i, none⟩) hsz' (.int .u8 (d : Int)))
                        clear hO hF hT hR hB ed
                        generalize cur[k + i]'(by omega) = y' at ct
                        go_wp2
                        go_roundw
                        case rel => exact ⟨i + 1, cur.set (k + i) d, by omega, by go_num, by rw [List.length_set]; exact hcl, HO.out, HF.out, HT.out, HR.out, HB.out⟩
                        case measure => simp [intOf]; omega
                      · obtain rfl : i = ls.length := by omega
                        have eT : cur = text k rs := text_front (hcl.trans (by rw [HLL.out])) hO (by
                          have e : ls = rs.map al := hls
                          rw [← e, ← HLL.out]; exact hF)
                        rw [eT] at hT
                        have hcv := run_string (cap := k + ls.length) hT
                        rw [text_length, ← HLL.out] at hcv
                        have HB := hidden hB
                        generalize hst : strOf (text k rs) = sx at hcv
                        have HST := hidden hst
                        clear hO hF hT hR hB eT hst
                        go_wp2
                        go_ret
                        exact ⟨k, rs, hlead.out, HE.out, congrArg (fun x => Ending.returned (Value.string x)) HST.out.symm, HB.out⟩
    · have hlead := hidden (Lead.mk (by rw [HL.out]; omega) hL (fun h => absurd h (by rw [HL.out]; omega)) : Lead bs k)
      obtain rfl : n = k := by omega
      have hemp : Hid (Canon 58 [] (big 256 (bs.drop n))) := by
        rw [List.drop_eq_nil_of_le (by rw [HL.out]; exact Nat.le_refl _)]
        exact ⟨fun d hd => (by cases hd), rfl, .inl rfl⟩
      clear hL hc
      go_wp2_with (first
        | (at_make; refine wpList_make_full _ rfl _ _ 22 rfl w.heap.size 5 i0 _ 1 Try.underlying22 hi0 hz0 hz1 .i64 .i64 0 0 0 (by first | rfl | simp) (by first | rfl | simp) rfl rfl (by rw [hz2]; omega) (by unfold maxLen; omega) (Nat.le_refl _) ?_; intro w1 hown1 hgrow1)
        | fail)
      have B0 := hidden ((Below.refl w.heap.size w).grown hgrow1 (Nat.le_refl _) (fun j hj => by cases hj))
      have hsz := hgrow1.size
      clear hown1 hgrow1
      refine wp_loop_rounds 1 ?_
      rw [rounds_succ]
      go_wp2_with (first
        | (at_make; refine wpList_make_own _ rfl _ _ 22 rfl w.heap.size 5 i0 _ 1 Try.underlying22 hi0 hz0 hz1 .i64 .i64 1 1 rfl rfl (by omega) (by rw [hz2]; omega) (by unfold maxLen; omega) hsz ?_; intro w2 hown2 hgrow2)
        | fail)
      have B1 := hidden (B0.out.grown hgrow2 hsz (fun j hj => by cases hj))
      have hsz2 := B1.out.size
      clear hown2 hgrow2 B0
      refine wp_loop_rounds 1 ?_
      rw [rounds_succ]
      go_wp2_with (first
        | (at_make; refine wpList_make_full _ rfl _ _ 22 rfl w.heap.size 5 i0 _ 1 Try.underlying22 hi0 hz0 hz1 .i64 .i64 (n : Int) (n : Int) n rfl rfl rfl rfl (by rw [hz2]; omega) (by unfold maxLen; omega) hsz2 ?_; intro w3 hown3 hgrow3)
        | fail)
      have HT := hidden (fresh_row hown3)
      have HB2 := hidden (B1.out.grown hgrow3 hsz2 (fun t ht => by cases ht))
      clear hown3 hgrow3 B1
      obtain ⟨T, eT⟩ : ∃ T, T = w2.heap.size := ⟨_, rfl⟩
      rw [← eT] at HT hsz2 ⊢
      clear eT
      go_loopw [12] (fun p wx => ∃ (i : Nat) (cur : List Nat), i ≤ n ∧ p = .int .i64 i ∧ cur.length = n ∧ Ones i cur ∧ Blk wx T cur ∧ Below w.heap.size w wx) (fun p _ => n - (intOf p).toNat)
      case atStart => exact ⟨0, _, Nat.zero_le _, rfl, by simp, fun t ht => absurd ht (Nat.not_lt_zero _), HT.out, HB2.out⟩
      case round =>
        clear HT HB2
        obtain ⟨i, cur, hi, rfl, hcl, hO, hT, hB⟩ := hrel
        by_cases hik : i < n
        · have ct := hT.cell (i := i) (by omega)
          have ft := hT.frozen i
          have HO := hidden (hO.step (by omega))
          have HT := hidden (hT.set i 49)
          have HB := hidden (hB.setCell (p := ⟨T, i, none⟩) hsz2 (.int .u8 49))
          clear hO hT hB
          generalize cur[i]'(by omega) = y' at ct
          go_wp2
          go_roundw
          case rel => exact ⟨i + 1, cur.set i 49, by omega, by go_num, by rw [List.length_set]; exact hcl, HO.out, HT.out, HB.out⟩
          case measure => simp [intOf]; omega
        · obtain rfl : n = i := by omega
          have eT := text_of (k := n) (ds := []) hcl hO (fun t ht => absurd ht (Nat.not_lt_zero _))
          rw [eT] at hT
          have hcv := run_string (cap := n) hT
          rw [text_length, List.length_nil, Nat.add_zero] at hcv
          have HB := hidden hB
          generalize hst : strOf (text n []) = st at hcv
          have HST := hidden hst
          clear hO hT hB eT hst
          go_wp2
          refine wp_loop_rounds 1 ?_
          rw [rounds_succ]
          go_wp2
          go_ret
          exact ⟨n, [], hlead.out, hemp.out, congrArg (fun x => Ending.returned (Value.string x)) HST.out.symm, HB.out⟩
end Go.Proofs.Qxb6630204a
