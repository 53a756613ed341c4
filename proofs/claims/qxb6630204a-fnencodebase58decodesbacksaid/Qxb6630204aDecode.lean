/-
  Seat b6630204a: zzB58Decode, walked.
-/
import Derived.Test.Qxb6630204aBack
import Derived.Laws.BitsLemmas
namespace Go.Proofs.Qxb6630204a
open Go.RowKit

theorem and255 (x : Int) (h0 : 0 ≤ x) (h1 : x < 1000000) : bits .and .i64 x 255 = x % 256 :=
  bits_mask .i64 63 (by decide) (fun n h0 h1 => by rw [IntKind.wrap_i64]; omega) 8 (by decide) x h0 (Int.lt_trans h1 (by decide))

set_option maxRecDepth 100000 in
set_option maxHeartbeats 4000000 in
theorem decode_st (st : ByteArray) (k n : Nat) (ds bs : List Nat) (w : World) (hn : n ≤ 4096) (hl : bs.length = n) (hs : ∀ d ∈ bs, d < 256) (hk : Lead bs k) (hds : Canon 58 ds (big 256 (bs.drop k)))
    (hSz : st.size = k + ds.length) (hg1 : ∀ i (h : i < st.size), i < k → (st[i]'h).toNat = 49) (hg2 : ∀ i (h : i < st.size), k ≤ i → (st[i]'h).toNat = al (ds.reverse.getD (i - k) 0)) :
    Calls Try.prog 9 #[.string st] w fun e w' => ∃ g, e = .returned (.tuple #[.slice (some ⟨g, 0, none⟩) n n, .bool true]) ∧ Blk w' g bs ∧ Below w.heap.size w w' := by
  obtain ⟨i0, hi0, hz0, hz1, hz2⟩ := info_parts Try.info5
  have hkl : k ≤ n := by rw [← hl]; exact hk.le
  have hLe := len_le hl hs hk hds
  have HK := hidden hk
  have HDS := hidden hds
  have HS := hidden hs
  have HL := hidden hl
  have HSZ := hidden hSz
  have G1 := hidden hg1
  have G2 := hidden hg2
  have hks : k ≤ st.size := by omega
  have hst : st.size ≤ 8192 := by omega
  clear hk hds hs hl hg1 hg2 hSz hLe
  go_enter Try.func9, Try.ntmps9
  go_wp2
  go_loop [4] (fun p => ∃ j : Nat, j ≤ k ∧ p = .int .i64 j) (fun p => k - (intOf p).toNat)
  case atStart => exact ⟨0, Nat.zero_le _, rfl⟩
  case round =>
    obtain ⟨j, hj, rfl⟩ := hrel
    by_cases hlt : j < k
    · have hjs : j < st.size := by omega
      have hb := G1.out j hjs hlt
      go_wp2
      go_round
      case rel => exact ⟨j + 1, by omega, by go_num⟩
      case measure => simp [intOf]; omega
    · obtain rfl : k = j := by omega
      by_cases hex : k < st.size
      · have hdl : 0 < ds.length := by have := HSZ.out; omega
        have hb := G2.out k hex (Nat.le_refl _)
        rw [Nat.sub_self] at hb
        have hd0 := top_ne HDS.out hdl
        have hd58 : ds.reverse.getD 0 0 < 58 := rev_small HDS.out _ (by rw [getD_eq (by rw [List.length_reverse]; exact hdl)]; exact List.getElem_mem _)
        have hne : (((al (ds.reverse.getD 0 0) : Nat) : Int) == 49) = false := by
          rw [beq_eq_false_iff_ne]
          intro h
          exact hd0 (al_inj hd58 (by decide) (Int.ofNat.inj (h.trans (rfl : (49 : Int) = ((al 0 : Nat) : Int)))))
        clear hd0 hd58 hdl
        obtain ⟨es, ees⟩ : ∃ es, es = ds.reverse := ⟨_, rfl⟩
        rw [← ees] at hb hne
        have EES := hidden ees
        clear ees
        generalize al (es.getD 0 0) = y at hb hne
        go_wp2_with (first
          | (at_make; refine wpList_make_own _ rfl _ _ 22 rfl w.heap.size 5 i0 _ 1 Try.underlying22 hi0 hz0 hz1 .i64 .i64 ((st.size : Int) + 1) (st.size + 1) rfl rfl (by omega) (by rw [hz2]; omega) (by unfold maxLen; omega) (Nat.le_refl _) ?_; intro w1 hown1 hgrow1)
          | fail)
        clear hb hne
        have R0 := hidden (show Row w1 w.heap.size w.heap.size (st.size + 1) [] from hown1)
        have B0 := hidden ((Below.refl w.heap.size w).grown hgrow1 (Nat.le_refl _) (fun j hj => by cases hj))
        have hsm : Hid (∀ d ∈ es, d < 58) := by
          rw [EES.out]
          exact rev_small HDS.out
        have hel : Hid (es.length = st.size - k) := by
          have := HSZ.out
          show es.length = _
          rw [EES.out, List.length_reverse]
          omega
        clear hown1 hgrow1
        go_loopw [5, 6] (fun v p wr => ∃ (i : Nat) (le : List Nat) (g cap : Nat), k ≤ i ∧ i ≤ st.size ∧ p = .int .i64 i ∧ v = .slice (some ⟨g, 0, none⟩) le.length cap ∧ Row wr w.heap.size g cap le ∧ Dec es (i - k) le ∧ Below w.heap.size w wr) (fun _ p _ => st.size - (intOf p).toNat)
        case atStart => exact ⟨k, [], _, _, Nat.le_refl _, hks, rfl, rfl, R0.out, by rw [Nat.sub_self]; exact dec_zero es, B0.out⟩
        case round =>
          clear R0 B0
          obtain ⟨i, le, g, cap, hki, his, rfl, rfl, hR, hE, hB⟩ := hrel
          have hll := hE.len hsm.out
          by_cases hil : i < st.size
          · have hb := G2.out i hil hki
            rw [← EES.out] at hb
            have hjl : i - k < es.length := by rw [hel.out]; omega
            have hd58 : es.getD (i - k) 0 < 58 := hsm.out _ (by rw [getD_eq hjl]; exact List.getElem_mem _)
            have hT := hidden (dec_turn_zero es (i - k) le)
            have HR := hidden hR
            have HE := hidden hE
            have HB := hidden hB
            have HJL := hidden hjl
            obtain ⟨d, ed⟩ : ∃ d, d = es.getD (i - k) 0 := ⟨_, rfl⟩
            rw [← ed] at hb hd58 hT
            clear hR hE hB ed hjl
            obtain ⟨y, ey⟩ : ∃ y, y = al d := ⟨_, rfl⟩
            rw [← ey] at hb
            have EY := hidden ey
            clear ey
            go_wp2_with fail
            rw [EY.out]
            refine (index_any d hd58 _).mono ?_
            rintro e w' ⟨rfl, rfl⟩
            clear hb EY
            go_wp2
            go_loopw [8, 9] (fun q p wx => ∃ (fs : List Nat) (c : Nat), fs.length ≤ le.length ∧ p = .int .i64 fs.length ∧ q = .int .i64 c ∧ c ≤ 57 ∧ DecTurn es (i - k) le fs c ∧ Row wx w.heap.size g cap (fs ++ le.drop fs.length) ∧ Below w.heap.size w wx) (fun _ p _ => le.length - (intOf p).toNat)
            case atStart => exact ⟨[], d, Nat.zero_le _, rfl, rfl, by omega, hT.out, HR.out, HB.out⟩
            case round =>
              clear HR HB hT
              obtain ⟨fs, c, hfl, rfl, rfl, hc57, hTu, hRx, hBx⟩ := hrel
              by_cases hfi : fs.length < le.length
              · have hg := hRx.cell (i := fs.length) (by rw [mid_len hfl]; exact hfi)
                rw [mid_get hfi] at hg
                have fz := hRx.frozen fs.length
                have hgB := hRx.base.1
                have hy : le[fs.length] < 256 := Canon.small HE.out _ (List.getElem_mem _)
                obtain ⟨y, ey⟩ : ∃ y, y = le[fs.length] := ⟨_, rfl⟩
                rw [← ey] at hg hy
                have hTn := hidden (hTu.step hfi ey.symm)
                have hset := hRx.set fs.length ((c + y * 58) % 256)
                rw [mid_set hfi, show ((((c + y * 58) % 256 : Nat)) : Int) = ((c : Int) + (y : Int) * 58) % 256 from by omega] at hset
                have HSet := hidden hset
                have HBs := hidden (hBx.setCell (p := ⟨g, fs.length, none⟩) hgB (.int .u8 (((c : Int) + (y : Int) * 58) % 256)))
                have hand := and255 ((c : Int) + (y : Int) * 58) (by omega) (by omega)
                clear hset hTu hRx hBx ey
                go_wp2
                go_roundw
                case rel => exact ⟨fs ++ [(c + y * 58) % 256], (c + y * 58) / 256, by simp; omega, by simp, by go_num, by omega, hTn.out, HSet.out, HBs.out⟩
                case measure => simp [intOf]; omega
              · have hEq : fs.length = le.length := by omega
                have hW := HE.out.way (c := c) HJL.out hTu hEq
                have hRes : Row wr w.heap.size g cap fs := by
                  rw [hEq, List.drop_length, List.append_nil] at hRx
                  exact hRx
                have HW := hidden hW
                have HRe := hidden hRes
                have HBx := hidden hBx
                clear hW hRes hTu hRx hBx
                have HEq := hidden hEq
                clear hEq
                go_wp2
                go_loopw [5, 8] (fun v q wy => ∃ (fs : List Nat) (c g cap : Nat), v = .slice (some ⟨g, 0, none⟩) fs.length cap ∧ q = .int .i64 c ∧ c ≤ 57 ∧ DecWay es (i - k) fs c ∧ Row wy w.heap.size g cap fs ∧ Below w.heap.size w wy) (fun _ q _ => (intOf q).toNat)
                case atStart => exact ⟨fs, c, g, cap, by rw [HEq.out], rfl, hc57, HW.out, HRe.out, HBx.out⟩
                case round =>
                  clear HW HRe HBx
                  obtain ⟨fs', c', g', cap', rfl, rfl, hc', hW', hR', hB'⟩ := hrel
                  by_cases hc0 : 0 < c'
                  · have hfl' := hW'.len hsm.out hc0
                    have HP := hidden (hW'.push hc0)
                    have HR' := hidden hR'
                    have HB' := hidden hB'
                    have hsz := hB'.size
                    clear hW' hR' hB'
                    have e256 : ((((c' % 256 : Nat)) : Int)) = (c' : Int) % 256 := by omega
                    have E256 := hidden e256
                    have hand := and255 (c' : Int) (by omega) (by omega)
                    clear e256
                    go_wp2_with (first
                      | (at_builtin; refine wpList_append_lies _ rfl _ _ 22 rfl w.heap.size 5 i0 _ 1 1 Try.underlying22 hi0 hz0 hz1 hz2 rfl (by omega) _ fs'.length (vals fs') rfl (HR'.out.alloc _) ⟨wr.heap.size, 0, none⟩ 1 1 [.int .u8 ((c' : Int) % 256)] rfl rfl (cell_one_new _ _ _) (fun u hu => by rw [List.mem_singleton.1 hu]; rfl) (by omega) (by unfold maxLen; omega) (by omega) (by simp; omega) (wr.heap.size + 1) (by simp) ?_; intro g2 cap2 w2 hown2 hgrow2 hat2 hlt2)
                      | fail)
                    have hgb := HR'.out.base.1
                    have HR2 := hidden (append_row (d := c' % 256) (ds := fs') (by rw [E256.out]) hown2)
                    have HB2 := hidden ((HB'.out.alloc hsz _).grown hgrow2 (by simp; omega) (fun t ht => by cases ht; exact hgb))
                    clear hown2 hgrow2 hat2 HR' HB'
                    go_roundw
                    case rel => exact ⟨fs' ++ [c' % 256], c' / 256, g2, cap2, by simp, by go_num, by omega, HP.out, HR2.out, HB2.out⟩
                    case measure => simp [intOf]; omega
                  · obtain rfl : c' = 0 := by omega
                    have HE2 := hidden hW'.done
                    have HR2 := hidden hR'
                    have HB2 := hidden hB'
                    clear hW' hR' hB'
                    go_wp2
                    go_roundw
                    case rel => exact ⟨i + 1, fs', g', cap', by omega, by omega, by go_num, rfl, HR2.out, by rw [show i + 1 - k = i - k + 1 by omega]; exact HE2.out, HB2.out⟩
                    case measure => simp [intOf]; omega
          · have his' : i - k = ds.length := by have := HSZ.out; omega
            have hle : le = (bs.drop k).reverse := by
              rw [his', EES.out] at hE
              exact back HK.out HS.out HDS.out hE
            have hnl : k + le.length = n := by
              have := HL.out
              rw [hle, List.length_reverse, List.length_drop]
              omega
            have HLE := hidden hle
            have HNL := hidden hnl
            have hll2 : le.length ≤ 4096 := by omega
            have HR := hidden hR
            have HB := hidden hB
            have hsz := hB.size
            have hgl := hR.base
            clear hE hle hnl his' hR hB hll hel hsm
            go_wp2_with (first
              | (at_make; refine wpList_make_full _ rfl _ _ 22 rfl w.heap.size 5 i0 _ 1 Try.underlying22 hi0 hz0 hz1 .i64 .i64 ((k : Int) + le.length) ((k : Int) + le.length) (k + le.length) rfl rfl (by omega) (by omega) (by rw [hz2]; omega) (by unfold maxLen; omega) hsz ?_; intro w2 hown2 hgrow2)
              | fail)
            have hcur := fresh_row hown2
            have HT := hidden hcur
            have HR2 := hidden (HR.out.grown hgrow2)
            have HB2 := hidden (HB.out.grown hgrow2 hsz (fun t ht => by cases ht))
            have hne : wr.heap.size ≠ g := by omega
            clear hown2 hgrow2 HR HB hcur
            obtain ⟨T, eT⟩ : ∃ T, T = wr.heap.size := ⟨_, rfl⟩
            rw [← eT] at HT hne hsz hgl ⊢
            clear eT
            go_loopw [11] (fun p wx => ∃ (i : Nat) (cur : List Nat), i ≤ le.length ∧ p = .int .i64 i ∧ cur.length = k + le.length ∧ Lz cur k ∧ Front k le cur i ∧ Blk wx T cur ∧ Row wx w.heap.size g cap le ∧ Below w.heap.size w wx) (fun p _ => le.length - (intOf p).toNat)
            case atStart => exact ⟨0, _, Nat.zero_le _, rfl, by simp, lz_rep _ _, fun t ht => absurd ht (Nat.not_lt_zero _), HT.out, HR2.out, HB2.out⟩
            case round =>
              clear HT HR2 HB2
              obtain ⟨i, cur, hi, rfl, hcl, hO, hF, hT, hR, hB⟩ := hrel
              by_cases hil : i < le.length
              · have cd := hR.cell (i := le.length - 1 - i) (by omega)
                rw [← getD_eq] at cd
                have ct := hT.cell (i := k + i) (by omega)
                have ft := hT.frozen (k + i)
                obtain ⟨d, ed⟩ : ∃ d, d = le.getD (le.length - 1 - i) 0 := ⟨_, rfl⟩
                have HF := hF.step (by omega)
                rw [← ed] at cd HF
                have HF := hidden HF
                have HO := hidden (hO.keep (i := k + i) (by omega) d)
                have HT := hidden (hT.set (k + i) d)
                have HR := hidden (hR.other hne (k + i) (.int .u8 (d : Int)))
                have HB := hidden (hB.setCell (p := ⟨T, k + i, none⟩) hsz (.int .u8 (d : Int)))
                clear hO hF hT hR hB ed
                generalize cur[k + i]'(by omega) = y' at ct
                go_wp2
                go_roundw
                case rel => exact ⟨i + 1, cur.set (k + i) d, by omega, by go_num, by rw [List.length_set]; exact hcl, HO.out, HF.out, HT.out, HR.out, HB.out⟩
                case measure => simp [intOf]; omega
              · obtain rfl : i = le.length := by omega
                have eT : cur = bs := bytes_front HK.out HLE.out hcl hO hF
                rw [eT] at hT
                have HT := hidden hT
                have HB := hidden hB
                clear hO hF hT hR hB eT hcl
                go_wp2
                refine bodyPost_ret (v := .tuple #[.slice (some ⟨T, 0, none⟩) (k + le.length) (k + le.length), .bool true]) (by simp [results, Try.results9]) rfl ?_
                rw [HNL.out]
                exact ⟨T, rfl, HT.out, HB.out⟩
      · have hks' : k = st.size := by omega
        have hd0 : ds.length = 0 := by have := HSZ.out; omega
        have hE0 : ([] : List Nat) = (bs.drop k).reverse := by
          refine back HK.out HS.out HDS.out ?_
          rw [hd0]
          exact dec_zero _
        have hnk : n = k := by
          have h := congrArg List.length hE0
          have := HL.out
          rw [List.length_reverse, List.length_drop, List.length_nil] at h
          omega
        have HE0 := hidden hE0
        have HKS := hidden hks'
        have HNK := hidden hnk
        clear hd0 hE0 hks' hnk
        go_wp2_with (first
          | (at_make; refine wpList_make_own _ rfl _ _ 22 rfl w.heap.size 5 i0 _ 1 Try.underlying22 hi0 hz0 hz1 .i64 .i64 ((st.size : Int) + 1) (st.size + 1) rfl rfl (by omega) (by rw [hz2]; omega) (by unfold maxLen; omega) (Nat.le_refl _) ?_; intro w1 hown1 hgrow1)
          | fail)
        have B0 := hidden ((Below.refl w.heap.size w).grown hgrow1 (Nat.le_refl _) (fun j hj => by cases hj))
        have hsz := B0.out.size
        clear hown1 hgrow1
        refine wp_loop_rounds 1 ?_
        rw [rounds_succ]
        go_wp2_with (first
          | (at_make; refine wpList_make_full _ rfl _ _ 22 rfl w.heap.size 5 i0 _ 1 Try.underlying22 hi0 hz0 hz1 .i64 .i64 (k : Int) (k : Int) k rfl rfl rfl rfl (by rw [hz2]; omega) (by unfold maxLen; omega) hsz ?_; intro w2 hown2 hgrow2)
          | fail)
        have HT := hidden (fresh_row hown2)
        have HB2 := hidden (B0.out.grown hgrow2 hsz (fun t ht => by cases ht))
        clear hown2 hgrow2 B0
        obtain ⟨T, eT⟩ : ∃ T, T = w1.heap.size := ⟨_, rfl⟩
        rw [← eT] at HT hsz ⊢
        clear eT
        refine wp_loop_rounds 1 ?_
        rw [rounds_succ]
        go_wp2
        refine bodyPost_ret (v := .tuple #[.slice (some ⟨T, 0, none⟩) k k, .bool true]) (by simp [results, Try.results9]) rfl ?_
        have eB : List.replicate k 0 = bs := bytes_front HK.out HE0.out (by simp) (lz_rep _ _) (fun t ht => absurd ht (Nat.not_lt_zero _))
        have hT := HT.out
        rw [eB] at hT
        rw [HNK.out]
        exact ⟨T, rfl, hT, HB2.out⟩

theorem decode_any (k n : Nat) (ds bs : List Nat) (w : World) (hn : n ≤ 4096) (hl : bs.length = n) (hs : ∀ d ∈ bs, d < 256) (hk : Lead bs k) (hds : Canon 58 ds (big 256 (bs.drop k))) :
    Calls Try.prog 9 #[.string (strOf (text k ds))] w fun e w' => ∃ g, e = .returned (.tuple #[.slice (some ⟨g, 0, none⟩) n n, .bool true]) ∧ Blk w' g bs ∧ Below w.heap.size w w' := by
  have hSz : (strOf (text k ds)).size = k + ds.length := by rw [strOf_size, text_length]
  refine decode_st _ k n ds bs w hn hl hs hk hds hSz (fun i h hi => by rw [strOf_get (text_small k ds), text_one ds hi]) (fun i h hi => ?_)
  rw [strOf_get (text_small k ds)]
  have := text_rev (k := k) (j := i - k) (ds := ds) (by omega)
  rwa [show k + (i - k) = i by omega] at this
end Go.Proofs.Qxb6630204a
