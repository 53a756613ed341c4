/-
  Seat b6630105a: the law FnAtIsLineAndColumnOfOffset, walked.
-/
import Derived.Test.Qxb6630105aAt
import Derived.Test.Qxb6630105aSmall
import Derived.Test.Qxb6630105aWidth
import Derived.OpenShut
namespace Go.Proofs.Qxb6630105a
open Go.RowKit

/-- z is the place of the last newline of l; -1 where there is none. -/
def LastNl (l : List UInt8) (z : Int) : Prop :=
  (z = -1 ∧ nl l = 0) ∨ ∃ a b : List UInt8, z = (a.length : Int) ∧ l = a ++ 10 :: b ∧ nl b = 0
theorem lastNl_nil : LastNl [] (-1) := .inl ⟨rfl, rfl⟩
theorem LastNl.hit (l : List UInt8) {c : UInt8} (hc : ((c.toNat : Int) == 10) = true) : LastNl (l ++ [c]) l.length := by
  have : c = 10 := UInt8.toNat_inj.1 (by have : c.toNat = 10 := by have := beq_iff_eq.1 hc; omega
                                         rw [this]; rfl)
  subst this
  exact .inr ⟨l, [], rfl, rfl, rfl⟩
theorem LastNl.miss {l : List UInt8} {z : Int} (h : LastNl l z) {c : UInt8} (hc : ((c.toNat : Int) == 10) = false) : LastNl (l ++ [c]) z := by
  have h1 := nl_snoc [] c
  rw [if_neg (by simp [hc])] at h1
  rcases h with ⟨rfl, h0⟩ | ⟨a, b, rfl, rfl, h0⟩
  · exact .inl ⟨rfl, by rw [nl_append, h0, Nat.zero_add]; exact h1⟩
  · refine .inr ⟨a, b ++ [c], rfl, by simp, ?_⟩
    rw [nl_append, h0, Nat.zero_add]
    exact h1
theorem LastNl.range {l : List UInt8} {z : Int} (h : LastNl l z) : -1 ≤ z ∧ z < l.length := by
  rcases h with ⟨rfl, _⟩ | ⟨a, b, rfl, rfl, _⟩
  · omega
  · simp; omega
/-- The column, as the law reckons it. -/
theorem LastNl.col {l : List UInt8} {z : Int} (h : LastNl l z) (p : Int × Int) (hp : wrap64 p.2 = p.2) :
    (z < 0 → (go l p).2 = wrap64 (p.2 + rc l)) ∧ (∀ j : Nat, z = j → (go l p).2 = wrap64 (1 + rc (l.drop (j + 1)))) := by
  rcases h with ⟨rfl, h0⟩ | ⟨a, b, rfl, rfl, h0⟩
  · exact ⟨fun _ => go_col _ l p (Nat.le_refl _) h0 hp, fun j h => by omega⟩
  · refine ⟨fun h => by omega, fun j hj => ?_⟩
    obtain rfl : a.length = j := by omega
    rw [go_col_nl a b p h0]
    congr 3
    simp

theorem past1 {w w1 : World} {o1 : Obj} (hb : Below (w.alloc o1).heap.size (w.alloc o1) w1) : w1.heap[w.heap.size]? = some o1 ∧ w.heap.size + 1 ≤ w1.heap.size ∧ Below w.heap.size w w1 := by
  have hs : (w.alloc o1).heap.size = w.heap.size + 1 := by simp
  rw [hs] at hb
  have hz := hb.size
  rw [hs] at hz
  refine ⟨(hb.block _ (by omega)).trans ?_, hz, ((Below.refl _ _).alloc (Nat.le_refl _) _).trans (hb.mono (by omega))⟩
  show (w.heap.push o1)[_]? = _
  rw [Array.getElem?_push, if_pos rfl]

theorem ext_drop (s : ByteArray) (a : Nat) : (s.extract a s.size).data.toList = s.data.toList.drop a := by
  rw [ByteArray.data_extract, Array.toList_extract, List.extract_eq_take_drop, List.take_of_length_le]
  rw [List.length_drop, Array.length_toList]
  exact Nat.le_refl _
theorem rc_small {s : ByteArray} (hs : s.size ≤ 262144) : rc s.data.toList ≤ 262144 := by
  have h1 := rc_le _ s.data.toList (Nat.le_refl _)
  rw [Array.length_toList] at h1
  exact Nat.le_trans h1 hs
theorem col_of {s : ByteArray} {j : Nat} {L C : Int} (hs : (s.extract (j + 1) s.size).size ≤ 262144) (h : ((L, C) : Int × Int).2 = wrap64 (1 + rc (s.data.toList.drop (j + 1)))) : C = 1 + rc (s.extract (j + 1) s.size).data.toList := by
  have h1 := rc_small hs
  rw [← ext_drop] at h
  have h2 : C = wrap64 (1 + rc (s.extract (j + 1) s.size).data.toList) := h
  rw [h2]
  unfold wrap64
  omega
theorem wrap_of_wf {n : Int} (h : (Lit.int .i64 n).wf = true) : wrap64 n = n := by
  obtain ⟨h1, h2⟩ := bounds_i64 h
  unfold wrap64
  omega

set_option maxRecDepth 100000 in
set_option maxHeartbeats 1000000 in
theorem line_any (a0 a1 a2 a5 : ByteArray) (a3 a4 a6 a7 a8 : Int) (w : World) (w6 : (Lit.int .i64 a6).wf = true) (w7 : (Lit.int .i64 a7).wf = true) :
    Calls Try.prog 3 #[.string a0, .string a1, .string a2, .int .i64 a3, .int .i64 a4, .string a5, .int .i64 a6, .int .i64 a7, .int .i64 a8] w fun e w' => e = .returned (.bool true) ∧ Below w.heap.size w w' := by
  go_enter Try.func3, Try.ntmps3
  go_wp2_with fail
  refine (bytes5 a0 a1 a2 a5 a3 a4 a6 a7 a8 _).mono ?_
  rintro e w' ⟨⟨x, rfl⟩, rfl⟩
  cases x
  · go_wp2
    go_ret
    exact ⟨rfl, Below.refl _ _⟩
  by_cases g0 : a0.size ≤ 262144
  · by_cases g1 : a1.size ≤ 262144
    · by_cases g2 : a2.size ≤ 262144
      · by_cases g5 : a5.size ≤ 262144
        · by_cases hk : 0 ≤ a8 ∧ a8 ≤ a1.size
          · obtain ⟨hk0, hk1⟩ := hk
            obtain ⟨off, rfl⟩ := Int.eq_ofNat_of_zero_le hk0
            have ho : off ≤ a1.size := by omega
            have E1 := hidden (go_line _ (a1.extract 0 off).data.toList (a6, a7) (Nat.le_refl _) (wrap_of_wf w6))
            have E2 := hidden (fun (z : Int) (hz : LastNl (a1.extract 0 off).data.toList z) => hz.col (a6, a7) (wrap_of_wf w7))
            have hsz : (a1.extract 0 off).size ≤ 262144 := by simp; omega
            go_wp2_with fail
            refine (at_any a0 a1 a2 a5 a3 a4 a6 a7 off _ ho g1).mono ?_
            rintro e w1 ⟨rfl, hb1⟩
            obtain ⟨_, hz1, hB1⟩ := past1 hb1
            have HB1 := hidden hB1
            clear hb1 hB1
            generalize go (a1.extract 0 off).data.toList (a6, a7) = P at *
            obtain ⟨L1, C1⟩ := P
            go_wp2
            generalize a1.extract 0 off = s at *
            go_loop [22, 23] (fun q p => ∃ (k : Nat) (z : Int), k ≤ s.size ∧ p = .int .i64 k ∧ q = .int .i64 z ∧ LastNl (s.data.toList.take k) z) (fun _ p => s.size - (intOf p).toNat)
            case atStart => exact ⟨0, -1, Nat.zero_le _, rfl, rfl, lastNl_nil⟩
            case round =>
              obtain ⟨k, z, hk, rfl, rfl, hl⟩ := hrel
              by_cases hlt : k < s.size
              · have hts := take_snoc s k hlt
                have hlen : (s.data.toList.take k).length = k := by rw [List.length_take, Array.length_toList]; show min k s.size = k; omega
                have HT := hidden hts
                have HL := hidden hlen
                have hl' := hidden hl
                clear hts hlen hl
                go_wp2
                · have h10 : ((s[k].toNat : Int) == 10) = true := by assumption
                  go_round
                  case rel =>
                    have := LastNl.hit (s.data.toList.take k) h10
                    rw [HL.out, ← HT.out] at this
                    exact ⟨k + 1, k, by omega, by go_num, rfl, this⟩
                  case measure => simp [intOf]; omega
                · have h10 : ((s[k].toNat : Int) == 10) = false := by assumption
                  go_round
                  case rel =>
                    have := hl'.out.miss h10
                    rw [← HT.out] at this
                    exact ⟨k + 1, z, by omega, by go_num, rfl, this⟩
                  case measure => simp [intOf]; omega
              · rw [List.take_of_length_le (by rw [Array.length_toList]; show s.size ≤ k; omega)] at hl
                obtain ⟨F1, F2⟩ := E2.out z hl
                have hr := hl.range
                have hls : s.data.toList.length = s.size := Array.length_toList
                rw [hls] at hr
                clear hl hls
                by_cases hz : z < 0
                · have HF := hidden (F1 hz)
                  clear F1 F2
                  go_wp2_with fail
                  refine (runes_any s _ hsz).mono ?_
                  rintro e w2 ⟨rfl, rfl⟩
                  go_wp2_with fail
                  refine (newlines_any s _ hsz).mono ?_
                  rintro e w2 ⟨rfl, rfl⟩
                  have hC : C1 = wrap64 (a7 + rc s.data.toList) := HF.out
                  have hL : L1 = wrap64 (a6 + nl s.data.toList) := E1.out
                  have hbel := hidden HB1.out
                  clear HF E1 E2 HB1
                  subst hC hL
                  go_wp2
                  go_ret
                  exact ⟨rfl, (hbel.out.alloc hbel.out.size _).alloc (by have := hbel.out.size; simp; omega) _⟩
                · obtain ⟨j, rfl⟩ := Int.eq_ofNat_of_zero_le (show 0 ≤ z by omega)
                  have HF := hidden (F2 j rfl)
                  clear F1 F2
                  have hj1 : j + 1 ≤ s.size := by omega
                  have hj2 : (0 : Int) ≤ (j : Int) + 1 := by omega
                  have hsz2 : (s.extract (j + 1) s.size).size ≤ 262144 := by simp; omega
                  have HC := hidden (col_of (L := L1) hsz2 HF.out)
                  have hrc := rc_small hsz2
                  clear HF
                  go_wp2_with fail
                  generalize s.extract (j + 1) s.size = t at *
                  refine (runes_any t _ hsz2).mono ?_
                  rintro e w2 ⟨rfl, rfl⟩
                  generalize rc t.data.toList = n at *
                  go_wp2_with fail
                  refine (newlines_any s _ hsz).mono ?_
                  rintro e w2 ⟨rfl, rfl⟩
                  have hC : C1 = 1 + n := HC.out
                  clear HC
                  have hL : L1 = wrap64 (a6 + nl s.data.toList) := E1.out
                  have hbel := hidden HB1.out
                  clear E1 E2 HB1
                  subst hC hL
                  go_wp2
                  go_ret
                  exact ⟨rfl, (hbel.out.alloc hbel.out.size _).alloc (by have := hbel.out.size; simp; omega) _⟩
          · go_wp2
            all_goals (go_ret; exact ⟨rfl, Below.refl _ _⟩)
        · go_wp2
          go_ret
          exact ⟨rfl, Below.refl _ _⟩
      · go_wp2
        go_ret
        exact ⟨rfl, Below.refl _ _⟩
    · go_wp2
      go_ret
      exact ⟨rfl, Below.refl _ _⟩
  · go_wp2
    go_ret
    exact ⟨rfl, Below.refl _ _⟩
end Go.Proofs.Qxb6630105a
