/-
  Seat b6630204a: zzSameBytes and zzB58Index, walked; a string's letters.
-/
import Derived.Test.Qxb6630204aLong
namespace Go.Proofs.Qxb6630204a
open Go.RowKit

theorem foldl_data : ∀ (zs : List Int) (acc : ByteArray), (zs.foldl (fun r n => r.push (UInt8.ofNat n.toNat)) acc).data.toList = acc.data.toList ++ zs.map (fun n => UInt8.ofNat n.toNat)
  | [], acc => by simp
  | z :: zs, acc => by
    rw [List.foldl_cons, foldl_data zs]
    simp [ByteArray.push]
theorem strOf_list (ns : List Nat) : (strOf ns).data.toList = ns.map (fun d => UInt8.ofNat d) := by
  unfold strOf
  rw [foldl_data, List.map_map]
  rfl
theorem strOf_size (ns : List Nat) : (strOf ns).size = ns.length := by
  have h := congrArg List.length (strOf_list ns)
  rw [List.length_map, Array.length_toList] at h
  exact h
theorem strOf_get {ns : List Nat} (hs : ∀ d ∈ ns, d < 256) {i : Nat} (h : i < (strOf ns).size) : ((strOf ns)[i]'h).toNat = ns.getD i 0 := by
  have hi : i < ns.length := by rw [← strOf_size]; exact h
  have e : (strOf ns)[i]'h = (strOf ns).data.toList[i]'(by rw [strOf_list, List.length_map]; exact hi) := rfl
  rw [e, getD_eq hi]
  simp only [strOf_list, List.getElem_map]
  have := hs _ (List.getElem_mem hi)
  rw [UInt8.toNat_ofNat']
  omega
theorem al_lt (d : Nat) : al d < 256 := by
  by_cases h : d < 58
  · have key : ∀ d : Fin 58, al d.val < 256 := by decide +kernel
    exact key ⟨d, h⟩
  · unfold al
    rw [List.getD_eq_getElem?_getD, List.getElem?_eq_none (by simp [alpha]; omega)]
    decide
theorem al_inj {i d : Nat} (hi : i < 58) (hd : d < 58) (h : al i = al d) : i = d := by
  have key : ∀ i d : Fin 58, al i.val = al d.val → i.val = d.val := by decide +kernel
  exact key ⟨i, hi⟩ ⟨d, hd⟩ h
theorem text_small (k : Nat) (ds : List Nat) : ∀ d ∈ text k ds, d < 256 := fun d hd => by
  rcases List.mem_append.1 hd with hd | hd
  · rw [(List.mem_replicate.1 hd).2]; decide
  · obtain ⟨x, _, rfl⟩ := List.mem_map.1 (List.mem_reverse.1 hd)
    exact al_lt x

/-- zzSameBytes at two blocks that hold the same. -/
theorem same_any (b1 b2 n : Nat) (bs : List Nat) (w : World) (hn : n ≤ 1048576) (hl : bs.length = n) (h1 : Blk w b1 bs) (h2 : Blk w b2 bs) :
    Calls Try.prog 10 #[.slice (some ⟨b1, 0, none⟩) n n, .slice (some ⟨b2, 0, none⟩) n n] w fun e w' => e = .returned (.bool true) ∧ Below w.heap.size w w' := by
  have HL := hidden hl
  clear hl
  go_enter Try.func10, Try.ntmps10
  go_wp2
  go_loopw [5] (fun p wr => ∃ (i q : Nat), i ≤ n ∧ p = .int .i64 i ∧ wr = w.drewN q) (fun p _ => n - (intOf p).toNat)
  case atStart => exact ⟨0, 0, Nat.zero_le _, rfl, rfl⟩
  case round =>
    obtain ⟨i, q, hi, rfl, rfl⟩ := hrel
    by_cases hlt : i < n
    · have x1 := h1.cell (i := i) (by rw [HL.out]; exact hlt)
      have x2 := h2.cell (i := i) (by rw [HL.out]; exact hlt)
      have i0 : (0 : Int) ≤ (i : Int) := Int.natCast_nonneg _
      have i1 : (i : Int) < (n : Int) := by omega
      generalize bs[i]'(by rw [HL.out]; exact hlt) = z at x1 x2
      clear h1 h2
      go_wp2
      go_quiet (fail)
      go_wp2
      go_roundw
      case rel => exact ⟨i + 1, _, by omega, by go_num, rfl⟩
      case measure => simp [intOf]; omega
    · go_wp2
      go_ret
      exact ⟨rfl, below_drewN (Below.refl _ _) _⟩

theorem same_none (a1 a2 : Option Addr) (c1 c2 : Nat) (w : World) : Calls Try.prog 10 #[.slice a1 0 c1, .slice a2 0 c2] w fun e w' => e = .returned (.bool true) ∧ Below w.heap.size w w' := by
  go_enter Try.func10, Try.ntmps10
  go_wp2
  refine wp_loop_rounds 1 ?_
  rw [rounds_succ]
  go_wp2
  go_ret
  exact ⟨rfl, Below.refl _ _⟩

set_option maxRecDepth 100000 in
theorem index_any (d : Nat) (hd : d < 58) (w : World) : Calls Try.prog 11 #[.int .u8 (al d : Int)] w fun e w' => e = .returned (.int .i64 (d : Int)) ∧ w' = w := by
  go_enter Try.func11, Try.ntmps11
  go_wp2
  go_loop [3] (fun p => ∃ i : Nat, i ≤ d ∧ p = .int .i64 i) (fun p => 58 - (intOf p).toNat)
  case atStart => exact ⟨0, Nat.zero_le _, rfl⟩
  case round =>
    obtain ⟨i, hi, rfl⟩ := hrel
    have hi58 : i < 58 := by omega
    have hx : ((⟨#[49, 50, 51, 52, 53, 54, 55, 56, 57, 65, 66, 67, 68, 69, 70, 71, 72, 74, 75, 76, 77, 78, 80, 81, 82, 83, 84, 85, 86, 87, 88, 89, 90, 97, 98, 99, 100, 101, 102, 103, 104, 105, 106, 107, 109, 110, 111, 112, 113, 114, 115, 116, 117, 118, 119, 120, 121, 122]⟩ : ByteArray)[i]'hi58).toNat = al i := al_idx i hi58
    by_cases hlt : i < d
    · have hne : ((al i : Int) == (al d : Int)) = false := by
        rw [beq_eq_false_iff_ne]
        intro h
        have := al_inj hi58 hd (Int.ofNat.inj h)
        omega
      generalize al i = x at *
      generalize al d = y at *
      go_wp2
      go_round
      case rel => exact ⟨i + 1, by omega, by go_num⟩
      case measure => simp [intOf]; omega
    · obtain rfl : i = d := by omega
      generalize al i = x at *
      go_wp2
      go_ret
      exact ⟨rfl, rfl⟩
end Go.Proofs.Qxb6630204a
