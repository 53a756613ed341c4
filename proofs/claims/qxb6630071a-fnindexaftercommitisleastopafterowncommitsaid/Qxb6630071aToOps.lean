/-
  Seat b6630071a: toOps: a new row that holds the same eight cells an operation.
-/
import Derived.Test.Qxb6630071aProg
import Derived.Test.Qxb6630071aMem
import Derived.WalkSpells
import Derived.StillTactics
import Derived.Laws.Pointers
import Derived.Laws.OwnMore
import Derived.Deep.RegionHeld3
import Derived.Deep.MidRow
import Derived.KernelRfl
namespace Go.Proofs.Qxb6630071a
open Go.RowKit Go.Maps

theorem Try.info33 : (Try.prog.info? 33).map (fun i => (i.zero, i.size, i.bytes)) = some (some (.agg #[.int .i64 0, .int .i64 0, .string ByteArray.empty, .bool false, .string ByteArray.empty, .bool false, .bool false, .int .i64 0]), 8, 72) := by kernel_rfl

/-- What a fresh row is good for. -/
theorem there_of_owns {w : World} {base g n : Nat} {e : TypeId} {xs : List Value} (h : w.ownsRow base e 8 (.slice (some ⟨g, 0, none⟩) n n) n xs) : w.there g 0 (n * 8) := fun j hj => by
  have hl := h.1
  refine ⟨?_, by simpa using h.frozenAt j⟩
  rw [Nat.zero_add, h.cellAt j hj, List.getElem?_eq_getElem (by omega)]
  rfl

theorem far (w : World) (b o : Nat) (v : Value) (b' o' : Nat) (h : b' ≠ b) : (w.setCell ⟨b, o, none⟩ v).cell? ⟨b', o', none⟩ = w.cell? ⟨b', o', none⟩ :=
  World.cell?_setCell_other _ _ _ _ (fun e => h (by cases e; rfl))

theorem there_cell {w : World} {b o n j : Nat} (h : w.there b o n) (hj : j < n) : ∃ v, w.cell? ⟨b, o + j, none⟩ = some v ∧ w.frozen? ⟨b, o + j, none⟩ = false := by
  obtain ⟨h1, h2⟩ := h j hj
  obtain ⟨v, hv⟩ := Option.isSome_iff_exists.1 h1
  exact ⟨v, hv, h2⟩

theorem hidden {p : Prop} (h : p) : Hid p := h

theorem stored {w wr : World} {B n k : Nat} {R : Nat → Rec} (hbr : Below B w wr) (hthr : wr.there B 0 (n * 8)) (hrow : RowAt wr B 0 k R) (hsz : B < wr.heap.size) (hlt : k < n) :
    (wr.setCells B (k * 8) (R k).cells).drew.there B 0 (n * 8) ∧ Below B w (wr.setCells B (k * 8) (R k).cells).drew ∧ RowAt (wr.setCells B (k * 8) (R k).cells).drew B 0 (k + 1) R ∧ B < (wr.setCells B (k * 8) (R k).cells).drew.heap.size := by
  have t8 := there_mid hthr (k := k * 8) (by omega)
  have hr := hrow.snoc (by simpa using t8)
  rw [Nat.zero_add] at hr
  refine ⟨by rw [World.there_drew]; exact World.there_setCells hthr _ _ _, ?_, fun i hi => by rw [World.rangeAt_drew]; exact hr i hi, ?_⟩
  · exact ((((((((hbr.setCell (Nat.le_refl _) _).setCell (Nat.le_refl _) _).setCell (Nat.le_refl _) _).setCell (Nat.le_refl _) _).setCell (Nat.le_refl _) _).setCell (Nat.le_refl _) _).setCell (Nat.le_refl _) _).setCell (Nat.le_refl _) _).drew
  · simpa [Rec.cells, World.setCells] using hsz

set_option maxRecDepth 100000 in
set_option maxHeartbeats 800000 in
theorem toOps_any (b off n cap : Nat) (R : Nat → Rec) (w : World) (hn : n ≤ 4096) (hb : b < w.heap.size) (h : RowAt w b off n R) :
    Calls Try.prog 6 #[.slice (some ⟨b, off, none⟩) n cap] w fun e w' => e = .returned (.slice (some ⟨w.heap.size, 0, none⟩) n n) ∧ Below w.heap.size w w' ∧ RowAt w' w.heap.size 0 n R ∧ w.heap.size < w'.heap.size := by
  obtain ⟨i0, hi, hz0, hz1, hz2⟩ := info_parts Try.info33
  have hnil : ∀ (w : World) (a : Option Addr) (n c n' c' : Nat), (binOp .eql 22 (.slice a n c) (.slice none n' c')).run Try.prog w = .ok (.bool a.isNone) w := fun w a n c n' c' => Lib.run_eql_slice_nil w _ _ a n c n' c' Try.underlying22
  go_enter Try.func6, Try.ntmps6
  go_wp2_with (first
    | (at_make; refine wpList_make_full _ rfl _ _ 26 rfl w.heap.size 33 i0 _ 8 Try.underlying26 hi hz0 hz1 .i64 .i64 n n n rfl rfl rfl rfl (by rw [hz2]; omega) (by unfold maxLen; omega) (Nat.le_refl _) ?_; intro w1 hown hgrow)
    | go_in)
  have hth := there_of_owns hown
  have hbel : Below w.heap.size w w1 := (Below.refl _ _).grown hgrow (Nat.le_refl _) (fun j hj => by cases hj)
  have hsz : w.heap.size < w1.heap.size := (hown.lt _ rfl).2
  clear hown hgrow
  go_loopw [4] (fun i wr => ∃ k : Nat, k ≤ n ∧ i = .int .i64 k ∧ wr.there w.heap.size 0 (n * 8) ∧ Below w.heap.size w wr ∧ RowAt wr w.heap.size 0 k R ∧ w.heap.size < wr.heap.size)
    (fun i _ => n - (intOf i).toNat)
  case atStart => exact ⟨0, Nat.zero_le _, rfl, hth, hbel, fun i hi => absurd hi (Nat.not_lt_zero _), hsz⟩
  case round =>
    obtain ⟨k, hk, rfl, hthr, hbr, hrow, hszr⟩ := hrel
    clear hth hbel hsz
    by_cases hlt : k < n
    · have hr := h.below hbr hb
      have c0 := hr.c0 k hlt
      have c1 := hr.c1 k hlt
      have c2 := hr.c2 k hlt
      have c3 := hr.c3 k hlt
      have c4 := hr.c4 k hlt
      have c5 := hr.c5 k hlt
      have c6 := hr.c6 k hlt
      have c7 := hr.c7 k hlt
      have t8 := there_mid hthr (k := k * 8) (by omega)
      rw [Nat.zero_add] at t8
      obtain ⟨v0, d0, f0⟩ := there_cell t8 (j := 0) (by omega)
      obtain ⟨v1, d1, f1⟩ := there_cell t8 (j := 1) (by omega)
      obtain ⟨v2, d2, f2⟩ := there_cell t8 (j := 2) (by omega)
      obtain ⟨v3, d3, f3⟩ := there_cell t8 (j := 3) (by omega)
      obtain ⟨v4, d4, f4⟩ := there_cell t8 (j := 4) (by omega)
      obtain ⟨v5, d5, f5⟩ := there_cell t8 (j := 5) (by omega)
      obtain ⟨v6, d6, f6⟩ := there_cell t8 (j := 6) (by omega)
      obtain ⟨v7, d7, f7⟩ := there_cell t8 (j := 7) (by omega)
      have hk0 : (0 : Int) ≤ (k : Int) := Int.natCast_nonneg _
      have hkn : (k : Int) < (n : Int) := by omega
      have hne : b ≠ w.heap.size := by omega
      rw [Nat.add_zero] at d0 f0
      have L := hidden (stored hbr hthr hrow hszr hlt)
      clear hthr hr t8 hrow hbr hszr
      go_wp2
      go_region_held3 (fun w' => w'.cell? ⟨b, off + k * 8, none⟩ = some (.int .i64 (R k).k) ∧ w'.cell? ⟨b, off + k * 8 + 1, none⟩ = some (.int .i64 (R k).t) ∧ w'.cell? ⟨b, off + k * 8 + 2, none⟩ = some (.string (R k).it) ∧ w'.cell? ⟨b, off + k * 8 + 3, none⟩ = some (.bool (R k).rg) ∧ w'.cell? ⟨b, off + k * 8 + 4, none⟩ = some (.string (R k).to) ∧ w'.cell? ⟨b, off + k * 8 + 5, none⟩ = some (.bool (R k).te) ∧ w'.cell? ⟨b, off + k * 8 + 6, none⟩ = some (.bool (R k).hf) ∧ w'.cell? ⟨b, off + k * 8 + 7, none⟩ = some (.int .i64 (R k).fr))
        (first | (go_keep; done) | (refine ⟨?_, ?_, ?_, ?_, ?_, ?_, ?_, ?_⟩ <;> (simp only [World.cell?_drew, far _ _ _ _ _ _ hne]; assumption))) (fail)
      go_wp2
      go_roundw
      case rel => exact ⟨k + 1, by omega, by go_num, L.out⟩
      case measure => simp [intOf]; omega
    · go_wp2
      go_ret
      obtain rfl : k = n := by omega
      exact ⟨rfl, hbr, hrow, hszr⟩

/-- nil stays nil. -/
theorem toOps_nil (w : World) : Calls Try.prog 6 #[.slice none 0 0] w fun e w' => e = .returned (.slice none 0 0) ∧ w' = w := by
  have hnil : ∀ (w : World) (a : Option Addr) (n c n' c' : Nat), (binOp .eql 22 (.slice a n c) (.slice none n' c')).run Try.prog w = .ok (.bool a.isNone) w := fun w a n c n' c' => Lib.run_eql_slice_nil w _ _ a n c n' c' Try.underlying22
  go_enter Try.func6, Try.ntmps6
  go_wp2
  go_ret
  exact ⟨rfl, rfl⟩

/-- Empty stays empty. -/
theorem toOps_empty (a : Addr) (cap : Nat) (w : World) : Calls Try.prog 6 #[.slice (some a) 0 cap] w fun e w' => e = .returned (.slice (some ⟨w.heap.size, 0, none⟩) 0 0) ∧ Below w.heap.size w w' := by
  obtain ⟨i0, hi, hz0, hz1, hz2⟩ := info_parts Try.info33
  have hnil : ∀ (w : World) (a : Option Addr) (n c n' c' : Nat), (binOp .eql 22 (.slice a n c) (.slice none n' c')).run Try.prog w = .ok (.bool a.isNone) w := fun w a n c n' c' => Lib.run_eql_slice_nil w _ _ a n c n' c' Try.underlying22
  go_enter Try.func6, Try.ntmps6
  go_wp2_with (first
    | (at_make; refine wpList_make_full _ rfl _ _ 26 rfl w.heap.size 33 i0 _ 8 Try.underlying26 hi hz0 hz1 .i64 .i64 0 0 0 rfl rfl rfl rfl (by omega) (by unfold maxLen; omega) (Nat.le_refl _) ?_; intro w1 hown hgrow)
    | go_in)
  have hbel : Below w.heap.size w w1 := (Below.refl _ _).grown hgrow (Nat.le_refl _) (fun j hj => by cases hj)
  clear hown hgrow
  refine wp_loop_rounds 1 ?_
  rw [rounds_succ]
  go_wp2
  go_ret
  exact ⟨rfl, hbel⟩
end Go.Proofs.Qxb6630071a
