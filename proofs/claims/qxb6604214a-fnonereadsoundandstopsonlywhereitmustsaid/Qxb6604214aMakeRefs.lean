/-
  Seat b6604214a: zzb1Refs: the refs copied, one by one, into a new row.
-/
import Derived.Test.Qxb6604214aRange
import Derived.Deep.OwnRows
import Derived.Deep.RegionHeld3
namespace Go.Proofs.Qxb6604214a
open Go.RowKit

theorem Try.info42 : (Try.prog.info? 42).map (fun i => (i.zero, i.size, i.bytes)) = some (some (.agg #[.int .i64 0, .int .u32 0, .bool false]), 3, 16) := by kernel_rfl

/-- cell c of a row of refs -/
def refCell (A L : Nat → Int) (M : Nat → Bool) (c : Nat) : Value := if c % 3 = 0 then .int .i64 (A (c / 3)) else if c % 3 = 1 then .int .u32 (L (c / 3)) else .bool (M (c / 3))
/-- the first k refs are laid; behind them zeros -/
def rowUpTo (A L : Nat → Int) (M : Nat → Bool) (k c : Nat) : Value := if c < k * 3 then refCell A L M c else refCell (fun _ => 0) (fun _ => 0) (fun _ => false) c

set_option maxHeartbeats 400000 in
theorem newRef_any (a l : Int) (m : Bool) (w : World) :
    Calls Try.prog 30 #[.int .i64 a, .int .u32 l, .bool m] w fun e w' => e = .returned (.agg #[.int .i64 a, .int .u32 l, .bool m]) ∧ w' = w.alloc (.cells #[.int .i64 a, .int .u32 l, .bool m] 42) := by
  go_enter Try.func30, Try.ntmps30
  go_wp2
  go_returns
  exact ⟨rfl, rfl⟩

theorem make_refs (len : Nat) (hl : len ≤ 65536) (w : World) :
    (Instr.makeSlice 38 (.int .i64 (len : Int)) (.int .i64 (len : Int))).run Try.prog w = .ok (.slice (some ⟨w.heap.size, 0, none⟩) len len) (w.alloc (.cells (madeCells #[.int .i64 0, .int .u32 0, .bool false] (len * 3)) 42)) := by
  obtain ⟨i, hi, h1, h2, h3⟩ := info_parts Try.info42
  have := run_make (P := Try.prog) w 38 42 i _ Try.underlying38 hi h1 .i64 .i64 (len : Int) (len : Int) (by omega) (Int.le_refl _) (by rw [h3]; omega) (by omega)
  rw [h2] at this
  simp only [Int.toNat_natCast] at this
  exact this

theorem made_row (w : World) (len : Nat) (A L : Nat → Int) (M : Nat → Bool) : (w.alloc (.cells (madeCells #[.int .i64 0, .int .u32 0, .bool false] (len * 3)) 42)).rowIs w.heap.size 42 (len * 3) (rowUpTo A L M 0) := by
  refine ⟨_, Deep.blk_alloc_new _ _, size_madeCells _ _, fun i hi => ?_⟩
  have h : i % 3 = 0 ∨ i % 3 = 1 ∨ i % 3 = 2 := by omega
  rcases h with h | h | h <;> simp [madeCells, hi, rowUpTo, refCell, h]

theorem row_step {w : World} {g n k : Nat} {A L : Nat → Int} {M : Nat → Bool} (h : w.rowIs g 42 n (rowUpTo A L M k)) :
    (((w.setCell ⟨g, k * 3, none⟩ (.int .i64 (A k))).setCell ⟨g, k * 3 + 1, none⟩ (.int .u32 (L k))).setCell ⟨g, k * 3 + 2, none⟩ (.bool (M k))).rowIs g 42 n (rowUpTo A L M (k + 1)) := by
  refine (((h.set (k * 3) _).set (k * 3 + 1) _).set (k * 3 + 2) _).congr fun c _ => ?_
  unfold rowUpTo refCell
  by_cases h2 : c = k * 3 + 2
  · subst h2
    rw [if_pos rfl, if_pos (by omega), if_neg (by omega), if_neg (by omega), show (k * 3 + 2) / 3 = k by omega]
  · rw [if_neg h2]
    by_cases h1 : c = k * 3 + 1
    · subst h1
      rw [if_pos rfl, if_pos (by omega), if_neg (by omega), if_pos (by omega), show (k * 3 + 1) / 3 = k by omega]
    · rw [if_neg h1]
      by_cases h0 : c = k * 3
      · subst h0
        rw [if_pos rfl, if_pos (by omega), if_pos (by omega), show (k * 3) / 3 = k by omega]
      · rw [if_neg h0]
        by_cases hc : c < k * 3
        · rw [if_pos hc, if_pos (show c < (k + 1) * 3 by omega)]
        · rw [if_neg hc, if_neg (show ¬ c < (k + 1) * 3 by omega)]

set_option maxHeartbeats 400000 in
theorem refs_any (b off len cap : Nat) (A L : Nat → Int) (M : Nat → Bool) (w : World) (hr : Refs w b off len A L M) (hl : len ≤ 65536) (h1 : 1 ≤ len) :
    Calls Try.prog 21 #[.slice (some ⟨b, off, none⟩) len cap] w fun e w' => ∃ g, e = .returned (.slice (some ⟨g, 0, none⟩) len len) ∧ w'.rowIs g 42 (len * 3) (refCell A L M) ∧ Below w.heap.size w w' := by
  have hmk := make_refs len hl
  have hnil := fun wx => Lib.run_eql_slice_nil (P := Try.prog) wx 44 51 (some ⟨b, off, none⟩) len cap 0 0 Try.underlying44
  go_enter Try.func21, Try.ntmps21
  go_wp2
  clear hmk hnil
  go_loopw [4] (fun i wr => ∃ k : Nat, k ≤ len ∧ i = .int .i64 k ∧ wr.rowIs w.heap.size 42 (len * 3) (rowUpTo A L M k) ∧ Below w.heap.size w wr) (fun i _ => len - (intOf i).toNat)
  case atStart => exact ⟨0, Nat.zero_le _, rfl, made_row w len A L M, (Below.refl _ _).alloc (Nat.le_refl _) _⟩
  case round =>
    obtain ⟨k, hk, rfl, hrow, hbel⟩ := hrel
    by_cases hlt : k < len
    · have hbB : b < w.heap.size := World.block_lt_of_cell? _ _ (hr.c0 k hlt)
      have k0 := (hbel.cell (p := ⟨b, off + k * 3, none⟩) hbB).trans (hr.c0 k hlt)
      have k1 := (hbel.cell (p := ⟨b, off + k * 3 + 1, none⟩) hbB).trans (hr.c1 k hlt)
      have k2 := (hbel.cell (p := ⟨b, off + k * 3 + 2, none⟩) hbB).trans (hr.c2 k hlt)
      have hwB : w.heap.size < wr.heap.size := hrow.lt
      have r0 := hrow.cell (i := k * 3) (by omega)
      have r1 := hrow.cell (i := k * 3 + 1) (by omega)
      have r2 := hrow.cell (i := k * 3 + 2) (by omega)
      have f0 := hrow.frozen (k * 3)
      have f1 := hrow.frozen (k * 3 + 1)
      have f2 := hrow.frozen (k * 3 + 2)
      have i1 : (0 : Int) ≤ (k : Int) := by omega
      have i2 : (k : Int) < (len : Int) := by omega
      have n1 : b ≠ w.heap.size := by omega
      have n2 : w.heap.size ≠ b := by omega
      go_wp2_with (fail)
      go_region_held3 (fun w' => w'.cell? ⟨b, off + k * 3, none⟩ = some (.int .i64 (A k)) ∧ w'.cell? ⟨b, off + k * 3 + 1, none⟩ = some (.int .u32 (L k)) ∧ w'.cell? ⟨b, off + k * 3 + 2, none⟩ = some (.bool (M k))) (go_keep)
        ((go_at_call 30; refine (newRef_any _ _ _ _).mono ?_; rintro e w' ⟨rfl, rfl⟩))
      go_wp2
      go_roundw
      case rel => exact ⟨k + 1, by omega, by go_num, ((row_step hrow).alloc _).drew, ((((hbel.setCell (Nat.le_refl _) _).setCell (Nat.le_refl _) _).setCell (Nat.le_refl _) _).alloc (by simp; omega) _).drew⟩
      case measure => simp [intOf]; omega
    · go_wp2
      go_ret
      refine ⟨w.heap.size, rfl, hrow.congr fun c hc => ?_, hbel⟩
      unfold rowUpTo
      rw [if_pos (by omega)]

end Go.Proofs.Qxb6604214a
