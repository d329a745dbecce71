/-
  Seat b6604214a: the slot's flags; slot.is, slot.state, slot.ref.
-/
import Derived.Test.Qxb6604214aSmall
import Derived.Deep.OwnRows
import Derived.Deep.RegionHeld3
import Derived.Deep.AppendLies
namespace Go.Proofs.Qxb6604214a
open Go.RowKit

/-- a slot's four cells -/
structure SlotAt (w : World) (hb : Nat) (at' wt ln fl : Int) : Prop where
  s0 : w.cell? ⟨hb, 0, none⟩ = some (.int .i64 at')
  s1 : w.cell? ⟨hb, 1, none⟩ = some (.int .u64 wt)
  s2 : w.cell? ⟨hb, 2, none⟩ = some (.int .u32 ln)
  s3 : w.cell? ⟨hb, 3, none⟩ = some (.int .u8 fl)

/-- has the slot the flag m? -/
def hasF (fl m : Int) : Bool := bits BinOp.and .u8 fl m == m

theorem hasF_all : ∀ n : Fin 256, (bits BinOp.and .u8 (n.val : Int) 4 != 0) = hasF (n.val : Int) 4 ∧ (bits BinOp.and .u8 (n.val : Int) 1 != 0) = hasF (n.val : Int) 1 ∧ (bits BinOp.and .u8 (n.val : Int) 16 != 0) = hasF (n.val : Int) 16 := by
  decide +kernel

theorem hasF_ne {fl : Int} (h0 : 0 ≤ fl) (h1 : fl ≤ 255) : (bits BinOp.and .u8 fl 4 != 0) = hasF fl 4 ∧ (bits BinOp.and .u8 fl 1 != 0) = hasF fl 1 ∧ (bits BinOp.and .u8 fl 16 != 0) = hasF fl 16 := by
  have := hasF_all ⟨fl.toNat, by omega⟩
  simpa [Int.toNat_of_nonneg h0] using this

set_option maxHeartbeats 400000 in
theorem is_any (hb : Nat) (fl m : Int) (w : World) (h3 : w.cell? ⟨hb, 3, none⟩ = some (.int .u8 fl)) :
    Calls Try.prog 34 #[.pointer (some ⟨hb, 0, none⟩), .int .u8 m] w fun e w' => e = .returned (.bool (hasF fl m)) ∧ w' = w := by
  go_enter Try.func34, Try.ntmps34
  go_wp2
  go_ret
  exact ⟨rfl, rfl⟩

set_option maxHeartbeats 400000 in
theorem state_nil (w : World) : Calls Try.prog 31 #[.pointer none] w fun e w' => e = .returned (.int .u8 0) ∧ w' = w := by
  go_enter Try.func31, Try.ntmps31
  go_wp2
  go_ret
  exact ⟨rfl, rfl⟩

set_option maxHeartbeats 400000 in
theorem state_filled (hb : Nat) (fl : Int) (w : World) (h3 : w.cell? ⟨hb, 3, none⟩ = some (.int .u8 fl)) (h4 : hasF fl 4 = true) :
    Calls Try.prog 31 #[.pointer (some ⟨hb, 0, none⟩)] w fun e w' => e = .returned (.int .u8 1) ∧ w' = w := by
  go_enter Try.func31, Try.ntmps31
  go_wp2_with (go_at_call 34; refine (is_any hb fl _ _ h3).mono ?_; rintro e w' ⟨rfl, rfl⟩)
  go_ret
  exact ⟨rfl, rfl⟩

set_option maxHeartbeats 400000 in
theorem state_committed (hb : Nat) (fl : Int) (w : World) (h3 : w.cell? ⟨hb, 3, none⟩ = some (.int .u8 fl)) (h4 : hasF fl 4 = false) (h1 : hasF fl 1 = true) :
    Calls Try.prog 31 #[.pointer (some ⟨hb, 0, none⟩)] w fun e w' => e = .returned (.int .u8 3) ∧ w' = w := by
  go_enter Try.func31, Try.ntmps31
  go_wp2_with (go_at_call 34; refine (is_any hb fl _ _ h3).mono ?_; rintro e w' ⟨rfl, rfl⟩)
  go_ret
  exact ⟨rfl, rfl⟩

set_option maxHeartbeats 400000 in
theorem state_written (hb : Nat) (fl : Int) (w : World) (h3 : w.cell? ⟨hb, 3, none⟩ = some (.int .u8 fl)) (h4 : hasF fl 4 = false) (h1 : hasF fl 1 = false) :
    Calls Try.prog 31 #[.pointer (some ⟨hb, 0, none⟩)] w fun e w' => e = .returned (.int .u8 2) ∧ w' = w := by
  go_enter Try.func31, Try.ntmps31
  go_wp2_with (go_at_call 34; refine (is_any hb fl _ _ h3).mono ?_; rintro e w' ⟨rfl, rfl⟩)
  go_ret
  exact ⟨rfl, rfl⟩

set_option maxHeartbeats 400000 in
theorem ref_any (hb : Nat) (at' wt ln fl : Int) (w : World) (h : SlotAt w hb at' wt ln fl) :
    Calls Try.prog 32 #[.pointer (some ⟨hb, 0, none⟩)] w fun e w' => e = .returned (.agg #[.int .i64 at', .int .u32 ln, .bool (hasF fl 16)]) ∧ w' = (w.alloc (.cells #[.int .i64 at', .int .u32 ln, .bool (hasF fl 16)] 42)).drew := by
  have h0 := h.s0
  have h2 := h.s2
  have h3 := h.s3
  have hlt : hb < w.heap.size := World.block_lt_of_cell? _ _ h0
  have n0 := World.new_ne w ⟨hb, 0, none⟩ h0
  have n2 := World.new_ne w ⟨hb, 2, none⟩ h2
  have n3 := World.new_ne w ⟨hb, 3, none⟩ h3
  go_enter Try.func32, Try.ntmps32
  go_wp2
  go_region_held3 (fun w' => w'.cell? ⟨hb, 0, none⟩ = some (.int .i64 at') ∧ w'.cell? ⟨hb, 2, none⟩ = some (.int .u32 ln) ∧ w'.cell? ⟨hb, 3, none⟩ = some (.int .u8 fl)) (go_keep)
    ((go_at_call 34; refine (is_any hb fl _ _ ?_).mono ?_; (simp [*]); rintro e w' ⟨rfl, rfl⟩))
  all_goals go_wp2
  all_goals go_returns
  all_goals exact ⟨rfl, rfl⟩

end Go.Proofs.Qxb6604214a
