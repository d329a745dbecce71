/-
  Seat b6604214a: the small callees: RecordLen, entryRef.end, zzb1RecEnd, zzb1Follows.
-/
import Derived.Test.Qxb6604214aRows
import Derived.WalkKit
import Derived.WalkSpells
import Derived.WalkLawsBesides
import Derived.Deep.QuietTactic
import Derived.BigQuiet
import Derived.Lib.QuietBelow
import Derived.Handy
namespace Go.Proofs.Qxb6604214a
open Go.RowKit

theorem ret_bool {a b : Bool} (h : a = b) : Ending.returned (.bool a) = .returned (.bool b) := by rw [h]
theorem ret_int {k : IntKind} {a b : Int} (h : a = b) : Ending.returned (.int k a) = .returned (.int k b) := by rw [h]

/-- may 'next' be read right behind a record that ends at e? -/
def follB (e a : Int) (m : Bool) : Bool := !m && decide (e ≤ a) && decide (a - e ≤ 4096)

set_option maxHeartbeats 400000 in
theorem recordLen_any (n : Int) (w : World) (h0 : 0 ≤ n) (h1 : n < 4294967296) :
    Calls Try.prog 35 #[.int .i64 n] w fun e w' => e = .returned (.int .i64 (9 + n)) ∧ w' = w := by
  go_enter Try.func35, Try.ntmps35
  go_wp2
  go_ret
  exact ⟨rfl, rfl⟩

set_option maxHeartbeats 400000 in
theorem end_any (a l : Int) (m : Bool) (w : World) (a0 : 0 ≤ a) (a1 : a ≤ 4611686018427387904) (h0 : 0 ≤ l) (h1 : l < 4294967296) :
    Calls Try.prog 33 #[.agg #[.int .i64 a, .int .u32 l, .bool m]] w fun e w' => e = .returned (.int .i64 (a + 9 + l)) ∧ Below w.heap.size w w' := by
  go_enter Try.func33, Try.ntmps33
  go_wp2
  go_quiet ((go_at_call 35; exact Calls.quiet_of_same (recordLen_any _ _ h0 h1)))
  go_wp2
  go_ret
  exact ⟨ret_int (by omega), below_drewN ((Below.refl _ _).alloc (Nat.le_refl _) _) _⟩

set_option maxHeartbeats 400000 in
theorem recEnd_any (a l : Int) (m : Bool) (w : World) (a0 : 0 ≤ a) (a1 : a ≤ 4611686018427387904) (h0 : 0 ≤ l) (h1 : l < 4294967296) :
    Calls Try.prog 23 #[.agg #[.int .i64 a, .int .u32 l, .bool m]] w fun e w' => e = .returned (.int .i64 (a + 9 + l)) ∧ Below w.heap.size w w' := by
  go_enter Try.func23, Try.ntmps23
  go_wp2
  go_ret
  exact ⟨rfl, (Below.refl _ _).alloc (Nat.le_refl _) _⟩

set_option maxHeartbeats 400000 in
theorem follows_any (a l : Int) (m : Bool) (c d : Int) (m' : Bool) (w : World) (a0 : 0 ≤ a) (a1 : a ≤ 4611686018427387904) (h0 : 0 ≤ l) (h1 : l < 4294967296)
    (c0 : 0 ≤ c) (c1 : c ≤ 4611686018427387904) :
    Calls Try.prog 22 #[.agg #[.int .i64 a, .int .u32 l, .bool m], .agg #[.int .i64 c, .int .u32 d, .bool m']] w fun e w' => e = .returned (.bool (follB (a + 9 + l) c m')) ∧ Below w.heap.size w w' := by
  cases m'
  · go_enter Try.func22, Try.ntmps22
    go_wp2
    · go_ret
      exact ⟨ret_bool (by unfold follB; simp; omega), by go_grown⟩
    · go_ret
      exact ⟨ret_bool (by unfold follB; simp; omega), by go_grown⟩
  · go_enter Try.func22, Try.ntmps22
    go_wp2
    go_ret
    exact ⟨rfl, ((Below.refl _ _).alloc (Nat.le_refl _) _).alloc (by simp) _⟩

end Go.Proofs.Qxb6604214a
