/-
  Seat b6604214a: a slice of refs that came in; zzb1RefsInRange.
-/
import Derived.Test.Qxb6604214aSmall
namespace Go.Proofs.Qxb6604214a
open Go.RowKit

/-- a row of refs: three cells each, from ⟨b, off⟩ on -/
structure Refs (w : World) (b off len : Nat) (A L : Nat → Int) (M : Nat → Bool) : Prop where
  c0 : ∀ k, k < len → w.cell? ⟨b, off + k * 3, none⟩ = some (.int .i64 (A k))
  c1 : ∀ k, k < len → w.cell? ⟨b, off + k * 3 + 1, none⟩ = some (.int .u32 (L k))
  c2 : ∀ k, k < len → w.cell? ⟨b, off + k * 3 + 2, none⟩ = some (.bool (M k))
  l0 : ∀ k, k < len → 0 ≤ L k ∧ L k < 4294967296

/-- every place in the range that the law speaks of -/
def InRange (len : Nat) (A : Nat → Int) : Prop := ∀ k, k < len → 0 ≤ A k ∧ A k ≤ 4611686018427387904

set_option maxHeartbeats 400000 in
theorem inRange_any (b off len cap : Nat) (A L : Nat → Int) (M : Nat → Bool) (w : World) (hr : Refs w b off len A L M) (hl : len ≤ 65536) :
    Calls Try.prog 19 #[.slice (some ⟨b, off, none⟩) len cap] w fun e w' => (e = .returned (.bool false) ∧ w' = w) ∨ (e = .returned (.bool true) ∧ InRange len A ∧ w' = w) := by
  go_enter Try.func19, Try.ntmps19
  go_wp2
  go_loop [3] (fun i => ∃ k : Nat, k ≤ len ∧ i = .int .i64 k ∧ Hid (∀ j, j < k → 0 ≤ A j ∧ A j ≤ 4611686018427387904)) (fun i => len - (intOf i).toNat)
  case atStart => exact ⟨0, Nat.zero_le _, rfl, fun j hj => absurd hj (Nat.not_lt_zero j)⟩
  case round =>
    obtain ⟨k, hk, rfl, hh⟩ := hrel
    by_cases hlt : k < len
    · have h0 := hr.c0 k hlt
      go_wp2
      · go_ret
        exact .inl ⟨rfl, rfl⟩
      · go_round
        case rel => exact ⟨k + 1, by omega, by go_num, fun j hj => by
          rcases Nat.lt_or_eq_of_le (Nat.le_of_lt_succ hj) with h | h
          · exact hh.out j h
          · subst h; omega⟩
        case measure => simp [intOf]; omega
      · go_ret
        exact .inl ⟨rfl, rfl⟩
    · go_wp2
      go_ret
      exact .inr ⟨rfl, fun j hj => hh.out j (by omega), rfl⟩

end Go.Proofs.Qxb6604214a
