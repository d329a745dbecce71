/-
  Seat b6604238a: a slice of strings: its cells; the guards' loops; b1CloneTexts.
-/
import Derived.Test.Qxb6604238aRows
import Derived.WalkKit
import Derived.WalkSpells
import Derived.WalkLawsBesides
import Derived.Handy
import Derived.Deep.OwnRows
namespace Go.Proofs.Qxb6604238a
open Go.RowKit

/-- a row of strings, from ⟨b, off⟩ on -/
structure Texts (w : World) (b off len : Nat) (S : Nat → ByteArray) : Prop where
  c : ∀ k, k < len → w.cell? ⟨b, off + k, none⟩ = some (.string (S k))
  z : ∀ k, k < len → (S k).size ≤ 9223372036854775807

theorem Texts.later {w w' : World} {b off len : Nat} {S : Nat → ByteArray} (h : Texts w b off len S) (hb : Below w.heap.size w w') : Texts w' b off len S :=
  ⟨fun k hk => cell_later hb (h.c k hk), h.z⟩

/-- the lengths of the first k -/
def sumS (S : Nat → ByteArray) : Nat → Nat
  | 0 => 0
  | k + 1 => sumS S k + (S k).size

set_option maxHeartbeats 400000 in
theorem bytes12 (b off len cap : Nat) (S : Nat → ByteArray) (w : World) (hr : Texts w b off len S) (hl : len ≤ 1048576) :
    Calls Try.prog 12 #[.slice (some ⟨b, off, none⟩) len cap] w fun e w' => (e = .returned (.bool true) ∧ w' = w) ∨ (e = .returned (.bool false) ∧ w' = w) := by
  go_enter Try.func12, Try.ntmps12
  go_wp2
  go_loop [3, 4] (fun t i => ∃ k m : Nat, k ≤ len ∧ m ≤ 1048576 ∧ t = .int .i64 m ∧ i = .int .i64 k) (fun _ i => len - (intOf i).toNat)
  case atStart => exact ⟨0, len, Nat.zero_le _, by omega, rfl, rfl⟩
  case round =>
    obtain ⟨k, m, hk, hm, rfl, rfl⟩ := hrel
    by_cases hlt : k < len
    · have c0 := hr.c k hlt
      have z0 := hr.z k hlt
      go_wp2
      · go_ret
        exact .inr ⟨rfl, rfl⟩
      · go_ret
        exact .inr ⟨rfl, rfl⟩
      · go_round
        case rel => exact ⟨k + 1, m + (S k).size, by omega, by omega, by go_num, by go_num⟩
        case measure => simp [intOf]; omega
    · go_wp2
      go_ret
      exact .inl ⟨rfl, rfl⟩

set_option maxHeartbeats 400000 in
theorem bytes17 (b off len cap : Nat) (S : Nat → ByteArray) (w : World) (hr : Texts w b off len S) (hl : len ≤ 1048576) :
    Calls Try.prog 17 #[.slice (some ⟨b, off, none⟩) len cap] w fun e w' => (e = .returned (.bool true) ∧ w' = w) ∨ (e = .returned (.bool false) ∧ w' = w) := by
  go_enter Try.func17, Try.ntmps17
  go_wp2
  go_loop [3, 4] (fun t i => ∃ k m : Nat, k ≤ len ∧ m ≤ 1048576 ∧ t = .int .i64 m ∧ i = .int .i64 k) (fun _ i => len - (intOf i).toNat)
  case atStart => exact ⟨0, len, Nat.zero_le _, by omega, rfl, rfl⟩
  case round =>
    obtain ⟨k, m, hk, hm, rfl, rfl⟩ := hrel
    by_cases hlt : k < len
    · have c0 := hr.c k hlt
      have z0 := hr.z k hlt
      go_wp2
      · go_ret
        exact .inr ⟨rfl, rfl⟩
      · go_ret
        exact .inr ⟨rfl, rfl⟩
      · go_round
        case rel => exact ⟨k + 1, m + (S k).size, by omega, by omega, by go_num, by go_num⟩
        case measure => simp [intOf]; omega
    · go_wp2
      go_ret
      exact .inl ⟨rfl, rfl⟩

theorem Try.info9 : (Try.prog.info? 9).map (fun i => (i.zero, i.size, i.bytes)) = some (some (.string ByteArray.empty), 1, 16) := by kernel_rfl

set_option maxHeartbeats 400000 in
theorem clone_any (b off len cap : Nat) (S : Nat → ByteArray) (w : World) (hr : Texts w b off len S) (hl : len ≤ 65536) :
    Calls Try.prog 13 #[.slice (some ⟨b, off, none⟩) len cap] w fun e w' => e = .returned (.slice (some ⟨w.heap.size, 0, none⟩) len len) ∧ Texts w' w.heap.size 0 len S ∧ w.heap.size < w'.heap.size ∧ Below w.heap.size w w' := by
  have hmk := run_make_row' (P := Try.prog) 28 9 (.string ByteArray.empty) 16 Try.underlying28 Try.info9 rfl .i64 .i64 len (by omega) (by omega)
  have hnil := fun wx => Lib.run_eql_slice_nil (P := Try.prog) wx 28 9 (some ⟨b, off, none⟩) len cap 0 0 Try.underlying28
  go_enter Try.func13, Try.ntmps13
  go_wp2
  clear hmk hnil
  go_loopw [4] (fun i wr => ∃ k : Nat, k ≤ len ∧ i = .int .i64 k ∧ wr.rowIs w.heap.size 9 len (fun j => .string (if j < k then S j else ByteArray.empty)) ∧ Below w.heap.size w wr) (fun i _ => len - (intOf i).toNat)
  case atStart => exact ⟨0, Nat.zero_le _, rfl, (World.rowIs_made w (.string ByteArray.empty) len 9).congr (fun i _ => by simp), (Below.refl _ _).alloc (Nat.le_refl _) _⟩
  case round =>
    obtain ⟨k, hk, rfl, hrow, hbe⟩ := hrel
    by_cases hlt : k < len
    · have hbB : b < w.heap.size := World.block_lt_of_cell? _ _ (hr.c k hlt)
      have c0 := (hbe.cell (p := ⟨b, off + k, none⟩) hbB).trans (hr.c k hlt)
      have r0 := hrow.cell (i := k) hlt
      have r1 := hrow.frozen k
      have n1 : b ≠ w.heap.size := by omega
      have i1 : (0 : Int) ≤ (k : Int) := by omega
      have i2 : (k : Int) < (len : Int) := by omega
      go_wp2
      go_roundw
      case rel => exact ⟨k + 1, by omega, by go_num, (hrow.set k _).congr (fun i _ => by
        by_cases e : i = k
        · subst e; simp
        · have : (i < k + 1) = (i < k) := by simp; omega
          simp [e, this]), hbe.setCell (Nat.le_refl _) _⟩
      case measure => simp [intOf]; omega
    · go_wp2
      go_ret
      refine ⟨rfl, ⟨fun j hj => ?_, hr.z⟩, hrow.lt, hbe⟩
      rw [Nat.zero_add, hrow.cell hj, if_pos (by omega)]

end Go.Proofs.Qxb6604238a
