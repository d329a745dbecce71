/-
  Seat b6604238a: the walks of b1JSONNumberStep, b1JSONNumberAutomaton and isJSONNumber's closure.
-/
import Derived.Test.Qxb6604238aRows
import Derived.Test.Qxb6604238aJson
import Derived.WalkKit
import Derived.WalkSpells
import Derived.WalkLawsBesides
import Derived.Handy
namespace Go.Proofs.Qxb6604238a
open Go.RowKit Json

theorem ret_int {k : IntKind} {a b : Int} (h : a = b) : Ending.returned (.int k a) = .returned (.int k b) := by rw [h]
theorem ret_bool {a b : Bool} (h : a = b) : Ending.returned (.bool a) = .returned (.bool b) := by rw [h]

set_option maxHeartbeats 1000000 in
theorem step_any (q c : Int) (w : World) (h0 : 0 ≤ q) (h8 : q ≤ 8) :
    Calls Try.prog 20 #[.int .i64 q, .int .u8 c] w fun e w' => e = .returned (.int .i64 (stepJ q c)) ∧ w' = w := by
  have hq : q = 0 ∨ q = 1 ∨ q = 2 ∨ q = 3 ∨ q = 4 ∨ q = 5 ∨ q = 6 ∨ q = 7 ∨ q = 8 := by omega
  rcases hq with rfl | rfl | rfl | rfl | rfl | rfl | rfl | rfl | rfl
  all_goals
    go_enter Try.func20, Try.ntmps20
    go_wp2
    all_goals
      go_ret
      refine ⟨ret_int ?_, rfl⟩
      unfold stepJ
      simp only [Int.reduceEq, if_false, if_true, or_false, or_true]
      repeat' split
      all_goals first | rfl | (exfalso; omega) | (exfalso; simp_all; done) | (exfalso; simp_all; omega)

theorem step_range (q c : Int) : -1 ≤ stepJ q c ∧ stepJ q c ≤ 8 := by
  unfold stepJ
  repeat' split
  all_goals omega
theorem step_neg {q c : Int} (h : stepJ q c < 0) : stepJ q c = -1 := by have := step_range q c; omega

theorem acc_or (q : Int) : (q == 2 || q == 3 || q == 5 || q == 8) = accJ q := by
  unfold accJ
  rw [Bool.eq_iff_iff]
  simp [or_assoc]
theorem acc_yes {q : Int} (h : q = 2 ∨ q = 3 ∨ q = 5 ∨ q = 8) : accJ q = true := by
  unfold accJ
  simpa using h

set_option maxHeartbeats 400000 in
theorem aut_any (s : ByteArray) (w : World) (hs : s.size ≤ 1048576) :
    Calls Try.prog 9 #[.string s] w fun e w' => e = .returned (.bool (jn s)) ∧ w' = w := by
  go_enter Try.func9, Try.ntmps9
  go_wp2
  go_loop [3, 4] (fun t i => ∃ (q : Int) (k : Nat), k ≤ s.size ∧ 0 ≤ q ∧ q ≤ 8 ∧ t = .int .i64 q ∧ i = .int .i64 k ∧ Hid (stJ s k = q)) (fun _ i => s.size - (intOf i).toNat)
  case atStart => exact ⟨0, 0, Nat.zero_le _, by omega, by omega, rfl, rfl, st_zero s⟩
  case round =>
    obtain ⟨q, k, hk, q0, q8, rfl, rfl, hst⟩ := hrel
    by_cases hlt : k < s.size
    · have hsr := step_range q ((s[k]).toNat : Int)
      go_wp2_with (go_at_call 20; refine (step_any _ _ _ q0 q8).mono ?_; rintro e w' ⟨rfl, rfl⟩)
      · go_ret
        exact ⟨ret_bool (by rw [st_dead s (k + 1) (by rw [st_succ s k hlt, hst.out]; exact step_neg (by assumption))]), rfl⟩
      · go_round
        case rel => exact ⟨_, k + 1, by omega, by assumption, hsr.2, rfl, by go_num, by show stJ s (k + 1) = _; rw [st_succ s k hlt, hst.out]⟩
        case measure => simp [intOf]; omega
    · have hj : Hid (jn s = accJ q) := by
        show jn s = accJ q
        rw [jn_of s k (by omega), hst.out]
      go_wp2
      all_goals
        go_ret
        refine ⟨ret_bool ?_, rfl⟩
        rw [hj.out]
        first | exact acc_or q | exact (acc_yes (by omega)).symm

/-- where the digits from i on end -/
def digEnd (s : ByteArray) (i j : Nat) : Prop := i ≤ j ∧ j ≤ s.size ∧ (∀ k, i ≤ k → (h : k < j) → (h' : k < s.size) → 48 ≤ ((s[k]).toNat : Int) ∧ ((s[k]).toNat : Int) ≤ 57) ∧ ((h : j < s.size) → ¬ (48 ≤ ((s[j]).toNat : Int) ∧ ((s[j]).toNat : Int) ≤ 57))

set_option maxHeartbeats 400000 in
theorem digits_any (s : ByteArray) (tb i : Nat) (w : World) (hs : s.size ≤ 1048576 + 256) (hi : i ≤ s.size) (ht : w.cell? ⟨tb, 0, none⟩ = some (.string s)) :
    Calls Try.prog 23 #[.int .i64 i, .pointer (some ⟨tb, 0, none⟩)] w fun e w' => ∃ j : Nat, e = .returned (.int .i64 j) ∧ Hid (digEnd s i j) ∧ w' = w := by
  go_enter Try.func23, Try.ntmps23
  go_wp2
  go_loop [0] (fun t => ∃ k : Nat, i ≤ k ∧ k ≤ s.size ∧ t = .int .i64 k ∧ Hid (∀ m, i ≤ m → (h : m < k) → (h' : m < s.size) → 48 ≤ ((s[m]).toNat : Int) ∧ ((s[m]).toNat : Int) ≤ 57)) (fun t => s.size - (intOf t).toNat)
  case atStart => exact ⟨i, Nat.le_refl _, hi, rfl, fun m a b => absurd b (by omega)⟩
  case round =>
    obtain ⟨k, hik, hk, rfl, hd⟩ := hrel
    by_cases hlt : k < s.size
    · by_cases hdig : 48 ≤ ((s[k]).toNat : Int) ∧ ((s[k]).toNat : Int) ≤ 57
      · obtain ⟨d1, d2⟩ := hdig
        go_wp2
        go_round
        case rel => exact ⟨k + 1, by omega, by omega, by go_num, fun m a b c => by
          rcases Nat.lt_or_eq_of_le (Nat.le_of_lt_succ b) with h | h
          · exact hd.out m a h c
          · subst h; exact ⟨d1, d2⟩⟩
        case measure => simp [intOf]; omega
      · have hD : Hid (digEnd s i k) := ⟨hik, hk, hd.out, fun _ => hdig⟩
        clear hdig
        have hdig' : ¬ 48 ≤ ((s[k]).toNat : Int) ∨ ¬ ((s[k]).toNat : Int) ≤ 57 := by have := hD.out.2.2.2 hlt; omega
        rcases hdig' with h | h
        · go_wp2
          go_ret
          exact ⟨k, rfl, hD, rfl⟩
        · have h48 : 48 ≤ ((s[k]).toNat : Int) := by omega
          go_wp2
          go_ret
          exact ⟨k, rfl, hD, rfl⟩
    · go_wp2
      go_ret
      exact ⟨k, rfl, ⟨hik, hk, hd.out, fun h => absurd h hlt⟩, rfl⟩

end Go.Proofs.Qxb6604238a
