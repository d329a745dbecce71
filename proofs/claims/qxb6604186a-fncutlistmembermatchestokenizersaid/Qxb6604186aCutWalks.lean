/-
  The walks of seat b6604186a: cutListMember, closingQuote, modelCut.
-/
import Derived.Test.Qxb6604186aRows
import Derived.Test.Qxb6604186aPlain
import Derived.WalkKit
import Derived.WalkSpells
import Derived.WalkLawsBesides
import Derived.Deep.QuietTactic
import Derived.BigQuiet
namespace Go.Proofs.Qxb6604186a
open Go.RowKit CutPlain

/-- the quote's number -/
def qn (q : Bool) : Nat := if q then 1 else 0

set_option maxHeartbeats 400000 in
theorem cut_any (s : ByteArray) (w : World) (hs : s.size ≤ 1048576) :
    Calls Try.prog 19 #[.string s] w fun e w' => ∃ a b, e = .returned (.tuple #[.string a, .string b]) ∧ isCut s a b ∧ ∃ n, w' = w.drewN n := by
  go_enter Try.func19, Try.ntmps19
  go_wp2
  go_loop [4, 5] (fun q i => ∃ (b : Bool) (k : Nat), k ≤ s.size + 1 ∧ q = .bool b ∧ i = .int .i64 k ∧ Hid (head s (qn b) k)) (fun _ i => s.size + 1 - (intOf i).toNat)
  case atStart => exact ⟨false, 0, Nat.zero_le _, rfl, rfl, head0 s⟩
  case round =>
    obtain ⟨b, k, hk, rfl, rfl, hh⟩ := hrel
    by_cases hlt : k < s.size
    · have hb : Hid (bt s k = (s[k]).toNat) := bt_lt hlt
      cases b
      · go_wp2
        · go_round
          case rel => exact ⟨true, k + 1, by omega, by rfl, by go_num, head_open hh.out (by have := hb.out; simp_all; omega)⟩
          case measure => simp [intOf]; omega
        · go_quiet (fail)
          go_wp2
          go_ret2
          exact ⟨_, _, rfl, cut_here hh.out hlt (by have := hb.out; simp_all; omega), _, rfl⟩
        · go_round
          case rel => exact ⟨false, k + 1, by omega, by rfl, by go_num, head_out hh.out (by have := hb.out; simp_all; omega) (by have := hb.out; simp_all; omega)⟩
          case measure => simp [intOf]; omega
      · go_wp2
        · go_round
          case rel => exact ⟨true, k + 2, by omega, by rfl, by go_num, head_esc hh.out (by have := hb.out; simp_all; omega)⟩
          case measure => simp [intOf]; omega
        · go_round
          case rel => exact ⟨false, k + 1, by omega, by rfl, by go_num, head_close hh.out (by have := hb.out; simp_all; omega)⟩
          case measure => simp [intOf]; omega
        · go_round
          case rel => exact ⟨true, k + 1, by omega, by rfl, by go_num, head_in hh.out (by have := hb.out; simp_all; omega) (by have := hb.out; simp_all; omega)⟩
          case measure => simp [intOf]; omega
        · go_round
          case rel => exact ⟨true, k + 1, by omega, by rfl, by go_num, head_in hh.out (by have := hb.out; simp_all; omega) (by have := hb.out; simp_all; omega)⟩
          case measure => simp [intOf]; omega
    · go_wp2
      go_ret2
      exact ⟨_, _, rfl, cut_none hh.out (by omega), 0, rfl⟩

set_option maxHeartbeats 400000 in
/-- closingQuote: behind the opening quote at j; k is where the string is closed, or at or beyond the end. -/
theorem closing_any (s : ByteArray) (j : Nat) (w : World) (hs : s.size ≤ 1048576) (hj : j < s.size) (hh : Hid (head s 1 (j + 1))) :
    Calls Try.prog 20 #[.string s, .int .i64 j] w fun e w' => ∃ k : Nat, e = .returned (.int .i64 k) ∧ w' = w ∧ j < k ∧ k ≤ s.size + 1 ∧ Hid (head s 1 k ∧ (k < s.size → bt s k = 34)) := by
  go_enter Try.func20, Try.ntmps20
  go_wp2
  go_loop [5] (fun i => ∃ k : Nat, k ≤ s.size + 1 ∧ j < k ∧ i = .int .i64 k ∧ Hid (head s 1 k)) (fun i => s.size + 1 - (intOf i).toNat)
  case atStart => exact ⟨j + 1, by omega, by omega, by go_num, hh.out⟩
  case round =>
    obtain ⟨k, hk, hjk, rfl, hh⟩ := hrel
    by_cases hlt : k < s.size
    · have hb : Hid (bt s k = (s[k]).toNat) := bt_lt hlt
      go_wp2
      · go_round
        case rel => exact ⟨k + 2, by omega, by omega, by go_num, head_esc hh.out (by have := hb.out; simp_all; omega)⟩
        case measure => simp [intOf]; omega
      · go_round
        case rel => exact ⟨k + 1, by omega, by omega, by go_num, head_in hh.out (by have := hb.out; simp_all; omega) (by have := hb.out; simp_all; omega)⟩
        case measure => simp [intOf]; omega
      · go_ret
        exact ⟨k, rfl, rfl, hjk, hk, hh.out, fun _ => by have := hb.out; simp_all; omega⟩
    · go_wp2
      go_ret
      exact ⟨k, rfl, rfl, hjk, hk, hh.out, fun h => absurd h hlt⟩

/-- the head behind a whole quoted string -/
theorem head_behind {s : ByteArray} {k : Nat} (h : head s 1 k ∧ (k < s.size → bt s k = 34)) (hlt : k < s.size) : head s 0 (k + 1) := head_close h.1 (h.2 hlt)

set_option maxHeartbeats 400000 in
theorem model_any (s : ByteArray) (w : World) (hs : s.size ≤ 1048576) :
    Calls Try.prog 8 #[.string s] w fun e w' => ∃ a b, e = .returned (.tuple #[.string a, .string b]) ∧ isCut s a b ∧ ∃ n, w' = w.drewN n := by
  go_enter Try.func8, Try.ntmps8
  go_wp2
  go_loop [4] (fun i => ∃ k : Nat, k ≤ s.size + 2 ∧ i = .int .i64 k ∧ Hid ((k < s.size → head s 0 k) ∧ (s.size ≤ k → ∃ q m, s.size ≤ m ∧ head s q m))) (fun i => s.size + 2 - (intOf i).toNat)
  case atStart => exact ⟨0, Nat.zero_le _, rfl, fun _ => head0 s, fun h => ⟨0, 0, h, head0 s⟩⟩
  case round =>
    obtain ⟨k, hk, rfl, hh⟩ := hrel
    by_cases hlt : k < s.size
    · have hb : Hid (bt s k = (s[k]).toNat) := bt_lt hlt
      by_cases h34 : s[k].toNat = 34
      · have h1 : Hid (head s 1 (k + 1)) := head_open (hh.out.1 hlt) (hb.out.trans h34)
        go_wp2_with (go_at_call 20; refine (closing_any s k _ hs hlt h1).mono ?_; rintro e w' ⟨m, rfl, rfl, hm1, hm2, hm3⟩)
        go_round
        case rel => exact ⟨m + 1, by omega, by go_num, fun h => head_behind hm3.out (by omega), fun h => by
          by_cases hm : m < s.size
          · exact ⟨0, m + 1, h, head_behind hm3.out hm⟩
          · exact ⟨1, m, by omega, hm3.out.1⟩⟩
        case measure => simp [intOf]; omega
      · go_wp2_with (fail)
        · go_quiet (fail)
          go_wp2
          go_ret2
          exact ⟨_, _, rfl, cut_here (hh.out.1 hlt) hlt (by have := hb.out; simp_all; omega), _, rfl⟩
        · go_round
          case rel => 
            have h1 : head s 0 (k + 1) := head_out (hh.out.1 hlt) (by have := hb.out; simp_all; omega) (by have := hb.out; simp_all)
            exact ⟨k + 1, by omega, by go_num, fun _ => h1, fun h => ⟨0, k + 1, h, h1⟩⟩
          case measure => simp [intOf]; omega
    · go_wp2
      go_ret2
      exact ⟨_, _, rfl, by obtain ⟨q, m, hm, h⟩ := hh.out.2 (by omega); exact cut_none h hm, 0, rfl⟩

end Go.Proofs.Qxb6604186a
