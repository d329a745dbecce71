/-
  Seat b6604238a: the walk of FnOneOfReadsBack.
-/
import Derived.Test.Qxb6604238aOneOf
import Derived.Test.Qxb6604238aRead
import Derived.Test.Qxb6604238aOpenTexts
namespace Go.Proofs.Qxb6604238a
open Go.RowKit

theorem sumS_mono (S : Nat → ByteArray) (k d : Nat) : sumS S k ≤ sumS S (k + d) := by
  induction d with
  | zero => exact Nat.le_refl _
  | succ d ih => exact Nat.le_trans ih (Nat.le_add_right _ _)

theorem text_size (S : Nat → ByteArray) (n k : Nat) (h : k < n) : (S k).size ≤ sumS S n := by
  have := sumS_mono S (k + 1) (n - (k + 1))
  rw [show k + 1 + (n - (k + 1)) = n by omega] at this
  exact Nat.le_trans (Nat.le_add_left _ _) this

theorem upTo_size {s : ByteArray} {S : Nat → ByteArray} {n : Nat} (h : s.data.toList = upTo S n n) : s.size ≤ sumS S n + 4 * n := by
  have := upTo_length S n n
  rw [← h, len_text] at this
  exact this

set_option maxRecDepth 100000 in
set_option maxHeartbeats 2000000 in
theorem back_go (b off len cap : Nat) (S : Nat → ByteArray) (w : World) (hr : Texts w b off len S) (hl : len ≤ 65536) (h1 : 1 ≤ len) :
    Calls Try.prog 6 #[.slice (some ⟨b, off, none⟩) len cap] w fun e w' => e = .returned (.bool true) ∧ Below w.heap.size w w' := by
  go_enter Try.func6, Try.ntmps6
  go_wp2_with (go_at_call 17; refine (bytes17 b off len cap S _ hr (by omega)).mono ?_; rintro e w' (⟨rfl, hw⟩ | ⟨rfl, hw⟩) <;> (have hw2 := hw.symm; clear hw; subst hw2))
  · go_loop [3, 4] (fun t i => ∃ k : Nat, k ≤ len ∧ t = .int .i64 (16 * (len : Int) + (sumS S k : Nat)) ∧ i = .int .i64 k ∧ 16 * len + sumS S k ≤ 1048576) (fun _ i => len - (intOf i).toNat)
    case atStart => exact ⟨0, Nat.zero_le _, by simp [sumS], rfl, by simp only [sumS]; omega⟩
    case round =>
      obtain ⟨k, hk, rfl, rfl, htot⟩ := hrel
      by_cases hlt : k < len
      · have c0 := hr.c k hlt
        have z0 := hr.z k hlt
        go_wp2
        · go_ret
          exact ⟨rfl, Below.refl _ _⟩
        · go_ret
          exact ⟨rfl, Below.refl _ _⟩
        · go_round
          case rel => exact ⟨k + 1, by omega, by simp only [sumS]; go_num, by go_num, by simp only [sumS]; omega⟩
          case measure => simp [intOf]; omega
      · have hkl : len = k := by omega
        subst hkl
        by_cases h2 : len < 2
        · go_wp2
          go_ret
          exact ⟨rfl, Below.refl _ _⟩
        · go_wp2
          have hsum : Hid (sumS S len ≤ 1048576) := by show sumS S len ≤ 1048576; omega
          go_loop [5] (fun i => ∃ p : Nat, p ≤ len ∧ i = .int .i64 p ∧ Hid (∀ j, j < p → plainT (S j))) (fun i => len - (intOf i).toNat)
          case atStart => exact ⟨0, Nat.zero_le _, rfl, fun j hj => absurd hj (Nat.not_lt_zero j)⟩
          case round =>
            obtain ⟨p, hp, rfl, hpl⟩ := hrel
            by_cases hlt2 : p < len
            · have c0 := hr.c p hlt2
              have z0 : (S p).size ≤ 1048576 := Nat.le_trans (text_size S len p hlt2) hsum.out
              have i1 : (0 : Int) ≤ (p : Int) := by omega
              have i2 : (p : Int) < (len : Int) := by omega
              go_wp2
              go_loop [6] (fun i => ∃ t : Nat, t ≤ (S p).size ∧ i = .int .i64 t ∧ Hid (∀ j, j < t → (h : j < (S p).size) → (((S p)[j]).toNat : Int) ≠ 44 ∧ (((S p)[j]).toNat : Int) ≠ 32)) (fun i => (S p).size - (intOf i).toNat)
              case atStart => exact ⟨0, Nat.zero_le _, rfl, fun j hj => absurd hj (Nat.not_lt_zero j)⟩
              case round =>
                obtain ⟨t, ht, rfl, htl⟩ := hrel
                by_cases hlt3 : t < (S p).size
                · by_cases b1 : (((S p)[t]).toNat : Int) = 44
                  · go_wp2
                    go_ret
                    exact ⟨rfl, Below.refl _ _⟩
                  · have b1' : ((((S p)[t]).toNat : Int) == 44) = false := by simpa using b1
                    by_cases b2 : (((S p)[t]).toNat : Int) = 32
                    · go_wp2
                      go_ret
                      exact ⟨rfl, Below.refl _ _⟩
                    · have b2' : ((((S p)[t]).toNat : Int) == 32) = false := by simpa using b2
                      have hB : Hid ((((S p)[t]).toNat : Int) ≠ 44 ∧ (((S p)[t]).toNat : Int) ≠ 32) := ⟨b1, b2⟩
                      clear b1 b2
                      go_wp2
                      go_round
                      case rel => exact ⟨t + 1, by omega, by go_num, fun j hj h => by
                        rcases Nat.lt_or_eq_of_le (Nat.le_of_lt_succ hj) with h' | h'
                        · exact htl.out j h' h
                        · subst h'; exact hB.out⟩
                      case measure => simp [intOf]; omega
                · go_wp2
                  go_round
                  case rel => exact ⟨p + 1, by omega, by go_num, fun j hj => by
                    rcases Nat.lt_or_eq_of_le (Nat.le_of_lt_succ hj) with h' | h'
                    · exact hpl.out j h'
                    · subst h'; exact fun i hi => htl.out i (by omega) hi⟩
                  case measure => simp [intOf]; omega
            · have hpl' : Hid (∀ j, j < len → plainT (S j)) := fun j hj => hpl.out j (by omega)
              clear hpl
              go_wp2_with (first
                | (go_at_call 13; refine (clone_any b off len cap S _ hr hl).mono ?_; rintro e w1 ⟨rfl, ht1, hz1, hb1⟩)
                | (go_at_call 14; refine (oneOf_many _ len S _ ht1 hl (by omega) hsum.out).mono ?_; rintro e w2 ⟨s, rfl, hsl0, hb2⟩; have hsl : Hid (s.data.toList = upTo S len len) := hsl0; clear hsl0; have hssz : s.size ≤ 2097152 := (by have := upTo_size hsl.out; have := hsum.out; omega))
                | (go_at_call 18; refine (read_any s S len _ hl (by omega) hsl hssz hpl').mono ?_; rintro e w3 ⟨g, cp, rfl, hcells, hb3⟩))
              have hbe : Below w.heap.size w w3 := hb1.trans ((hb2.mono hb1.size).trans (hb3.mono (Nat.le_trans hb1.size hb2.size)))
              have ht3 : Texts w3 w.heap.size 0 len S := (ht1.later hb2).later hb3
              clear hb1 hb2 hb3 ht1
              go_loopw [9] (fun i wr => ∃ p : Nat, p ≤ len ∧ i = .int .i64 p ∧ Below w3.heap.size w3 wr) (fun i _ => len - (intOf i).toNat)
              case atStart => exact ⟨0, Nat.zero_le _, rfl, Below.refl _ _⟩
              case round =>
                obtain ⟨q, hq, rfl, hb⟩ := hrel
                by_cases hlt4 : q < len
                · have d0 := cell_later hb (hcells q hlt4)
                  have d1 := cell_later hb (ht3.c q hlt4)
                  rw [Nat.zero_add] at d1
                  have i1 : (0 : Int) ≤ (q : Int) := by omega
                  have i2 : (q : Int) < (len : Int) := by omega
                  go_wp2
                  go_quiet (fail)
                  go_wp2
                  go_roundw
                  case rel => exact ⟨q + 1, by omega, by go_num, below_drewN hb _⟩
                  case measure => simp [intOf]; omega
                · go_wp2
                  go_ret
                  exact ⟨rfl, hbe.trans (hb.mono hbe.size)⟩
  · go_ret
    exact ⟨rfl, Below.refl _ _⟩

set_option maxRecDepth 100000 in
set_option maxHeartbeats 400000 in
/-- no text -/
theorem back_none (a : Option Addr) (cap : Nat) (w : World) :
    Calls Try.prog 6 #[.slice a 0 cap] w fun e w' => e = .returned (.bool true) ∧ Below w.heap.size w w' := by
  go_enter Try.func6, Try.ntmps6
  go_wp2
  refine wp_loop_rounds 1 ?_
  rw [rounds_succ]
  go_wp2
  refine wp_loop_rounds 1 ?_
  rw [rounds_succ]
  go_wp2
  go_ret
  exact ⟨rfl, Below.refl _ _⟩

set_option maxRecDepth 100000 in
set_option maxHeartbeats 400000 in
/-- too many -/
theorem back_many (b off len cap : Nat) (S : Nat → ByteArray) (w : World) (hr : Texts w b off len S) (h : 65536 < len) (hm : len ≤ maxLen) :
    Calls Try.prog 6 #[.slice (some ⟨b, off, none⟩) len cap] w fun e w' => e = .returned (.bool true) ∧ Below w.heap.size w w' := by
  unfold maxLen at hm
  by_cases h2 : len ≤ 1048576
  · go_enter Try.func6, Try.ntmps6
    go_wp2_with (go_at_call 17; refine (bytes17 b off len cap S _ hr h2).mono ?_; rintro e w' (⟨rfl, hw⟩ | ⟨rfl, hw⟩) <;> (have hw2 := hw.symm; clear hw; subst hw2))
    · go_ret
      exact ⟨rfl, Below.refl _ _⟩
    · go_ret
      exact ⟨rfl, Below.refl _ _⟩
  · go_enter Try.func6, Try.ntmps6
    go_wp2
    go_ret
    exact ⟨rfl, Below.refl _ _⟩

theorem back_any (a : Option Addr) (len cap : Nat) (w : World) (h : IsTexts w a len) :
    Calls Try.prog 6 #[.slice a len cap] w fun e w' => e = .returned (.bool true) ∧ Below w.heap.size w w' := by
  rcases h with rfl | ⟨b, off, S, rfl, h1, hm, hr⟩
  · exact back_none a cap w
  · by_cases hl : len ≤ 65536
    · exact back_go b off len cap S w hr hl h1
    · exact back_many b off len cap S w hr (by omega) hm

end Go.Proofs.Qxb6604238a
