/-
  Seat b6604238a: b1SameTextBytes; the walk of FnOneOfMatchesSeparatorModel.
-/
import Derived.Test.Qxb6604238aOneOf
import Derived.Test.Qxb6604238aModel
import Derived.Test.Qxb6604238aOpenTexts
namespace Go.Proofs.Qxb6604238a
open Go.RowKit

theorem below_drawn {B : Nat} {a w : World} (h : Below B a w) (n : Nat) : Below B a (w.drewN n) := h.trans ⟨rfl, rfl, rfl, Nat.le_refl _, fun _ _ => rfl⟩

theorem byte_at {s : ByteArray} {l : List UInt8} (h : s.data.toList = l) (k : Nat) (hk : k < s.size) : (bvals l)[k]? = some (.int .u8 ((s[k]).toNat : Int)) := by
  subst h
  unfold bvals
  rw [List.getElem?_map, List.getElem?_eq_getElem (by simpa using hk)]
  rfl

theorem size_of {s : ByteArray} {l : List UInt8} (h : s.data.toList = l) : l.length = s.size := by subst h; simp

theorem cell_drawn {w wr : World} {B : Nat} (hb : Below B w wr) {p : Addr} {v : Value} (hp : p.block < B) (h : w.cell? p = some v) : wr.cell? p = some v := (hb.cell hp).trans h

set_option maxHeartbeats 400000 in
theorem same_any (s : ByteArray) (v : Value) (base n : Nat) (l : List UInt8) (w : World) (hown : w.ownsRow base 5 1 v n (bvals l)) (hn : n = l.length) (he : s.data.toList = l) (hs : s.size ≤ 2097152) :
    Calls Try.prog 16 #[.string s, v] w fun e w' => e = .returned (.bool true) ∧ Below w.heap.size w w' := by
  have hns : n = s.size := by rw [hn, size_of he]
  clear hn
  subst hns
  have hcell : Hid (∀ k (h : k < s.size), ∃ g cap, v = .slice (some ⟨g, 0, none⟩) s.size cap ∧ w.cell? ⟨g, k, none⟩ = some (.int .u8 ((s[k]).toNat : Int))) := by
    intro k hk
    obtain ⟨g, cap, rfl, _⟩ := hown.form (by omega)
    exact ⟨g, cap, rfl, by rw [hown.cellAt k (by omega)]; exact byte_at he k hk⟩
  obtain ⟨a, c, rfl⟩ := own_form2 hown
  clear hown he
  go_enter Try.func16, Try.ntmps16
  go_wp2
  go_loopw [5] (fun i wr => ∃ k : Nat, k ≤ s.size ∧ i = .int .i64 k ∧ Below w.heap.size w wr) (fun i _ => s.size - (intOf i).toNat)
  case atStart => exact ⟨0, Nat.zero_le _, rfl, Below.refl _ _⟩
  case round =>
    obtain ⟨k, hk, rfl, hbe⟩ := hrel
    by_cases hlt : k < s.size
    · obtain ⟨g, cap, hv, hc⟩ := hcell.out k hlt
      cases hv
      have c0 := cell_later hbe hc
      clear hc
      have i1 : (0 : Int) ≤ (k : Int) := by omega
      have i2 : (k : Int) < (s.size : Int) := by omega
      go_wp2
      go_quiet (fail)
      go_wp2
      go_roundw
      case rel => exact ⟨k + 1, by omega, by go_num, below_drawn hbe _⟩
      case measure => simp [intOf]; omega
    · go_wp2
      go_ret
      exact ⟨rfl, hbe⟩

theorem up_size {s : ByteArray} {S : Nat → ByteArray} {n : Nat} (h : s.data.toList = upTo S n n) : s.size ≤ sumS S n + 4 * n := by
  have := upTo_length S n n
  rw [← h, len_t] at this
  exact this

/-- one or more texts -/
theorem oneOf_some (g n : Nat) (S : Nat → ByteArray) (w : World) (ht : Texts w g 0 n S) (hn : n ≤ 65536) (h1 : 1 ≤ n) (hs : sumS S n ≤ 1048576) :
    Calls Try.prog 14 #[.slice (some ⟨g, 0, none⟩) n n] w fun e w' => ∃ s : ByteArray, e = .returned (.string s) ∧ s.data.toList = upTo S n n ∧ Below w.heap.size w w' := by
  by_cases h : n = 1
  · subst h; exact oneOf_one g S w ht hs
  · exact oneOf_many g n S w ht hn (by omega) hs

set_option maxRecDepth 100000 in
set_option maxHeartbeats 1000000 in
theorem match_go (b off len cap : Nat) (S : Nat → ByteArray) (w : World) (hr : Texts w b off len S) (hl : len ≤ 65536) (h1 : 1 ≤ len) :
    Calls Try.prog 5 #[.slice (some ⟨b, off, none⟩) len cap] w fun e w' => e = .returned (.bool true) ∧ Below w.heap.size w w' := by
  go_enter Try.func5, Try.ntmps5
  go_wp2_with (go_at_call 12; refine (bytes12 b off len cap S _ hr (by omega)).mono ?_; rintro e w' (⟨rfl, hw⟩ | ⟨rfl, hw⟩) <;> (have hw2 := hw.symm; clear hw; subst hw2))
  · go_loop [3, 4] (fun t i => ∃ k : Nat, k ≤ len ∧ t = .int .i64 (16 * (len : Int) + (sumS S k : Nat)) ∧ i = .int .i64 k ∧ 16 * len + sumS S k ≤ 1048576) (fun _ i => len - (intOf i).toNat)
    case atStart => exact ⟨0, Nat.zero_le _, by simp [sumS], rfl, by simp only [sumS]; omega⟩
    case round =>
      obtain ⟨k, hk, rfl, rfl, htot⟩ := hrel
      by_cases hlt : k < len
      · have c0 := hr.c k hlt
        have z0 := hr.z k hlt
        go_wp2
        · go_ret
          exact ⟨rfl, Below.refl _ _⟩
        · go_ret
          exact ⟨rfl, Below.refl _ _⟩
        · go_round
          case rel => exact ⟨k + 1, by omega, by simp only [sumS]; go_num, by go_num, by simp only [sumS]; omega⟩
          case measure => simp [intOf]; omega
      · have hkl : len = k := by omega
        subst hkl
        have hsum : Hid (sumS S len ≤ 1048576) := by show sumS S len ≤ 1048576; omega
        go_wp2_with (first
          | (go_at_call 13; refine (clone_any b off len cap S _ hr hl).mono ?_; rintro e w1 ⟨rfl, ht1, hz1, hb1⟩)
          | (go_at_call 14; refine (oneOf_some _ len S _ ht1 hl h1 hsum.out).mono ?_; rintro e w2 ⟨s, rfl, hsl0, hb2⟩; have hsl : Hid (s.data.toList = upTo S len len) := hsl0; clear hsl0; have hssz : s.size ≤ 2097152 := (by have := up_size hsl.out; have := hsum.out; omega); have ht2 := ht1.later hb2)
          | (go_at_call 15; refine (model_any _ len S _ ht2 hl h1 hsum.out).mono ?_; rintro e w3 ⟨v, rfl, ho3, hb3⟩)
          | (go_at_call 16; refine (same_any s v _ _ _ _ ho3 rfl hsl.out hssz).mono ?_; rintro e w4 ⟨rfl, hb4⟩))
        go_ret
        have h2 := Nat.le_trans hb1.size hb2.size
        exact ⟨rfl, hb1.trans ((hb2.mono hb1.size).trans ((hb3.mono h2).trans (hb4.mono (Nat.le_trans h2 hb3.size))))⟩
  · go_ret
    exact ⟨rfl, Below.refl _ _⟩

set_option maxHeartbeats 400000 in
theorem clone_none (a : Option Addr) (cap : Nat) (w : World) :
    Calls Try.prog 13 #[.slice a 0 cap] w fun e w' => ∃ a' c', e = .returned (.slice a' 0 c') ∧ Below w.heap.size w w' := by
  have hmk := run_make_row' (P := Try.prog) 28 9 (.string ByteArray.empty) 16 Try.underlying28 Try.info9 rfl .i64 .i64 0 (by omega) (by omega)
  simp only [Int.natCast_zero] at hmk
  have hnil := fun wx => Lib.run_eql_slice_nil (P := Try.prog) wx 28 9 a 0 cap 0 0 Try.underlying28
  go_enter Try.func13, Try.ntmps13
  cases a with
  | none =>
    go_wp2
    go_ret
    exact ⟨_, _, rfl, Below.refl _ _⟩
  | some p =>
    go_wp2
    refine wp_loop_rounds 1 ?_
    rw [rounds_succ]
    go_wp2
    go_ret
    exact ⟨_, _, rfl, (Below.refl _ _).alloc (Nat.le_refl _) _⟩

set_option maxHeartbeats 400000 in
theorem model_none (a : Option Addr) (cap : Nat) (w : World) :
    Calls Try.prog 15 #[.slice a 0 cap] w fun e w' => e = .returned (.slice none 0 0) ∧ Below w.heap.size w w' := by
  go_enter Try.func15, Try.ntmps15
  go_wp2
  refine wp_loop_rounds 1 ?_
  rw [rounds_succ]
  go_wp2
  go_ret
  exact ⟨rfl, Below.refl _ _⟩

set_option maxRecDepth 100000 in
set_option maxHeartbeats 400000 in
/-- no text -/
theorem match_none (a : Option Addr) (cap : Nat) (w : World) :
    Calls Try.prog 5 #[.slice a 0 cap] w fun e w' => e = .returned (.bool true) ∧ Below w.heap.size w w' := by
  go_enter Try.func5, Try.ntmps5
  go_wp2_with (first | (go_at_call 12; go_in))
  refine wp_loop_rounds 1 ?_
  rw [rounds_succ]
  go_wp2
  refine wp_loop_rounds 1 ?_
  rw [rounds_succ]
  go_wp2_with (first
    | (go_at_call 13; refine (clone_none a cap _).mono ?_; rintro e w1 ⟨a1, c1, rfl, hb1⟩)
    | (go_at_call 14; refine (oneOf_none _ _ (fun _ => ByteArray.empty) _).mono ?_; rintro e w2 ⟨s, rfl, hsl, hb2⟩)
    | (go_at_call 15; refine (model_none _ _ _).mono ?_; rintro e w3 ⟨rfl, hb3⟩)
    | (go_at_call 16; refine (same_any s _ 0 0 [] _ (World.ownsRow_nil _ _ _ _) rfl hsl (by have := size_of hsl; simp [upTo] at this; omega)).mono ?_; rintro e w4 ⟨rfl, hb4⟩))
  go_ret
  have h2 := Nat.le_trans hb1.size hb2.size
  exact ⟨rfl, hb1.trans ((hb2.mono hb1.size).trans ((hb3.mono h2).trans (hb4.mono (Nat.le_trans h2 hb3.size))))⟩

set_option maxRecDepth 100000 in
set_option maxHeartbeats 400000 in
/-- too many -/
theorem match_many (b off len cap : Nat) (S : Nat → ByteArray) (w : World) (hr : Texts w b off len S) (h : 65536 < len) (hm : len ≤ maxLen) :
    Calls Try.prog 5 #[.slice (some ⟨b, off, none⟩) len cap] w fun e w' => e = .returned (.bool true) ∧ Below w.heap.size w w' := by
  unfold maxLen at hm
  by_cases h2 : len ≤ 1048576
  · go_enter Try.func5, Try.ntmps5
    go_wp2_with (go_at_call 12; refine (bytes12 b off len cap S _ hr h2).mono ?_; rintro e w' (⟨rfl, hw⟩ | ⟨rfl, hw⟩) <;> (have hw2 := hw.symm; clear hw; subst hw2))
    · go_ret
      exact ⟨rfl, Below.refl _ _⟩
    · go_ret
      exact ⟨rfl, Below.refl _ _⟩
  · go_enter Try.func5, Try.ntmps5
    go_wp2
    go_ret
    exact ⟨rfl, Below.refl _ _⟩

theorem match_any (a : Option Addr) (len cap : Nat) (w : World) (h : IsTexts w a len) :
    Calls Try.prog 5 #[.slice a len cap] w fun e w' => e = .returned (.bool true) ∧ Below w.heap.size w w' := by
  rcases h with rfl | ⟨b, off, S, rfl, h1, hm, hr⟩
  · exact match_none a cap w
  · by_cases hl : len ≤ 65536
    · exact match_go b off len cap S w hr hl h1
    · exact match_many b off len cap S w hr (by omega) hm

end Go.Proofs.Qxb6604238a
