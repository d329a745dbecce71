/-
  Seat b6604238a: b1AppendText, b1OneOfModel, b1SameTextBytes.
-/
import Derived.Test.Qxb6604238aChoice
import Derived.Deep.AppendLies
import Derived.BigQuiet
import Derived.Deep.RegionWith
namespace Go.Proofs.Qxb6604238a
open Go.RowKit

/-- bytes as values -/
def bvals (l : List UInt8) : List Value := l.map fun c => .int .u8 (c.toNat : Int)
theorem bvals_app (l m : List UInt8) : bvals (l ++ m) = bvals l ++ bvals m := by unfold bvals; rw [List.map_append]
theorem bvals_snoc (l : List UInt8) (c : UInt8) : bvals (l ++ [c]) = bvals l ++ [.int .u8 (c.toNat : Int)] := by rw [bvals_app]; rfl

theorem own_form2 {w : World} {base : Nat} {e : TypeId} {size : Nat} {v : Value} {n : Nat} {xs : List Value} (h : w.ownsRow base e size v n xs) : ∃ a c, v = .slice a n c := by
  rcases h.2 with ⟨rfl, rfl⟩ | ⟨g, cap, cur, rfl, _⟩
  · exact ⟨none, 0, rfl⟩
  · exact ⟨_, _, rfl⟩

theorem one_new2 (w : World) (x : Value) (t : TypeId) (H : Nat) (hH : w.heap.size = H) : ∀ j u, [x][j]? = some u → (w.alloc (.cells #[x] t)).cell? ((⟨H, 0, none⟩ : Addr).add j) = some u := by
  subst hH
  exact cell_one_new w x t

theorem Try.info5b : (Try.prog.info? 5).map (fun i => (i.zero, i.size, i.bytes)) = some (some (.int .u8 0), 1, 1) := by kernel_rfl

theorem take_byte (s : ByteArray) (k : Nat) (h : k < s.size) : s.data.toList.take (k + 1) = s.data.toList.take k ++ [s[k]] := by
  rw [List.take_succ_eq_append_getElem (by simpa using h)]; rfl

/-- what b1AppendText leaves: a slice that owns the bytes it had and the text's -/
def Appended (w w' : World) (base : Nat) (v' : Value) (n : Nat) (l : List UInt8) : Prop := w'.ownsRow base 5 1 v' n (bvals l) ∧ Below base w w' ∧ w.heap.size ≤ w'.heap.size

set_option maxHeartbeats 400000 in
theorem append_any (v : Value) (base n : Nat) (l : List UInt8) (s : ByteArray) (w : World) (hown : w.ownsRow base 5 1 v n (bvals l)) (hn : n + s.size ≤ 4194304) (hB : base ≤ w.heap.size) :
    Calls Try.prog 22 #[v, .string s] w fun e w' => ∃ v', e = .returned v' ∧ Appended w w' base v' (n + s.size) (l ++ s.data.toList) := by
  obtain ⟨i0, hi, hz0, hz1, hz2⟩ := info_parts Try.info5b
  obtain ⟨a, c, rfl⟩ := own_form2 hown
  go_enter Try.func22, Try.ntmps22
  go_wp2
  go_loopw [0, 5] (fun u i wr => ∃ k : Nat, k ≤ s.size ∧ i = .int .i64 k ∧ wr.ownsRow base 5 1 u (n + k) (bvals (l ++ s.data.toList.take k)) ∧ Below base w wr) (fun _ i _ => s.size - (intOf i).toNat)
  case atStart => exact ⟨0, Nat.zero_le _, rfl, by simpa using hown, Below.refl _ _⟩
  case round =>
    obtain ⟨k, hk, rfl, hown, hbe⟩ := hrel
    obtain ⟨a, c, rfl⟩ := own_form2 hown
    by_cases hlt : k < s.size
    · have hts : Hid (s.data.toList.take (k + 1) = s.data.toList.take k ++ [s[k]]) := take_byte s k hlt
      go_wp2_with (at_builtin; go_must (refine wpList_append_lies _ rfl _ _ 32 rfl base 5 i0 (.int .u8 0) 1 1 Try.underlying32 hi hz0 hz1 hz2 rfl (by omega) _ (n + k) (bvals (l ++ s.data.toList.take k)) (by rfl) (hown.alloc _) ⟨wr.heap.size, 0, none⟩ 1 1 [.int .u8 ((s[k]).toNat : Int)] (by rfl) rfl (one_new2 _ _ _ _ rfl) (by simp [Value.oneCell']) (by omega) (by unfold maxLen; omega) (by omega) (by have := hbe.size; simp; omega) (wr.heap.size + 1) (by simp) ?_); intro g cap w1 hown1 hgrow hat hlt1)
      go_roundw
      case rel => exact ⟨k + 1, by omega, by go_num, by rw [hts.out, ← List.append_assoc, bvals_snoc]; exact hown1, (hbe.alloc (Nat.le_trans hB hbe.size) _).grown hgrow (by have := hbe.size; simp; omega) (fun j e => (hown.lt j e).1)⟩
      case measure => simp [intOf]; omega
    · have hke : k = s.size := by omega
      have ht : s.data.toList.take k = s.data.toList := List.take_of_length_le (by simp; omega)
      rw [ht] at hown
      clear ht
      go_wp2
      go_ret
      subst hke
      exact ⟨_, rfl, hown, hbe, hbe.size⟩

theorem len_t (a : ByteArray) : a.data.toList.length = a.size := by simp
theorem sep_zero (n : Nat) : sepL n 0 = [] := by simp [sepL]
theorem sep_last {n k : Nat} (h : 0 < k) (h' : k + 1 = n) : sepL n k = orL := by unfold sepL; rw [if_neg (by omega), if_pos h']
theorem sep_mid {n k : Nat} (h : 0 < k) (h' : k + 1 ≠ n) : sepL n k = commaL := by unfold sepL; rw [if_neg (by omega), if_neg h']

/-- the texts' lengths up to k -/
theorem sumS_le (S : Nat → ByteArray) (n k : Nat) (h : k ≤ n) : sumS S k ≤ sumS S n := by
  induction n with
  | zero => have : k = 0 := by omega
            subst this; exact Nat.le_refl _
  | succ n ih =>
    rcases Nat.lt_or_eq_of_le h with h' | h'
    · exact Nat.le_trans (ih (by omega)) (Nat.le_add_right _ _)
    · subst h'; exact Nat.le_refl _

set_option maxHeartbeats 1000000 in
theorem model_any (g len : Nat) (S : Nat → ByteArray) (w : World) (ht : Texts w g 0 len S) (hl : len ≤ 65536) (h1 : 1 ≤ len) (hs : sumS S len ≤ 1048576) :
    Calls Try.prog 15 #[.slice (some ⟨g, 0, none⟩) len len] w fun e w' => ∃ v, e = .returned v ∧ w'.ownsRow w.heap.size 5 1 v (upTo S len len).length (bvals (upTo S len len)) ∧ Below w.heap.size w w' := by
  go_enter Try.func15, Try.ntmps15
  go_wp2
  go_loopw [3, 5] (fun v i wr => ∃ k N : Nat, k ≤ len ∧ i = .int .i64 k ∧ Hid (N = (upTo S len k).length) ∧ N ≤ 1048576 + 4 * k ∧ wr.ownsRow w.heap.size 5 1 v N (bvals (upTo S len k)) ∧ Below w.heap.size w wr) (fun _ i _ => len - (intOf i).toNat)
  case atStart => exact ⟨0, 0, Nat.zero_le _, rfl, rfl, by omega, World.ownsRow_nil _ _ _ _, Below.refl _ _⟩
  case round =>
    obtain ⟨k, N, hk, rfl, hN, hNb, hown, hbe⟩ := hrel
    obtain ⟨av, cv, rfl⟩ := own_form2 hown
    by_cases hlt : k < len
    · have c0 := (ht.later hbe).c k hlt
      rw [Nat.zero_add] at c0
      have hsk : (S k).size ≤ 1048576 := by
        have := sumS_le S len (k + 1) hlt
        have h2 : sumS S (k + 1) = sumS S k + (S k).size := rfl
        omega
      have i1 : (0 : Int) ≤ (k : Int) := by omega
      have i2 : (k : Int) < (len : Int) := by omega
      have hup := upTo_length S len (k + 1)
      have hsum := sumS_le S len (k + 1) hlt
      have hupk : Hid (N + (S k).size + 4 ≤ 1048576 + 4 * (k + 1)) := by
        have h2 : sumS S (k + 1) = sumS S k + (S k).size := rfl
        have h3 := upTo_length S len k
        rw [← hN.out] at h3
        show N + (S k).size + 4 ≤ 1048576 + 4 * (k + 1)
        omega
      have hg : g < w.heap.size := World.block_lt_of_cell? _ _ (ht.c k hlt)
      have hNS : N + (S k).size ≤ 1048576 + 4 * k := by have := hupk.out; omega
      by_cases hk0 : k = 0
      · subst hk0
        go_wp2_with (go_at_call 22; refine (append_any _ w.heap.size N _ (S 0) _ hown (by omega) hbe.size).mono ?_; rintro e w1 ⟨v1, rfl, ho1, hb1, hs1⟩)
        go_roundw
        case rel => exact ⟨1, _, by omega, by go_num, by show _ = (upTo S len 0 ++ sepL len 0 ++ (S 0).data.toList).length; rw [sep_zero, List.append_nil, List.length_append, ← hN.out, len_t], by omega, by
          show World.ownsRow _ _ _ _ _ _ (bvals (upTo S len 0 ++ sepL len 0 ++ (S 0).data.toList))
          rw [sep_zero, List.append_nil]; exact ho1, hbe.trans hb1⟩
        case measure => simp [intOf]; omega
      · by_cases hlast : k + 1 = len
        · have hka : (0 : Int) < (k : Int) := by omega
          have hkb : ((k : Int) == (len : Int) - 1) = true := by simp; omega
          have hsep : Hid (sepL len k = orL) := sep_last (by omega) hlast
          clear hk0 hlast
          go_wp2_with (first
            | (go_at_call_of 22 (Value.string ⟨#[32, 111, 114, 32]⟩); refine (append_any _ w.heap.size N _ ⟨#[32, 111, 114, 32]⟩ _ hown (by rw [show (⟨#[32, 111, 114, 32]⟩ : ByteArray).size = 4 from rfl]; omega) hbe.size).mono ?_; rintro e w1 ⟨v1, rfl, ho1, hb1, hs1⟩; obtain ⟨a1, c1, rfl⟩ := own_form2 ho1; have d0 := (hb1.cell (p := ⟨g, k, none⟩) hg).trans c0)
            | (go_at_call 22; refine (append_any _ w.heap.size _ _ (S k) _ ho1 (by rw [show (⟨#[32, 111, 114, 32]⟩ : ByteArray).size = 4 from rfl]; omega) (Nat.le_trans hbe.size hs1)).mono ?_; rintro e w2 ⟨v2, rfl, ho2, hb2, hs2⟩))
          go_roundw
          case rel => exact ⟨k + 1, _, by omega, by go_num, by show _ = (upTo S len k ++ sepL len k ++ (S k).data.toList).length; rw [hsep.out, List.length_append, List.length_append, ← hN.out, len_t], by have := hupk.out; have h4 : orL.length = 4 := rfl; omega, by
            show World.ownsRow _ _ _ _ _ _ (bvals (upTo S len k ++ sepL len k ++ (S k).data.toList))
            rw [hsep.out]; exact ho2, (hbe.trans hb1).trans hb2⟩
          case measure => simp [intOf]; omega
        · have hka : (0 : Int) < (k : Int) := by omega
          have hkb : ((k : Int) == (len : Int) - 1) = false := by simp; omega
          have hsep : Hid (sepL len k = commaL) := sep_mid (by omega) hlast
          clear hk0 hlast
          go_wp2_with (first
            | (go_at_call_of 22 (Value.string ⟨#[44, 32]⟩); refine (append_any _ w.heap.size N _ ⟨#[44, 32]⟩ _ hown (by rw [show (⟨#[44, 32]⟩ : ByteArray).size = 2 from rfl]; omega) hbe.size).mono ?_; rintro e w1 ⟨v1, rfl, ho1, hb1, hs1⟩; obtain ⟨a1, c1, rfl⟩ := own_form2 ho1; have d0 := (hb1.cell (p := ⟨g, k, none⟩) hg).trans c0)
            | (go_at_call 22; refine (append_any _ w.heap.size _ _ (S k) _ ho1 (by rw [show (⟨#[44, 32]⟩ : ByteArray).size = 2 from rfl]; omega) (Nat.le_trans hbe.size hs1)).mono ?_; rintro e w2 ⟨v2, rfl, ho2, hb2, hs2⟩))
          go_roundw
          case rel => exact ⟨k + 1, _, by omega, by go_num, by show _ = (upTo S len k ++ sepL len k ++ (S k).data.toList).length; rw [hsep.out, List.length_append, List.length_append, ← hN.out, len_t], by have := hupk.out; have h4 : commaL.length = 2 := rfl; omega, by
            show World.ownsRow _ _ _ _ _ _ (bvals (upTo S len k ++ sepL len k ++ (S k).data.toList))
            rw [hsep.out]; exact ho2, (hbe.trans hb1).trans hb2⟩
          case measure => simp [intOf]; omega
    · have hke : len = k := by omega
      subst hke
      go_wp2
      go_ret
      exact ⟨_, rfl, by rw [← hN.out]; exact hown, hbe⟩

end Go.Proofs.Qxb6604238a
