/-
  Seat b6604238a: where each text, and each separator, lies in "A, B or C". No Go in sight.
-/
import Derived.Test.Qxb6604238aChoice
namespace Go.Proofs.Qxb6604238a

/-- where text m begins -/
def posT (S : Nat → ByteArray) (n m : Nat) : Nat := (upTo S n m ++ sepL n m).length

theorem len_text (a : ByteArray) : a.data.toList.length = a.size := by simp

theorem split_at (S : Nat → ByteArray) (n m : Nat) (h : m < n) : upTo S n n = (upTo S n m ++ sepL n m) ++ ((S m).data.toList ++ restOf S n (m + 1) (n - (m + 1))) := by
  have := upTo_add S n m (n - m)
  rw [show m + (n - m) = n by omega] at this
  rw [this, show n - m = (n - (m + 1)) + 1 by omega]
  simp [restOf]

theorem at_text (S : Nat → ByteArray) (n m t : Nat) (h : m < n) (ht : t < (S m).size) : (upTo S n n)[posT S n m + t]? = (S m).data.toList[t]? := by
  rw [split_at S n m h, List.getElem?_append_right (by unfold posT; omega)]
  rw [show posT S n m + t - (upTo S n m ++ sepL n m).length = t by unfold posT; omega]
  rw [List.getElem?_append_left (by rw [len_text]; exact ht)]

theorem rest_succ (S : Nat → ByteArray) (n m : Nat) (h : m + 1 < n) : restOf S n (m + 1) (n - (m + 1)) = sepL n (m + 1) ++ ((S (m + 1)).data.toList ++ restOf S n (m + 2) (n - (m + 2))) := by
  rw [show n - (m + 1) = (n - (m + 2)) + 1 by omega]
  simp [restOf]

theorem at_sep (S : Nat → ByteArray) (n m j : Nat) (h : m + 1 < n) (hj : j < (sepL n (m + 1)).length) : (upTo S n n)[posT S n m + (S m).size + j]? = (sepL n (m + 1))[j]? := by
  rw [split_at S n m (by omega), List.getElem?_append_right (by unfold posT; omega)]
  rw [show posT S n m + (S m).size + j - (upTo S n m ++ sepL n m).length = (S m).size + j by unfold posT; omega]
  rw [List.getElem?_append_right (by rw [len_text]; omega), len_text, show (S m).size + j - (S m).size = j by omega]
  rw [rest_succ S n m h, List.getElem?_append_left hj]

theorem pos_succ (S : Nat → ByteArray) (n m : Nat) : posT S n (m + 1) = posT S n m + (S m).size + (sepL n (m + 1)).length := by
  unfold posT
  simp only [upTo, List.length_append, len_text]

theorem pos_last (S : Nat → ByteArray) (n m : Nat) (h : m + 1 = n) : (upTo S n n).length = posT S n m + (S m).size := by
  subst h
  unfold posT
  simp only [upTo, List.length_append, len_text]

theorem pos_le (S : Nat → ByteArray) (n m : Nat) (h : m < n) : posT S n m + (S m).size ≤ (upTo S n n).length := by
  rw [split_at S n m h]
  unfold posT
  simp only [List.length_append, len_text]
  omega

theorem pos_sep_le (S : Nat → ByteArray) (n m : Nat) (h : m + 1 < n) : posT S n m + (S m).size + (sepL n (m + 1)).length ≤ (upTo S n n).length := by
  have := pos_le S n (m + 1) h
  rw [pos_succ] at this
  omega

theorem text_at (S : Nat → ByteArray) (n m : Nat) (h : m < n) : ((upTo S n n).drop (posT S n m)).take (S m).size = (S m).data.toList := by
  rw [split_at S n m h]
  unfold posT
  rw [List.drop_append, List.drop_of_length_le (Nat.le_refl _)]
  simp only [Nat.sub_self, List.drop_zero, List.nil_append]
  rw [List.take_append_of_le_length (by rw [len_text]; exact Nat.le_refl _), List.take_of_length_le (by rw [len_text]; exact Nat.le_refl _)]

theorem sep_or (n m : Nat) (h : m + 2 = n) : sepL n (m + 1) = orL := by
  unfold sepL
  rw [if_neg (by omega), if_pos (by omega)]
theorem sep_comma (n m : Nat) (h : m + 2 < n) : sepL n (m + 1) = commaL := by
  unfold sepL
  rw [if_neg (by omega), if_neg (by omega)]

/-- a byte of a string, off its list -/
theorem byte_at {s : ByteArray} {i : Nat} {c : UInt8} (h : s.data.toList[i]? = some c) : ∃ hi : i < s.size, s[i] = c := by
  have hi : i < s.data.toList.length := by
    rcases Nat.lt_or_ge i s.data.toList.length with h' | h'
    · exact h'
    · rw [List.getElem?_eq_none h'] at h; cases h
  refine ⟨by simpa using hi, ?_⟩
  rw [List.getElem?_eq_getElem hi] at h
  have h' : s.data[i]'(by simpa using hi) = c := by simpa using h
  exact h'

theorem ext_list {a b : ByteArray} (h : a.data.toList = b.data.toList) : a = b := by
  cases a; cases b
  simp at h
  subst h
  rfl

theorem extract_list (s : ByteArray) (i j : Nat) : (s.extract i j).data.toList = (s.data.toList.take j).drop i := by
  simp [ByteArray.data_extract, Array.toList_extract, List.drop_take]

theorem extract_text {s : ByteArray} {S : Nat → ByteArray} {n m : Nat} (hs : s.data.toList = upTo S n n) (h : m < n) : s.extract (posT S n m) (posT S n m + (S m).size) = S m := by
  apply ext_list
  rw [extract_list, hs, List.drop_take, show posT S n m + (S m).size - posT S n m = (S m).size by omega]
  exact text_at S n m h

end Go.Proofs.Qxb6604238a
