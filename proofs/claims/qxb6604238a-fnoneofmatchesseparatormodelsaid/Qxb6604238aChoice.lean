/-
  Seat b6604238a: "A, B or C" as a list of bytes. No Go in sight.
-/
import Derived.Lib.Join
import Derived.Test.Qxb6604238aTexts
namespace Go.Proofs.Qxb6604238a

def orL : List UInt8 := [32, 111, 114, 32]
def commaL : List UInt8 := [44, 32]
/-- what stands ahead of text k of n -/
def sepL (n k : Nat) : List UInt8 := if k = 0 then [] else if k + 1 = n then orL else commaL
/-- the first k texts of n, each behind its separator -/
def upTo (S : Nat → ByteArray) (n : Nat) : Nat → List UInt8
  | 0 => []
  | k + 1 => upTo S n k ++ sepL n k ++ (S k).data.toList

theorem sep_length (n k : Nat) : (sepL n k).length ≤ 4 := by
  unfold sepL
  split
  · simp
  · split
    · decide
    · decide

theorem upTo_length (S : Nat → ByteArray) (n k : Nat) : (upTo S n k).length ≤ sumS S k + 4 * k := by
  induction k with
  | zero => simp [upTo]
  | succ k ih =>
    have h1 := sep_length n k
    have h2 : (S k).data.toList.length = (S k).size := by simp
    simp only [upTo, sumS, List.length_append, h2]
    omega

theorem join_snoc (l : List (List UInt8)) (x sep : List UInt8) (h : l ≠ []) : Lib.join (l ++ [x]) sep = Lib.join l sep ++ sep ++ x := by
  cases l with
  | nil => exact absurd rfl h
  | cons y r =>
    rw [List.cons_append, Lib.join_cons, Lib.join_cons]
    simp [Lib.joinTail]

/-- Join of the first m texts by commas, m short of n -/
theorem join_upTo (S : Nat → ByteArray) (n m : Nat) (h : m < n) : Lib.join (((List.range m).map S).map (·.data.toList)) commaL = upTo S n m := by
  induction m with
  | zero => rfl
  | succ m ih =>
    rw [List.range_succ, List.map_append, List.map_append]
    simp only [List.map_cons, List.map_nil, upTo]
    by_cases hm : m = 0
    · subst hm
      simp [upTo, sepL, Lib.join_one]
    · rw [join_snoc _ _ _ (by simp; omega), ih (by omega)]
      unfold sepL
      rw [if_neg hm, if_neg (by omega)]

/-- what is left behind the first k texts -/
def restOf (S : Nat → ByteArray) (n : Nat) : Nat → Nat → List UInt8
  | _, 0 => []
  | k, d + 1 => sepL n k ++ (S k).data.toList ++ restOf S n (k + 1) d

theorem upTo_add (S : Nat → ByteArray) (n k d : Nat) : upTo S n (k + d) = upTo S n k ++ restOf S n k d := by
  induction d generalizing k with
  | zero => simp [restOf]
  | succ d ih =>
    rw [show k + (d + 1) = k + 1 + d by omega, ih (k + 1)]
    simp [upTo, restOf]

end Go.Proofs.Qxb6604238a
