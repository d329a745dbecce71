/-
  Seat b6604238a: the automaton of JSON's numbers, plainly. No Go in sight.
-/
namespace Go.Proofs.Qxb6604238a.Json

/-- one step of the automaton; -1 is dead -/
def stepJ (q c : Int) : Int :=
  if q = 0 then (if c = 45 then 1 else if c = 48 then 2 else if 48 ≤ c ∧ c ≤ 57 then 3 else -1)
  else if q = 1 then (if c = 48 then 2 else if 48 ≤ c ∧ c ≤ 57 then 3 else -1)
  else if q = 2 then (if c = 46 then 4 else if c = 101 ∨ c = 69 then 6 else -1)
  else if q = 3 then (if 48 ≤ c ∧ c ≤ 57 then 3 else if c = 46 then 4 else if c = 101 ∨ c = 69 then 6 else -1)
  else if q = 4 then (if 48 ≤ c ∧ c ≤ 57 then 5 else -1)
  else if q = 5 then (if 48 ≤ c ∧ c ≤ 57 then 5 else if c = 101 ∨ c = 69 then 6 else -1)
  else if q = 6 then (if c = 43 ∨ c = 45 then 7 else if 48 ≤ c ∧ c ≤ 57 then 8 else -1)
  else if q = 7 ∨ q = 8 then (if 48 ≤ c ∧ c ≤ 57 then 8 else -1)
  else -1

def runJ (q : Int) : List UInt8 → Int
  | [] => q
  | c :: l => runJ (stepJ q (c.toNat : Int)) l

def accJ (q : Int) : Bool := decide (q = 2 ∨ q = 3 ∨ q = 5 ∨ q = 8)

theorem step_dead (c : Int) : stepJ (-1) c = -1 := rfl
theorem run_dead (l : List UInt8) : runJ (-1) l = -1 := by
  induction l with
  | nil => rfl
  | cons c l ih => exact ih
theorem run_append (q : Int) (l m : List UInt8) : runJ q (l ++ m) = runJ (runJ q l) m := by
  induction l generalizing q with
  | nil => rfl
  | cons c l ih => exact ih _

/-- the state behind the first i bytes of s -/
def stJ (s : ByteArray) (i : Nat) : Int := runJ 0 (s.data.toList.take i)
def jn (s : ByteArray) : Bool := accJ (runJ 0 s.data.toList)

theorem st_zero (s : ByteArray) : stJ s 0 = 0 := rfl
theorem st_succ (s : ByteArray) (i : Nat) (h : i < s.size) : stJ s (i + 1) = stepJ (stJ s i) ((s[i]).toNat : Int) := by
  unfold stJ
  rw [List.take_succ_eq_append_getElem (by simpa using h), run_append]
  rfl
theorem jn_of (s : ByteArray) (i : Nat) (h : s.size ≤ i) : jn s = accJ (stJ s i) := by
  unfold jn stJ
  rw [List.take_of_length_le (by simpa using h)]
theorem st_dead (s : ByteArray) (i : Nat) (h : stJ s i = -1) : jn s = false := by
  unfold jn
  rw [← List.take_append_drop i s.data.toList, run_append]
  have : runJ 0 (s.data.toList.take i) = -1 := h
  rw [this, run_dead]
  rfl
/-- a byte that leads nowhere, or the end in a state that does not accept -/
theorem jn_false (s : ByteArray) (i : Nat) (q : Int) (hq : stJ s i = q) (hi : i ≤ s.size) (hacc : accJ q = false) (hstep : (h : i < s.size) → stepJ q ((s[i]).toNat : Int) = -1) : jn s = false := by
  rcases Nat.lt_or_eq_of_le hi with h | h
  · exact st_dead s (i + 1) (by rw [st_succ s i h, hq]; exact hstep h)
  · rw [jn_of s i (by omega), hq, hacc]
theorem jn_end (s : ByteArray) (i : Nat) (q : Int) (hq : stJ s i = q) (hi : i ≤ s.size) (hacc : accJ q = true) (hstep : (h : i < s.size) → stepJ q ((s[i]).toNat : Int) = -1) : jn s = decide (i = s.size) := by
  rcases Nat.lt_or_eq_of_le hi with h | h
  · rw [st_dead s (i + 1) (by rw [st_succ s i h, hq]; exact hstep h)]
    simp; omega
  · rw [jn_of s i (by omega), hq, hacc]
    simp [h]

end Go.Proofs.Qxb6604238a.Json
