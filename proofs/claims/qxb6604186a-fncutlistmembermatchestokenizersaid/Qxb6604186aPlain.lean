/-
  The plain side of 'FnCutListMemberMatchesTokenizer': which byte cuts. No Go in sight.
-/
namespace Go.Proofs.Qxb6604186a.CutPlain

/-- the byte at i as a number (0 beyond the end) -/
def bt (s : ByteArray) (i : Nat) : Nat := if h : i < s.size then (s[i]).toNat else 0
theorem bt_lt {s : ByteArray} {i : Nat} (h : i < s.size) : bt s i = (s[i]).toNat := by unfold bt; rw [dif_pos h]

/-- outside a quoted string (0), inside one (1), behind a backslash inside one (2) -/
def stepq (q c : Nat) : Nat :=
  if q = 0 then (if c = 34 then 1 else 0) else if q = 1 then (if c = 92 then 2 else if c = 34 then 0 else 1) else 1
def st (s : ByteArray) : Nat → Nat
  | 0 => 0
  | n + 1 => stepq (st s n) (bt s n)

def cuts (s : ByteArray) (j : Nat) : Prop := st s j = 0 ∧ bt s j = 44

def isCut (s a b : ByteArray) : Prop :=
  (∃ r, r < s.size ∧ cuts s r ∧ (∀ j, j < r → ¬ cuts s j) ∧ a = s.extract 0 r ∧ b = s.extract (r + 1) s.size)
  ∨ ((∀ j, j < s.size → ¬ cuts s j) ∧ a = s ∧ b = ByteArray.empty)

theorem isCut_unique {s a b a' b' : ByteArray} (h : isCut s a b) (h' : isCut s a' b') : a = a' ∧ b = b' := by
  rcases h with ⟨r, hr, hc, hn, rfl, rfl⟩ | ⟨hn, rfl, rfl⟩
  · rcases h' with ⟨r', hr', hc', hn', rfl, rfl⟩ | ⟨hn', rfl, rfl⟩
    · have : r = r' := by
        rcases Nat.lt_trichotomy r r' with h | h | h
        · exact absurd hc (hn' r h)
        · exact h
        · exact absurd hc' (hn r' h)
      subst this; exact ⟨rfl, rfl⟩
    · exact absurd hc (hn' r hr)
  · rcases h' with ⟨r', hr', hc', hn', rfl, rfl⟩ | ⟨hn', rfl, rfl⟩
    · exact absurd hc' (hn r' hr')
    · exact ⟨rfl, rfl⟩

/-- the round's head: position i, whether quoted; nothing cut so far. The position may be one beyond the end. -/
def head (s : ByteArray) (q i : Nat) : Prop := st s i = q ∧ ∀ j, j < i → ¬ cuts s j

theorem head0 (s : ByteArray) : head s 0 0 := ⟨rfl, fun j h => absurd h (Nat.not_lt_zero j)⟩

theorem head_succ {s : ByteArray} {q i : Nat} (h : head s q i) (hc : ¬ (q = 0 ∧ bt s i = 44)) : head s (stepq q (bt s i)) (i + 1) := by
  obtain ⟨h1, h2⟩ := h
  refine ⟨by show stepq (st s i) (bt s i) = _; rw [h1], fun j hj => ?_⟩
  rcases Nat.lt_or_eq_of_le (Nat.le_of_lt_succ hj) with h | h
  · exact h2 j h
  · subst h; intro hcu; exact hc ⟨h1 ▸ hcu.1, hcu.2⟩

theorem head_esc {s : ByteArray} {i : Nat} (h : head s 1 i) (hc : bt s i = 92) : head s 1 (i + 2) := by
  have h1 : head s 2 (i + 1) := by
    have := head_succ h (by omega); rw [hc] at this; exact this
  have := head_succ h1 (by omega)
  exact this
theorem head_in {s : ByteArray} {i : Nat} (h : head s 1 i) (h92 : bt s i ≠ 92) (h34 : bt s i ≠ 34) : head s 1 (i + 1) := by
  have := head_succ h (by omega); unfold stepq at this; rw [if_neg (by omega), if_pos rfl, if_neg h92, if_neg h34] at this; exact this
theorem head_close {s : ByteArray} {i : Nat} (h : head s 1 i) (h34 : bt s i = 34) : head s 0 (i + 1) := by
  have := head_succ h (by omega); unfold stepq at this; rw [if_neg (by omega), if_pos rfl, if_neg (by omega), if_pos h34] at this; exact this
theorem head_open {s : ByteArray} {i : Nat} (h : head s 0 i) (h34 : bt s i = 34) : head s 1 (i + 1) := by
  have := head_succ h (by omega); unfold stepq at this; rw [if_pos rfl, if_pos h34] at this; exact this
theorem head_out {s : ByteArray} {i : Nat} (h : head s 0 i) (h44 : bt s i ≠ 44) (h34 : bt s i ≠ 34) : head s 0 (i + 1) := by
  have := head_succ h (by omega); unfold stepq at this; rw [if_pos rfl, if_neg h34] at this; exact this

theorem cut_here {s : ByteArray} {i : Nat} (h : head s 0 i) (hi : i < s.size) (hc : bt s i = 44) : isCut s (s.extract 0 i) (s.extract (i + 1) s.size) :=
  .inl ⟨i, hi, ⟨h.1, hc⟩, h.2, rfl, rfl⟩
theorem cut_none {s : ByteArray} {q i : Nat} (h : head s q i) (hi : s.size ≤ i) : isCut s s ByteArray.empty :=
  .inr ⟨fun j hj => h.2 j (by omega), rfl, rfl⟩

end Go.Proofs.Qxb6604186a.CutPlain
