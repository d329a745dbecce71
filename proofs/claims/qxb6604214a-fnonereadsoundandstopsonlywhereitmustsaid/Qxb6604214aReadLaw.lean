/-
  Seat b6604214a: the plain laws on one read. No walk here.
-/
import Derived.Test.Qxb6604214aOneRead
namespace Go.Proofs.Qxb6604214a

/-- ref j follows the one ahead of it -/
def fol (A L : Nat → Int) (M : Nat → Bool) (j : Nat) : Prop := follB (recE A L (j - 1)) (A j) (M j) = true

theorem fol_at {A L : Nat → Int} {M : Nat → Bool} {j : Nat} (h : fol A L M j) : recE A L (j - 1) ≤ A j := by
  unfold fol follB at h
  simp at h
  omega

theorem recE_mono {A L : Nat → Int} {M : Nat → Bool} {len c : Nat} (hL : ∀ k, k < len → 0 ≤ L k) (hc : c ≤ len) (hf : ∀ j, 1 ≤ j → j < c → fol A L M j) (i d : Nat) : i + d < c → recE A L i ≤ recE A L (i + d) := by
  induction d with
  | zero => intro _; exact Int.le_refl _
  | succ d ih =>
    intro h
    have h1 := ih (by omega)
    have h2 := fol_at (hf (i + (d + 1)) (by omega) h)
    have h3 := hL (i + (d + 1)) (by omega)
    rw [show i + (d + 1) - 1 = i + d by omega] at h2
    have h4 : recE A L (i + (d + 1)) = A (i + (d + 1)) + 9 + L (i + (d + 1)) := rfl
    omega

theorem longest {A L : Nat → Int} {M : Nat → Bool} {len c n k : Nat} (hr : isRead len A L M n) (hL : ∀ k, k < len → 0 ≤ L k) (hc1 : 1 ≤ c) (hc : c ≤ len)
    (hf : ∀ j, 1 ≤ j → j < c → fol A L M j) (hstop : c < len → ¬ fol A L M c) (hk1 : 1 ≤ k) (hk : k ≤ c) (habove : ∀ j, k < j → j ≤ c → 1048576 < recE A L (j - 1) - A 0)
    (hat : k = 1 ∨ recE A L (k - 1) - A 0 ≤ 1048576) : n = k := by
  obtain ⟨n1, nl, hj, hn⟩ := hr
  have hnc : n ≤ c := by
    rcases Nat.lt_or_ge c n with h | h
    · exact absurd (hj c hc1 h).1 (hstop (by omega))
    · exact h
  rcases Nat.lt_trichotomy n k with h | h | h
  · exfalso
    rcases hat with e | e
    · omega
    · refine hn (by omega) ⟨hf n n1 (by omega), ?_⟩
      have := recE_mono hL hc hf n (k - 1 - n) (by omega)
      rw [show n + (k - 1 - n) = k - 1 by omega] at this
      omega
  · exact h
  · have h1 := (hj (n - 1) (by omega) (by omega)).2
    have h2 := habove n h hnc
    omega

end Go.Proofs.Qxb6604214a
