/-
  Seat b6604238a: a slice of strings that came in, opened.
-/
import Derived.Test.Qxb6604238aTexts
import Derived.ProofKit
import Derived.OpenShut
import Derived.Deep.Slices
namespace Go.Proofs.Qxb6604238a
open Go.RowKit Go.Deep Go.ChangeShapes Go.WideShapes

/-- what the walk is told of a slice of strings: it is empty; or it leads to a row of strings -/
def IsTexts (w : World) (a : Option Addr) (len : Nat) : Prop :=
  len = 0 ∨ ∃ b off S, a = some ⟨b, off, none⟩ ∧ 1 ≤ len ∧ len ≤ maxLen ∧ Texts w b off len S

theorem open_texts {H : Type} {enc : TypeId × Value → H} {w : World} {fuel : Nat} {a : Option Addr} {len cap : Nat} {x : DataW H × List MemPlace}
    (h : DataW.trod enc Try.prog w 0 (fun _ => true) true fuel 28 [.slice a len cap] = some x) : IsTexts w a len := by
  rcases open_slice1 Try.underlying28 (by kernel_rfl) h with ⟨hcs, _⟩ | ⟨a', l, c, m, n, V, D, Pl, hcs, _, hl, hm, hmm, _, hx⟩
  · simp at hcs
    exact .inl hcs.2.1
  · simp at hcs
    obtain ⟨rfl, rfl, rfl⟩ := hcs
    by_cases h0 : len = 0
    · exact .inl h0
    right
    simp at hmm
    subst hmm
    have each : ∀ i, i < len → ∃ s : ByteArray, w.cell? (a'.add i) = some (.string s) ∧ s.size ≤ maxLen := by
      intro i hi
      obtain ⟨h1, h2⟩ := hx i (by omega)
      obtain ⟨s, e, _, hs⟩ := DataW.trod_string Try.underlying9 h2
      simp at e
      exact ⟨s, by rw [h1, e], hs⟩
    obtain ⟨S, hS⟩ := choose_lt each
    have hspot : a'.spot = none := by
      have := (hS 0 (by omega)).1
      simpa [Addr.add] using World.cell?_spot this
    obtain ⟨b, off, spot⟩ := a'
    simp at hspot
    subst hspot
    refine ⟨b, off, S, rfl, by omega, by omega, fun k hk => ?_, fun k hk => ?_⟩
    · rw [← add_plain]; exact (hS k hk).1
    · have := (hS k hk).2
      unfold maxLen at this
      exact this

end Go.Proofs.Qxb6604238a
