/-
  Seat b6604214a: a slice of refs that came in, opened.
-/
import Derived.Test.Qxb6604214aRange
import Derived.ProofKit
import Derived.OpenShut
import Derived.Deep.Slices
namespace Go.Proofs.Qxb6604214a
open Go.RowKit Go.Deep Go.ChangeShapes Go.WideShapes

/-- what the walk is told of a slice of refs: it is nil; or it leads to a row of refs -/
def IsRefs (w : World) (a : Option Addr) (len cap : Nat) : Prop :=
  (a = none ∧ len = 0 ∧ cap = 0) ∨ (∃ x, a = some x ∧ len = 0) ∨
  ∃ b off A L M, a = some ⟨b, off, none⟩ ∧ 1 ≤ len ∧ len ≤ maxLen ∧ Refs w b off len A L M

theorem open_refs {H : Type} {enc : TypeId × Value → H} {w : World} {fuel : Nat} {a : Option Addr} {len cap : Nat} {x : DataW H × List MemPlace}
    (h : DataW.trod enc Try.prog w 0 (fun _ => true) true fuel 44 [.slice a len cap] = some x) : IsRefs w a len cap := by
  rcases open_slice Try.underlying44 h with ⟨hcs, _⟩ | ⟨a', l, c, m, n, D, Pl, hcs, _, hl, hm, hmm, _, hx⟩
  · simp at hcs
    exact .inl hcs
  · simp at hcs
    obtain ⟨rfl, rfl, rfl⟩ := hcs
    right
    by_cases h0 : len = 0
    · exact .inl ⟨a', rfl, h0⟩
    right
    have ce : Try.prog.cellsOf 51 = 3 := by kernel_rfl
    have c2 : Try.prog.cellsOf 2 = 1 := by kernel_rfl
    have c28 : Try.prog.cellsOf 28 = 1 := by kernel_rfl
    have c4 : Try.prog.cellsOf 4 = 1 := by kernel_rfl
    simp at hmm
    subst hmm
    have each : ∀ i, i < len → ∃ q : Int × Int × Bool, w.cell? (a'.add (i * 3)) = some (.int .i64 q.1) ∧ w.cell? (a'.add (i * 3 + 1)) = some (.int .u32 q.2.1) ∧ w.cell? (a'.add (i * 3 + 2)) = some (.bool q.2.2) ∧ (0 ≤ q.2.1 ∧ q.2.1 < 4294967296) := by
      intro i hi
      obtain ⟨cs', h1, h2⟩ := hx i (by omega)
      rw [ce] at h1
      obtain ⟨_, hlen, hcell⟩ := World.cells?_some h1
      obtain ⟨xs, k, hk, hxy, _, hxl, hf⟩ := DataW.trod_struct Try.underlying51 h2
      match xs, hxl, cs', hlen with
      | [y0, y1, y2], _, [v0, v1, v2], _ =>
        have g0 := hf 0 _ rfl
        have g1 := hf 1 _ rfl
        have g2 := hf 2 _ rfl
        simp [c2, c28, c4] at g0 g1 g2
        obtain ⟨z0, e0, _, _⟩ := DataW.trod_int Try.underlying2 g0
        obtain ⟨z1, e1, _, wf1⟩ := DataW.trod_int Try.underlying28 g1
        obtain ⟨z2, e2, _⟩ := DataW.trod_bool Try.underlying4 g2
        simp at e0 e1 e2
        subst e0 e1 e2
        have k0 := hcell 0 (by omega)
        have k1 := hcell 1 (by omega)
        have k2 := hcell 2 (by omega)
        rw [add_add] at k0 k1 k2
        have wb := bounds_u32 wf1
        exact ⟨(z0, z1, z2), by simpa using k0, by simpa using k1, by simpa using k2, by simp at wb ⊢; omega⟩
    obtain ⟨q, hq⟩ := choose_lt each
    have hspot : a'.spot = none := by
      have := (hq 0 (by omega)).1
      simpa [Addr.add] using World.cell?_spot this
    obtain ⟨b, off, spot⟩ := a'
    simp at hspot
    subst hspot
    refine ⟨b, off, fun i => (q i).1, fun i => (q i).2.1, fun i => (q i).2.2, rfl, by omega, by omega, ?_⟩
    refine ⟨fun k hk => ?_, fun k hk => ?_, fun k hk => ?_, fun k hk => (hq k hk).2.2.2⟩
    · rw [← add_plain]; exact (hq k hk).1
    · rw [Nat.add_assoc, ← add_plain]; exact (hq k hk).2.1
    · rw [Nat.add_assoc, ← add_plain]; exact (hq k hk).2.2.1

end Go.Proofs.Qxb6604214a
