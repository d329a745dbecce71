/-
  Seat b6604214a: a slice of offers that came in, opened; the law on every input.
-/
import Derived.Test.Qxb6604214aScript
import Derived.ProofKit
import Derived.OpenShut
import Derived.Deep.Slices
namespace Go.Proofs.Qxb6604214a
open Go.RowKit Go.Deep Go.ChangeShapes Go.WideShapes

/-- what the walk is told of a slice of offers: it is empty; or it leads to a row of offers -/
def IsOffers (w : World) (a : Option Addr) (len : Nat) : Prop :=
  len = 0 ∨ ∃ b off A N T V L F, a = some ⟨b, off, none⟩ ∧ len ≤ maxLen ∧ Offers w b off len A N T V L F

structure Six where
  a : Int
  n : Bool
  t : Int
  v : Int
  l : Int
  f : Int

theorem open_offers {H : Type} {enc : TypeId × Value → H} {w : World} {fuel : Nat} {a : Option Addr} {len cap : Nat} {x : DataW H × List MemPlace}
    (h : DataW.trod enc Try.prog w 0 (fun _ => true) true fuel 22 [.slice a len cap] = some x) : IsOffers w a len := by
  rcases open_slice Try.underlying22 h with ⟨hcs, _⟩ | ⟨a', l, c, m, n, D, Pl, hcs, _, hl, hm, hmm, _, hx⟩
  · simp at hcs
    exact .inl hcs.2.1
  · simp at hcs
    obtain ⟨rfl, rfl, rfl⟩ := hcs
    by_cases h0 : len = 0
    · exact .inl h0
    right
    have ce : Try.prog.cellsOf 30 = 6 := by kernel_rfl
    have c2 : Try.prog.cellsOf 2 = 1 := by kernel_rfl
    have c27 : Try.prog.cellsOf 27 = 1 := by kernel_rfl
    have c28 : Try.prog.cellsOf 28 = 1 := by kernel_rfl
    have c4 : Try.prog.cellsOf 4 = 1 := by kernel_rfl
    have c5 : Try.prog.cellsOf 5 = 1 := by kernel_rfl
    simp at hmm
    subst hmm
    have inst : Inhabited Six := ⟨⟨0, false, 0, 0, 0, 0⟩⟩
    have each : ∀ i, i < len → ∃ q : Six, w.cell? (a'.add (i * 6)) = some (.int .u64 q.a) ∧ w.cell? (a'.add (i * 6 + 1)) = some (.bool q.n) ∧ w.cell? (a'.add (i * 6 + 2)) = some (.int .i64 q.t) ∧
        w.cell? (a'.add (i * 6 + 3)) = some (.int .u64 q.v) ∧ w.cell? (a'.add (i * 6 + 4)) = some (.int .u32 q.l) ∧ w.cell? (a'.add (i * 6 + 5)) = some (.int .u8 q.f) ∧ (0 ≤ q.l ∧ q.l < 4294967296) ∧ (0 ≤ q.f ∧ q.f ≤ 255) := by
      intro i hi
      obtain ⟨cs', h1, h2⟩ := hx i (by omega)
      rw [ce] at h1
      obtain ⟨_, hlen, hcell⟩ := World.cells?_some h1
      obtain ⟨xs, k, hk, hxy, _, hxl, hf⟩ := DataW.trod_struct Try.underlying30 h2
      match xs, hxl, cs', hlen with
      | [y0, y1, y2, y3, y4, y5], _, [v0, v1, v2, v3, v4, v5], _ =>
        have g0 := hf 0 _ rfl
        have g1 := hf 1 _ rfl
        have g2 := hf 2 _ rfl
        have g3 := hf 3 _ rfl
        have g4 := hf 4 _ rfl
        have g5 := hf 5 _ rfl
        simp [c2, c27, c28, c4, c5] at g0 g1 g2 g3 g4 g5
        obtain ⟨z0, e0, _, _⟩ := DataW.trod_int Try.underlying27 g0
        obtain ⟨z1, e1, _⟩ := DataW.trod_bool Try.underlying4 g1
        obtain ⟨z2, e2, _, _⟩ := DataW.trod_int Try.underlying2 g2
        obtain ⟨z3, e3, _, _⟩ := DataW.trod_int Try.underlying27 g3
        obtain ⟨z4, e4, _, wf4⟩ := DataW.trod_int Try.underlying28 g4
        obtain ⟨z5, e5, _, wf5⟩ := DataW.trod_int Try.underlying5 g5
        simp at e0 e1 e2 e3 e4 e5
        subst e0 e1 e2 e3 e4 e5
        have k0 := hcell 0 (by omega)
        have k1 := hcell 1 (by omega)
        have k2 := hcell 2 (by omega)
        have k3 := hcell 3 (by omega)
        have k4 := hcell 4 (by omega)
        have k5 := hcell 5 (by omega)
        rw [add_add] at k0 k1 k2 k3 k4 k5
        have wb := bounds_u32 wf4
        have wb5 := bounds_u8 wf5
        exact ⟨⟨z0, z1, z2, z3, z4, z5⟩, by simpa using k0, by simpa using k1, by simpa using k2, by simpa using k3, by simpa using k4, by simpa using k5, ⟨wb.1, by have := wb.2; show z4 < 4294967296; omega⟩, wb5⟩
    obtain ⟨q, hq⟩ := choose_lt each
    have hspot : a'.spot = none := by
      have := (hq 0 (by omega)).1
      simpa [Addr.add] using World.cell?_spot this
    obtain ⟨b, off, spot⟩ := a'
    simp at hspot
    subst hspot
    refine ⟨b, off, fun i => (q i).a, fun i => (q i).n, fun i => (q i).t, fun i => (q i).v, fun i => (q i).l, fun i => (q i).f, rfl, by omega, ?_⟩
    refine ⟨fun k hk => ?_, fun k hk => ?_, fun k hk => ?_, fun k hk => ?_, fun k hk => ?_, fun k hk => ?_, fun k hk => (hq k hk).2.2.2.2.2.2.1, fun k hk => (hq k hk).2.2.2.2.2.2.2⟩
    · rw [← add_plain]; exact (hq k hk).1
    · rw [Nat.add_assoc, ← add_plain]; exact (hq k hk).2.1
    · rw [Nat.add_assoc, ← add_plain]; exact (hq k hk).2.2.1
    · rw [Nat.add_assoc, ← add_plain]; exact (hq k hk).2.2.2.1
    · rw [Nat.add_assoc, ← add_plain]; exact (hq k hk).2.2.2.2.1
    · rw [Nat.add_assoc, ← add_plain]; exact (hq k hk).2.2.2.2.2.1

set_option maxRecDepth 100000 in
set_option maxHeartbeats 400000 in
/-- no offers -/
theorem script_none (a : Option Addr) (cap : Nat) (w : World) :
    Calls Try.prog 3 #[.slice a 0 cap] w fun e w' => e = .returned (.bool true) ∧ Below w.heap.size w w' := by
  go_enter Try.func3, Try.ntmps3
  go_wp2
  refine wp_loop_rounds 1 ?_
  rw [rounds_succ]
  go_wp2
  go_ret
  exact ⟨rfl, by go_grown⟩

set_option maxRecDepth 100000 in
set_option maxHeartbeats 400000 in
/-- too many -/
theorem script_many (a : Option Addr) (len cap : Nat) (w : World) (h : 16384 < len) (hm : len ≤ maxLen) :
    Calls Try.prog 3 #[.slice a len cap] w fun e w' => e = .returned (.bool true) ∧ Below w.heap.size w w' := by
  unfold maxLen at hm
  by_cases h2 : len ≤ 1048576
  · go_enter Try.func3, Try.ntmps3
    go_wp2
    go_ret
    exact ⟨rfl, Below.refl _ _⟩
  · go_enter Try.func3, Try.ntmps3
    go_wp2
    go_ret
    exact ⟨rfl, Below.refl _ _⟩

theorem script_any (a : Option Addr) (len cap : Nat) (w : World) (h : IsOffers w a len) :
    Calls Try.prog 3 #[.slice a len cap] w fun e w' => e = .returned (.bool true) ∧ Below w.heap.size w w' := by
  rcases h with rfl | ⟨b, off, A, N, T, V, L, F, rfl, hm, hr⟩
  · exact script_none a cap w
  · by_cases hl : len ≤ 16384
    · exact script_go b off len cap A N T V L F w hr hl
    · exact script_many _ _ _ _ (by omega) hm

end Go.Proofs.Qxb6604214a
