/-
  Seat b6604214a: a page of the call's own: its four fields, the three rows that it owns, and what stays as it was behind a take.
-/
import Derived.Test.Qxb6604214aPage
namespace Go.Proofs.Qxb6604214a
open Go.RowKit

/-- but for the blocks that S names (and new ones) the world is as it was -/
structure Far (S : Nat → Prop) (w w' : World) : Prop where
  os : w'.os = w.os
  tape : w'.tape = w.tape
  output : w'.output = w.output
  size : w.heap.size ≤ w'.heap.size
  block : ∀ k, k < w.heap.size → ¬ S k → w'.heap[k]? = w.heap[k]?

namespace Far
variable {S : Nat → Prop} {w w' w'' : World}
theorem refl (S : Nat → Prop) (w : World) : Far S w w := ⟨rfl, rfl, rfl, Nat.le_refl _, fun _ _ _ => rfl⟩
theorem trans (h : Far S w w') (k : Far S w' w'') : Far S w w'' :=
  ⟨k.os.trans h.os, k.tape.trans h.tape, k.output.trans h.output, Nat.le_trans h.size k.size, fun i hi hs => (k.block i (Nat.lt_of_lt_of_le hi h.size) hs).trans (h.block i hi hs)⟩
theorem drew (h : Far S w w') : Far S w w'.drew := ⟨h.os, h.tape, h.output, h.size, h.block⟩
theorem of_below (h : Below w.heap.size w w') : Far S w w' := ⟨h.os, h.tape, h.output, h.size, fun k hk _ => h.block k hk⟩
theorem alloc (h : Far S w w') (o : Obj) : Far S w (w'.alloc o) := h.trans (of_below ((Below.refl _ _).alloc (Nat.le_refl _) _))
theorem setCell (h : Far S w w') {a : Addr} (ha : S a.block) (v : Value) : Far S w (w'.setCell a v) :=
  h.trans ⟨rfl, rfl, rfl, by simp [World.setCell], fun k _ hs => Below.heap_setCell _ _ _ _ (fun e => hs (e ▸ ha))⟩
theorem grown {row : Option Nat} (h : Far S w w') (hg : w'.grownBy w'' row) (hr : ∀ k, row = some k → S k) : Far S w w'' :=
  h.trans ⟨hg.os, hg.tape, hg.output, hg.size, fun k hk hs => hg.block k hk (fun e => hs (hr k e.symm))⟩
theorem mono {T : Nat → Prop} (h : Far S w w') (hst : ∀ k, S k → T k) : Far T w w' := ⟨h.os, h.tape, h.output, h.size, fun k hk hs => h.block k hk (fun e => hs (hst k e))⟩
theorem cell (h : Far S w w') {a : Addr} (hl : a.block < w.heap.size) (hs : ¬ S a.block) : w'.cell? a = w.cell? a := World.cell?_of_block (w := w) (h.block _ hl hs)
theorem below (h : Far S w w') {B : Nat} (hB : B ≤ w.heap.size) (hs : ∀ k, S k → B ≤ k) : Below B w w' :=
  ⟨h.os, h.tape, h.output, h.size, fun k hk => h.block k (by omega) (fun e => by have := hs k e; omega)⟩
end Far

/-- the blocks of a page: its own, and its three rows -/
def PageSet (pg : Nat) (vr vf vw : Value) (k : Nat) : Prop := k = pg ∨ vr.ownBlock = some k ∨ vf.ownBlock = some k ∨ vw.ownBlock = some k

structure PageInv (w : World) (pg : Nat) (vr vf vw : Value) (nr nf nw : Nat) (sz : Int) : Prop where
  c0 : w.cell? ⟨pg, 0, none⟩ = some vr
  c1 : w.cell? ⟨pg, 1, none⟩ = some vf
  c2 : w.cell? ⟨pg, 2, none⟩ = some vw
  c3 : w.cell? ⟨pg, 3, none⟩ = some (.int .i64 sz)
  fz : ∀ i, w.frozen? ⟨pg, i, none⟩ = false
  rr : ∃ xs, w.ownsRow (pg + 1) 42 3 vr nr xs
  rf : ∃ xs, w.ownsRow (pg + 1) 27 1 vf nf xs
  rw' : ∃ xs, w.ownsRow (pg + 1) 27 1 vw nw xs
  d1 : vr.ownBlock = none ∨ vr.ownBlock ≠ vf.ownBlock
  d2 : vr.ownBlock = none ∨ vr.ownBlock ≠ vw.ownBlock
  d3 : vf.ownBlock = none ∨ vf.ownBlock ≠ vw.ownBlock

theorem owns_later {w w' : World} {base : Nat} {e : TypeId} {size : Nat} {v : Value} {n : Nat} {xs : List Value} (h : w.ownsRow base e size v n xs) (hb : Below w.heap.size w w') : w'.ownsRow base e size v n xs :=
  h.kept (row := none) ⟨hb.os, hb.tape, hb.output, hb.size, fun k hk _ => hb.block k hk⟩ (by cases v.ownBlock <;> simp)

theorem PageInv.lt {w : World} {pg : Nat} {vr vf vw : Value} {nr nf nw : Nat} {sz : Int} (h : PageInv w pg vr vf vw nr nf nw sz) : pg < w.heap.size := World.block_lt_of_cell? _ _ h.c0

theorem PageInv.later {w w' : World} {pg : Nat} {vr vf vw : Value} {nr nf nw : Nat} {sz : Int} (h : PageInv w pg vr vf vw nr nf nw sz) (hb : Below w.heap.size w w') : PageInv w' pg vr vf vw nr nf nw sz := by
  obtain ⟨xr, hr⟩ := h.rr
  obtain ⟨xf, hf⟩ := h.rf
  obtain ⟨xw, hw⟩ := h.rw'
  exact ⟨(hb.cell (p := ⟨pg, 0, none⟩) h.lt).trans h.c0, (hb.cell (p := ⟨pg, 1, none⟩) h.lt).trans h.c1, (hb.cell (p := ⟨pg, 2, none⟩) h.lt).trans h.c2, (hb.cell (p := ⟨pg, 3, none⟩) h.lt).trans h.c3,
    fun i => (hb.frozen (p := ⟨pg, i, none⟩) h.lt).trans (h.fz i), ⟨xr, owns_later hr hb⟩, ⟨xf, owns_later hf hb⟩, ⟨xw, owns_later hw hb⟩, h.d1, h.d2, h.d3⟩

/-- what a value that owns a row looks like -/
theorem own_form {w : World} {base : Nat} {e : TypeId} {size : Nat} {v : Value} {n : Nat} {xs : List Value} (h : w.ownsRow base e size v n xs) : ∃ a c, v = .slice a n c := by
  rcases h.2 with ⟨rfl, rfl⟩ | ⟨g, cap, cur, rfl, _⟩
  · exact ⟨none, 0, rfl⟩
  · exact ⟨_, _, rfl⟩

/-- the blocks of a page lie from its own on, and below the heap's end -/
theorem PageInv.set {w : World} {pg : Nat} {vr vf vw : Value} {nr nf nw : Nat} {sz : Int} (h : PageInv w pg vr vf vw nr nf nw sz) {k : Nat} (hk : PageSet pg vr vf vw k) : pg ≤ k ∧ k < w.heap.size := by
  obtain ⟨xr, hr⟩ := h.rr
  obtain ⟨xf, hf⟩ := h.rf
  obtain ⟨xw, hw⟩ := h.rw'
  rcases hk with rfl | e | e | e
  · exact ⟨Nat.le_refl _, h.lt⟩
  · have := hr.lt k e; omega
  · have := hf.lt k e; omega
  · have := hw.lt k e; omega

/-- a cell that a row owns -/
theorem own_cell {w : World} {base : Nat} {e : TypeId} {size : Nat} {g n cap : Nat} {xs : List Value} (h : w.ownsRow base e size (.slice (some ⟨g, 0, none⟩) n cap) n xs) {i : Nat} {u : Value} (hi : xs[i]? = some u) : w.cell? ⟨g, i, none⟩ = some u := by
  rcases h.2 with ⟨e0, _⟩ | ⟨g', cap', cur, e1, _, hg, _, _, _, hx⟩
  · cases e0
  · simp at e1
    obtain ⟨rfl, _⟩ := e1
    have hcur : cur[i]? = some u := by
      rw [← hx, List.getElem?_take] at hi
      split at hi
      · simpa using hi
      · cases hi
    simp [World.cell?, hg, hcur]

theorem cell_set_ne {w : World} {pg i j : Nat} {v u : Value} (h : w.cell? ⟨pg, i, none⟩ = some u) (hne : i ≠ j) : (w.setCell ⟨pg, j, none⟩ v).cell? ⟨pg, i, none⟩ = some u := by
  exact (World.cell?_setCell_other w ⟨pg, j, none⟩ ⟨pg, i, none⟩ v (fun e => hne (by cases e; rfl))).trans h

theorem cell_set_same {w : World} {pg i : Nat} {v u : Value} (h : w.cell? ⟨pg, i, none⟩ = some u) : (w.setCell ⟨pg, i, none⟩ v).cell? ⟨pg, i, none⟩ = some v :=
  World.cell?_setCell_same _ _ _ h

theorem apart_symm {a b : Option Nat} (h : a = none ∨ a ≠ b) : b = none ∨ b ≠ a := by
  cases b with
  | none => exact .inl rfl
  | some x =>
    right
    rcases h with e | e
    · rw [e]; simp
    · exact fun h => e h.symm

/-- a new size is stored -/
theorem PageInv.sized {w : World} {pg : Nat} {vr vf vw : Value} {nr nf nw : Nat} {sz : Int} (h : PageInv w pg vr vf vw nr nf nw sz) (sz' : Int) : PageInv (w.setCell ⟨pg, 3, none⟩ (.int .i64 sz')) pg vr vf vw nr nf nw sz' := by
  obtain ⟨xr, hr⟩ := h.rr
  obtain ⟨xf, hf⟩ := h.rf
  obtain ⟨xw, hw⟩ := h.rw'
  exact ⟨cell_set_ne h.c0 (by omega), cell_set_ne h.c1 (by omega), cell_set_ne h.c2 (by omega), cell_set_same h.c3, fun i => by simpa using h.fz i,
    ⟨xr, ownsRow_setCell_below hr (Nat.lt_succ_self pg) _⟩, ⟨xf, ownsRow_setCell_below hf (Nat.lt_succ_self pg) _⟩, ⟨xw, ownsRow_setCell_below hw (Nat.lt_succ_self pg) _⟩, h.d1, h.d2, h.d3⟩

theorem far_block {w : World} {row : Option Nat} {g : Nat} {v : Value} (hat : row = some g ∨ g = w.heap.size) (hv : ∀ k, v.ownBlock = some k → k < w.heap.size) (hne : v.ownBlock = none ∨ v.ownBlock ≠ row) : v.ownBlock = none ∨ v.ownBlock ≠ some g := by
  cases hb : v.ownBlock with
  | none => exact .inl rfl
  | some k =>
    right
    rcases hat with e | e
    · rw [hb] at hne
      rcases hne with h | h
      · cases h
      · rw [← e]; exact h
    · have := hv k hb
      intro h
      simp at h
      omega

/-- the row of 'run' has grown -/
theorem PageInv.run {w w1 : World} {pg : Nat} {vr vf vw : Value} {nr nf nw : Nat} {sz : Int} (h : PageInv w pg vr vf vw nr nf nw sz) {g cap : Nat} {xs : List Value}
    (hown : w1.ownsRow (pg + 1) 42 3 (.slice (some ⟨g, 0, none⟩) (nr + 1) cap) (nr + 1) xs) (hgr : w.grownBy w1 vr.ownBlock) (hat : vr.ownBlock = some g ∨ g = w.heap.size) :
    PageInv (w1.setCell ⟨pg, 0, none⟩ (.slice (some ⟨g, 0, none⟩) (nr + 1) cap)) pg (.slice (some ⟨g, 0, none⟩) (nr + 1) cap) vf vw (nr + 1) nf nw sz := by
  obtain ⟨xr, hr⟩ := h.rr
  obtain ⟨xf, hf⟩ := h.rf
  obtain ⟨xw, hw⟩ := h.rw'
  have hne : some pg ≠ vr.ownBlock := fun e => by have := hr.lt pg e.symm; omega
  have d1' : vf.ownBlock = none ∨ vf.ownBlock ≠ vr.ownBlock := apart_symm h.d1
  have d2' : vw.ownBlock = none ∨ vw.ownBlock ≠ vr.ownBlock := apart_symm h.d2
  have k1 := far_block hat (fun k e => (hf.lt k e).2) d1'
  have k2 := far_block hat (fun k e => (hw.lt k e).2) d2'
  refine ⟨cell_set_same (hgr.cell h.c0 hne), cell_set_ne (hgr.cell h.c1 hne) (by omega), cell_set_ne (hgr.cell h.c2 hne) (by omega), cell_set_ne (hgr.cell h.c3 hne) (by omega), fun i => by
    simpa using (hgr.frozen_far ⟨pg, i, none⟩ h.lt hne).trans (h.fz i), ⟨_, ownsRow_setCell_below hown (Nat.lt_succ_self pg) _⟩, ⟨_, ownsRow_setCell_below (hf.kept hgr d1') (Nat.lt_succ_self pg) _⟩,
    ⟨_, ownsRow_setCell_below (hw.kept hgr d2') (Nat.lt_succ_self pg) _⟩, .inr ?_, .inr ?_, h.d3⟩
  · intro e; rcases k1 with h | h
    · rw [h] at e; cases e
    · exact h e.symm
  · intro e; rcases k2 with h | h
    · rw [h] at e; cases e
    · exact h e.symm

/-- the row of 'filled' has grown -/
theorem PageInv.filled {w w1 : World} {pg : Nat} {vr vf vw : Value} {nr nf nw : Nat} {sz : Int} (h : PageInv w pg vr vf vw nr nf nw sz) {g cap : Nat} {xs : List Value}
    (hown : w1.ownsRow (pg + 1) 27 1 (.slice (some ⟨g, 0, none⟩) (nf + 1) cap) (nf + 1) xs) (hgr : w.grownBy w1 vf.ownBlock) (hat : vf.ownBlock = some g ∨ g = w.heap.size) :
    PageInv (w1.setCell ⟨pg, 1, none⟩ (.slice (some ⟨g, 0, none⟩) (nf + 1) cap)) pg vr (.slice (some ⟨g, 0, none⟩) (nf + 1) cap) vw nr (nf + 1) nw sz := by
  obtain ⟨xr, hr⟩ := h.rr
  obtain ⟨xf, hf⟩ := h.rf
  obtain ⟨xw, hw⟩ := h.rw'
  have hne : some pg ≠ vf.ownBlock := fun e => by have := hf.lt pg e.symm; omega
  have d3' : vw.ownBlock = none ∨ vw.ownBlock ≠ vf.ownBlock := apart_symm h.d3
  have k1 := far_block hat (fun k e => (hr.lt k e).2) h.d1
  have k2 := far_block hat (fun k e => (hw.lt k e).2) d3'
  refine ⟨cell_set_ne (hgr.cell h.c0 hne) (by omega), cell_set_same (hgr.cell h.c1 hne), cell_set_ne (hgr.cell h.c2 hne) (by omega), cell_set_ne (hgr.cell h.c3 hne) (by omega), fun i => by
    simpa using (hgr.frozen_far ⟨pg, i, none⟩ h.lt hne).trans (h.fz i), ⟨_, ownsRow_setCell_below (hr.kept hgr h.d1) (Nat.lt_succ_self pg) _⟩, ⟨_, ownsRow_setCell_below hown (Nat.lt_succ_self pg) _⟩,
    ⟨_, ownsRow_setCell_below (hw.kept hgr d3') (Nat.lt_succ_self pg) _⟩, k1, h.d2, .inr ?_⟩
  intro e; rcases k2 with h | h
  · rw [h] at e; cases e
  · exact h e.symm

/-- the row of 'written' has grown -/
theorem PageInv.written {w w1 : World} {pg : Nat} {vr vf vw : Value} {nr nf nw : Nat} {sz : Int} (h : PageInv w pg vr vf vw nr nf nw sz) {g cap : Nat} {xs : List Value}
    (hown : w1.ownsRow (pg + 1) 27 1 (.slice (some ⟨g, 0, none⟩) (nw + 1) cap) (nw + 1) xs) (hgr : w.grownBy w1 vw.ownBlock) (hat : vw.ownBlock = some g ∨ g = w.heap.size) :
    PageInv (w1.setCell ⟨pg, 2, none⟩ (.slice (some ⟨g, 0, none⟩) (nw + 1) cap)) pg vr vf (.slice (some ⟨g, 0, none⟩) (nw + 1) cap) nr nf (nw + 1) sz := by
  obtain ⟨xr, hr⟩ := h.rr
  obtain ⟨xf, hf⟩ := h.rf
  obtain ⟨xw, hw⟩ := h.rw'
  have hne : some pg ≠ vw.ownBlock := fun e => by have := hw.lt pg e.symm; omega
  have k1 := far_block hat (fun k e => (hr.lt k e).2) h.d2
  have k2 := far_block hat (fun k e => (hf.lt k e).2) h.d3
  exact ⟨cell_set_ne (hgr.cell h.c0 hne) (by omega), cell_set_ne (hgr.cell h.c1 hne) (by omega), cell_set_same (hgr.cell h.c2 hne), cell_set_ne (hgr.cell h.c3 hne) (by omega), fun i => by
    simpa using (hgr.frozen_far ⟨pg, i, none⟩ h.lt hne).trans (h.fz i), ⟨_, ownsRow_setCell_below (hr.kept hgr h.d2) (Nat.lt_succ_self pg) _⟩, ⟨_, ownsRow_setCell_below (hf.kept hgr h.d3) (Nat.lt_succ_self pg) _⟩,
    ⟨_, ownsRow_setCell_below hown (Nat.lt_succ_self pg) _⟩, h.d1, k1, k2⟩

end Go.Proofs.Qxb6604214a
