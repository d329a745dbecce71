/-
  Seat b6604214a: offers, and the page in the loop.
-/
import Derived.Test.Qxb6604214aTakeC
namespace Go.Proofs.Qxb6604214a
open Go.RowKit
open Go.Sort (grow)

/-- a row of offers: six cells each, from ⟨b, off⟩ on -/
structure Offers (w : World) (b off len : Nat) (A : Nat → Int) (N : Nat → Bool) (T V L F : Nat → Int) : Prop where
  c0 : ∀ k, k < len → w.cell? ⟨b, off + k * 6, none⟩ = some (.int .u64 (A k))
  c1 : ∀ k, k < len → w.cell? ⟨b, off + k * 6 + 1, none⟩ = some (.bool (N k))
  c2 : ∀ k, k < len → w.cell? ⟨b, off + k * 6 + 2, none⟩ = some (.int .i64 (T k))
  c3 : ∀ k, k < len → w.cell? ⟨b, off + k * 6 + 3, none⟩ = some (.int .u64 (V k))
  c4 : ∀ k, k < len → w.cell? ⟨b, off + k * 6 + 4, none⟩ = some (.int .u32 (L k))
  c5 : ∀ k, k < len → w.cell? ⟨b, off + k * 6 + 5, none⟩ = some (.int .u8 (F k))
  l0 : ∀ k, k < len → 0 ≤ L k ∧ L k < 4294967296
  f0 : ∀ k, k < len → 0 ≤ F k ∧ F k ≤ 255

theorem offer_cells {w w' : World} {b off len : Nat} {A : Nat → Int} {N : Nat → Bool} {T V L F : Nat → Int} (hr : Offers w b off len A N T V L F) (hb : Below w.heap.size w w') (k : Nat) (hk : k < len) :
    w'.cell? ⟨b, off + k * 6, none⟩ = some (.int .u64 (A k)) ∧ w'.cell? ⟨b, off + k * 6 + 1, none⟩ = some (.bool (N k)) ∧ w'.cell? ⟨b, off + k * 6 + 2, none⟩ = some (.int .i64 (T k)) ∧
    w'.cell? ⟨b, off + k * 6 + 3, none⟩ = some (.int .u64 (V k)) ∧ w'.cell? ⟨b, off + k * 6 + 4, none⟩ = some (.int .u32 (L k)) ∧ w'.cell? ⟨b, off + k * 6 + 5, none⟩ = some (.int .u8 (F k)) := by
  have hbw : b < w.heap.size := World.block_lt_of_cell? _ _ (hr.c0 k hk)
  exact ⟨(hb.cell (p := ⟨b, off + k * 6, none⟩) hbw).trans (hr.c0 k hk), (hb.cell (p := ⟨b, off + k * 6 + 1, none⟩) hbw).trans (hr.c1 k hk), (hb.cell (p := ⟨b, off + k * 6 + 2, none⟩) hbw).trans (hr.c2 k hk),
    (hb.cell (p := ⟨b, off + k * 6 + 3, none⟩) hbw).trans (hr.c3 k hk), (hb.cell (p := ⟨b, off + k * 6 + 4, none⟩) hbw).trans (hr.c4 k hk), (hb.cell (p := ⟨b, off + k * 6 + 5, none⟩) hbw).trans (hr.c5 k hk)⟩

/-- the loop's relation: the page, what has been counted, and what the law's own variables hold -/
def PageRel (w wr : World) (k : Nat) (sz : Int) (lz : Bool) (nr nf nw : Nat) : Prop :=
  ∃ vr vf vw, PageInv wr w.heap.size vr vf vw nr nf nw sz ∧ nr + nf + nw ≤ k ∧ 0 ≤ sz ∧ sz ≤ 4294967295 ∧ Hid (1048576 < sz → lz = true) ∧ Below w.heap.size w wr

theorem page_start (w : World) : PageRel w (w.alloc (.cells #[.slice none 0 0, .slice none 0 0, .slice none 0 0, .int .i64 0] 54)) 0 0 false 0 0 0 := by
  refine ⟨.slice none 0 0, .slice none 0 0, .slice none 0 0, ⟨by simp, by simp, by simp, by simp, fun i => by simp, ⟨[], World.ownsRow_nil _ _ _ _⟩, ⟨[], World.ownsRow_nil _ _ _ _⟩, ⟨[], World.ownsRow_nil _ _ _ _⟩, .inl rfl, .inl rfl, .inl rfl⟩, Nat.le_refl _, Int.le_refl _, by omega, fun h => absurd h (by omega), (Below.refl _ _).alloc (Nat.le_refl _) _⟩

/-- what the law goes on to read of the offer that it holds in a variable of its own -/
structure OfferAt (w : World) (ob : Nat) (a t l f : Int) : Prop where
  o0 : w.cell? ⟨ob, 0, none⟩ = some (.int .u64 a)
  o2 : w.cell? ⟨ob, 2, none⟩ = some (.int .i64 t)
  o4 : w.cell? ⟨ob, 4, none⟩ = some (.int .u32 l)
  o5 : w.cell? ⟨ob, 5, none⟩ = some (.int .u8 f)

theorem OfferAt.far {S : Nat → Prop} {w w' : World} {ob : Nat} {a t l f : Int} (h : OfferAt w ob a t l f) (hf : Far S w w') (hs : ¬ S ob) : OfferAt w' ob a t l f := by
  have hl : ob < w.heap.size := World.block_lt_of_cell? _ _ h.o0
  exact ⟨(hf.cell (a := ⟨ob, 0, none⟩) hl hs).trans h.o0, (hf.cell (a := ⟨ob, 2, none⟩) hl hs).trans h.o2, (hf.cell (a := ⟨ob, 4, none⟩) hl hs).trans h.o4, (hf.cell (a := ⟨ob, 5, none⟩) hl hs).trans h.o5⟩

theorem prep_nil {w wr : World} {pg : Nat} {vr vf vw : Value} {nr nf nw : Nat} {sz a t v l f : Int} (hP : PageInv wr pg vr vf vw nr nf nw sz) (hbe : Below w.heap.size w wr) :
    PageInv (wr.alloc (.cells #[.int .u64 a, .bool true, .int .i64 t, .int .u64 v, .int .u32 l, .int .u8 f] 30)) pg vr vf vw nr nf nw sz ∧
    OfferAt (wr.alloc (.cells #[.int .u64 a, .bool true, .int .i64 t, .int .u64 v, .int .u32 l, .int .u8 f] 30)) wr.heap.size a t l f ∧
    Below w.heap.size w (wr.alloc (.cells #[.int .u64 a, .bool true, .int .i64 t, .int .u64 v, .int .u32 l, .int .u8 f] 30)) :=
  ⟨hP.later ((Below.refl _ _).alloc (Nat.le_refl _) _), ⟨by simp, by simp, by simp, by simp⟩, hbe.alloc hbe.size _⟩

theorem prep_slot {w wr : World} {pg : Nat} {vr vf vw : Value} {nr nf nw : Nat} {sz a t v l f : Int} (hP : PageInv wr pg vr vf vw nr nf nw sz) (hbe : Below w.heap.size w wr) :
    PageInv ((wr.alloc (.cells #[.int .u64 a, .bool false, .int .i64 t, .int .u64 v, .int .u32 l, .int .u8 f] 30)).alloc (.cells #[.int .i64 t, .int .u64 v, .int .u32 l, .int .u8 f] 57)) pg vr vf vw nr nf nw sz ∧
    OfferAt ((wr.alloc (.cells #[.int .u64 a, .bool false, .int .i64 t, .int .u64 v, .int .u32 l, .int .u8 f] 30)).alloc (.cells #[.int .i64 t, .int .u64 v, .int .u32 l, .int .u8 f] 57)) wr.heap.size a t l f ∧
    SlotAt ((wr.alloc (.cells #[.int .u64 a, .bool false, .int .i64 t, .int .u64 v, .int .u32 l, .int .u8 f] 30)).alloc (.cells #[.int .i64 t, .int .u64 v, .int .u32 l, .int .u8 f] 57)) (wr.heap.size + 1) t v l f ∧
    Below w.heap.size w ((wr.alloc (.cells #[.int .u64 a, .bool false, .int .i64 t, .int .u64 v, .int .u32 l, .int .u8 f] 30)).alloc (.cells #[.int .i64 t, .int .u64 v, .int .u32 l, .int .u8 f] 57)) := by
  have h1 : Below wr.heap.size wr ((wr.alloc (.cells #[.int .u64 a, .bool false, .int .i64 t, .int .u64 v, .int .u32 l, .int .u8 f] 30)).alloc (.cells #[.int .i64 t, .int .u64 v, .int .u32 l, .int .u8 f] 57)) := ((Below.refl _ _).alloc (Nat.le_refl _) _).alloc (by simp) _
  exact ⟨hP.later h1, ⟨by simp, by simp, by simp, by simp⟩, ⟨by simp, by simp, by simp, by simp⟩, hbe.trans (h1.mono hbe.size)⟩

end Go.Proofs.Qxb6604214a
