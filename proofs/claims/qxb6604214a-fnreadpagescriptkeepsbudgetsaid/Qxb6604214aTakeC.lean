/-
  Seat b6604214a: readPage.take of a committed slot: its ref is appended to the run.
-/
import Derived.Test.Qxb6604214aTake
import Derived.Deep.RegionLaw
namespace Go.Proofs.Qxb6604214a
open Go.RowKit

theorem SlotAt.far {S : Nat → Prop} {w w' : World} {hb : Nat} {at' wt ln fl : Int} (h : SlotAt w hb at' wt ln fl) (hf : Far S w w') (hs : ¬ S hb) : SlotAt w' hb at' wt ln fl := by
  have hl : hb < w.heap.size := World.block_lt_of_cell? _ _ h.s0
  exact ⟨(hf.cell (a := ⟨hb, 0, none⟩) hl hs).trans h.s0, (hf.cell (a := ⟨hb, 1, none⟩) hl hs).trans h.s1, (hf.cell (a := ⟨hb, 2, none⟩) hl hs).trans h.s2, (hf.cell (a := ⟨hb, 3, none⟩) hl hs).trans h.s3⟩

theorem SlotAt.drew {w : World} {hb : Nat} {at' wt ln fl : Int} (h : SlotAt w hb at' wt ln fl) : SlotAt w.drew hb at' wt ln fl := ⟨h.s0, h.s1, h.s2, h.s3⟩

/-- a block of three cells, just laid -/
theorem three_new (w : World) (H : Nat) (x y z : Value) (t : TypeId) (hH : w.heap[H]? = some (.cells #[x, y, z] t (0, 0))) : ∀ j u, [x, y, z][j]? = some u → w.cell? ((⟨H, 0, none⟩ : Addr).add j) = some u :=
  World.news_of_block hH

theorem two_new (w : World) (o1 o2 : Obj) : ((w.alloc o1).alloc o2).heap[w.heap.size + 1]? = some o2 := by
  have := Deep.blk_alloc_new (w.alloc o1) o2
  simpa using this

/-- behind the append to the run, its new value stored into the page -/
theorem took_r {w W w1 : World} {pg : Nat} {vr vf vw : Value} {nr nf nw : Nat} {at' ln sz : Int} {m : Bool} {g cap : Nat} {xr : List Value} (hJ : PageInv W pg vr vf vw nr nf nw sz) (hx : xr.length = nr * 3) (hF : Far (PageSet pg vr vf vw) w W)
    (hown : w1.ownsRow (pg + 1) 42 3 (.slice (some ⟨g, 0, none⟩) (nr + 1) cap) (nr + 1) (xr ++ [.int .i64 at', .int .u32 ln, .bool m])) (hgrow : W.grownBy w1 vr.ownBlock) (hat : vr.ownBlock = some g ∨ g = W.heap.size) :
    TookR w (w1.setCell ⟨pg, 0, none⟩ (.slice (some ⟨g, 0, none⟩) (nr + 1) cap)) pg vr vf vw nr nf nw at' ln m sz := by
  have hg := hown.lt g rfl
  have hc : ∀ i u, (xr ++ [.int .i64 at', .int .u32 ln, .bool m])[i]? = some u → (w1.setCell ⟨pg, 0, none⟩ (.slice (some ⟨g, 0, none⟩) (nr + 1) cap)).cell? ⟨g, i, none⟩ = some u := fun i u hu => by
    rw [World.cell?_setCell_other w1 ⟨pg, 0, none⟩ ⟨g, i, none⟩ _ (by intro e; cases e; omega)]
    exact own_cell hown hu
  refine ⟨g, cap, hJ.run hown hgrow hat, ⟨hc _ _ ?_, hc _ _ ?_, hc _ _ ?_⟩, (hF.grown hgrow (fun k e => .inr (.inl e))).setCell (.inl rfl) _⟩
  · rw [List.getElem?_append_right (by omega), show nr * 3 - xr.length = 0 by omega]; rfl
  · rw [List.getElem?_append_right (by omega), show nr * 3 + 1 - xr.length = 1 by omega]; rfl
  · rw [List.getElem?_append_right (by omega), show nr * 3 + 2 - xr.length = 2 by omega]; rfl

set_option maxHeartbeats 1000000 in
theorem take_committed (pg hb : Nat) (a at' wt ln fl sz : Int) (vr vf vw : Value) (nr nf nw : Nat) (w : World) (hs : SlotAt w hb at' wt ln fl) (h4 : hasF fl 4 = false) (h1 : hasF fl 1 = true) (hne : hb ≠ pg)
    (h : PageInv w pg vr vf vw nr nf nw sz) (hn : nr ≤ 16384) (s0 : 0 ≤ sz) (s1 : sz ≤ 4296015872) (l0 : 0 ≤ ln) (l1 : ln < 4294967296) (hbg : sz = 0 ∨ sz + ln ≤ 1048576) :
    Calls Try.prog 25 #[.pointer (some ⟨pg, 0, none⟩), .int .u64 a, .pointer (some ⟨hb, 0, none⟩)] w fun e w' => e = .returned (.bool true) ∧ TookR w w' pg vr vf vw nr nf nw at' ln (hasF fl 16) (sz + ln) := by
  obtain ⟨i, hi, hz0, hz1, hz2⟩ := info_parts Try.info42b
  have hI := h.sized (sz + ln)
  have hsI : SlotAt (w.setCell ⟨pg, 3, none⟩ (.int .i64 (sz + ln))) hb at' wt ln fl := hs.far ((Far.refl (fun k => k = pg) w).setCell rfl _) hne
  have h2 := hs.s2
  have c3 := h.c3
  have fz := h.fz
  have hF : Far (PageSet pg vr vf vw) w (w.setCell ⟨pg, 3, none⟩ (.int .i64 (sz + ln))) := (Far.refl _ w).setCell (.inl rfl) _
  by_cases hp : 0 < sz
  · have hb' : sz + ln ≤ 1048576 := by omega
    clear hbg
    go_enter Try.func25, Try.ntmps25
    go_wp2_with (go_at_call 31; refine (state_committed hb fl _ hs.s3 h4 h1).mono ?_; rintro e w' ⟨rfl, hw⟩; have hw2 := hw.symm; clear hw; subst hw2)
    generalize w.setCell ⟨pg, 3, none⟩ (.int .i64 (sz + ln)) = W at hI hsI hF ⊢
    obtain ⟨xr, hr⟩ := hI.rr
    obtain ⟨ar, cr, rfl⟩ := own_form hr
    have d0 := hI.c0
    have dz := hI.fz
    have hJ : PageInv ((W.alloc (.cells #[.int .i64 at', .int .u32 ln, .bool (hasF fl 16)] 42)).alloc (.cells #[.int .i64 at', .int .u32 ln, .bool (hasF fl 16)] 42)).drew.drew pg (.slice ar nr cr) vf vw nr nf nw (sz + ln) :=
      hI.later ((((Below.refl _ _).alloc (Nat.le_refl _) _).alloc (by simp) _).drew).drew
    have hne2 : some pg ≠ (Value.slice ar nr cr).ownBlock := fun e => by have := hr.lt pg e.symm; omega
    have e1 : (W.alloc (.cells #[.int .i64 at', .int .u32 ln, .bool (hasF fl 16)] 42)).cell? ⟨pg, 0, none⟩ = some (.slice ar nr cr) := (hI.later ((Below.refl _ _).alloc (Nat.le_refl _) _)).c0
    have e2 : ((W.alloc (.cells #[.int .i64 at', .int .u32 ln, .bool (hasF fl 16)] 42)).alloc (.cells #[.int .i64 at', .int .u32 ln, .bool (hasF fl 16)] 42)).cell? ⟨pg, 0, none⟩ = some (.slice ar nr cr) := hJ.c0
    go_region_law (first
      | (refine step_append_lies _ (by rfl) _ _ 38 (by rfl) (pg + 1) 42 i (.agg #[.int .i64 0, .int .u32 0, .bool false]) 3 16 Try.underlying38 hi hz0 hz1 hz2 rfl (by omega) _ nr xr (by rfl) ((hr.alloc _).alloc _) ⟨W.heap.size + 1, 0, none⟩ 1 1 [.int .i64 at', .int .u32 ln, .bool (hasF fl 16)] (by rfl) rfl (three_new _ _ _ _ _ 42 (two_new W _ _)) (by simp [Value.oneCell']) (by omega) (by unfold maxLen; omega) (by omega) (by have := hI.lt; simp; omega) (W.heap.size + 2) (by simp) ?_; intro g cap w1 hown hgrow hat hlt; have k1 := hgrow.cell hJ.c0 hne2; have k2 := (hgrow.frozen_far ⟨pg, 0, none⟩ hJ.lt hne2).trans (hJ.fz 0))
      | (go_simp; go_at_call 32; refine (ref_any hb at' wt ln fl _ hsI.drew).mono ?_; rintro e w' ⟨rfl, rfl⟩))
    all_goals go_wp2
    all_goals go_ret
    all_goals exact ⟨rfl, took_r hJ hr.1 ((((hF.alloc _).alloc _).drew).drew) hown hgrow (by simpa using hat)⟩
  · clear hbg
    go_enter Try.func25, Try.ntmps25
    go_wp2_with (go_at_call 31; refine (state_committed hb fl _ hs.s3 h4 h1).mono ?_; rintro e w' ⟨rfl, hw⟩; have hw2 := hw.symm; clear hw; subst hw2)
    generalize w.setCell ⟨pg, 3, none⟩ (.int .i64 (sz + ln)) = W at hI hsI hF ⊢
    obtain ⟨xr, hr⟩ := hI.rr
    obtain ⟨ar, cr, rfl⟩ := own_form hr
    have d0 := hI.c0
    have dz := hI.fz
    have hJ : PageInv ((W.alloc (.cells #[.int .i64 at', .int .u32 ln, .bool (hasF fl 16)] 42)).alloc (.cells #[.int .i64 at', .int .u32 ln, .bool (hasF fl 16)] 42)).drew.drew pg (.slice ar nr cr) vf vw nr nf nw (sz + ln) :=
      hI.later ((((Below.refl _ _).alloc (Nat.le_refl _) _).alloc (by simp) _).drew).drew
    have hne2 : some pg ≠ (Value.slice ar nr cr).ownBlock := fun e => by have := hr.lt pg e.symm; omega
    have e1 : (W.alloc (.cells #[.int .i64 at', .int .u32 ln, .bool (hasF fl 16)] 42)).cell? ⟨pg, 0, none⟩ = some (.slice ar nr cr) := (hI.later ((Below.refl _ _).alloc (Nat.le_refl _) _)).c0
    have e2 : ((W.alloc (.cells #[.int .i64 at', .int .u32 ln, .bool (hasF fl 16)] 42)).alloc (.cells #[.int .i64 at', .int .u32 ln, .bool (hasF fl 16)] 42)).cell? ⟨pg, 0, none⟩ = some (.slice ar nr cr) := hJ.c0
    go_region_law (first
      | (refine step_append_lies _ (by rfl) _ _ 38 (by rfl) (pg + 1) 42 i (.agg #[.int .i64 0, .int .u32 0, .bool false]) 3 16 Try.underlying38 hi hz0 hz1 hz2 rfl (by omega) _ nr xr (by rfl) ((hr.alloc _).alloc _) ⟨W.heap.size + 1, 0, none⟩ 1 1 [.int .i64 at', .int .u32 ln, .bool (hasF fl 16)] (by rfl) rfl (three_new _ _ _ _ _ 42 (two_new W _ _)) (by simp [Value.oneCell']) (by omega) (by unfold maxLen; omega) (by omega) (by have := hI.lt; simp; omega) (W.heap.size + 2) (by simp) ?_; intro g cap w1 hown hgrow hat hlt; have k1 := hgrow.cell hJ.c0 hne2; have k2 := (hgrow.frozen_far ⟨pg, 0, none⟩ hJ.lt hne2).trans (hJ.fz 0))
      | (go_simp; go_at_call 32; refine (ref_any hb at' wt ln fl _ hsI.drew).mono ?_; rintro e w' ⟨rfl, rfl⟩))
    all_goals go_wp2
    all_goals go_ret
    all_goals exact ⟨rfl, took_r hJ hr.1 ((((hF.alloc _).alloc _).drew).drew) hown hgrow (by simpa using hat)⟩

end Go.Proofs.Qxb6604214a
