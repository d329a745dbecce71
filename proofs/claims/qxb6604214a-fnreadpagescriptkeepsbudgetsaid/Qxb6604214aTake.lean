/-
  Seat b6604214a: readPage.take, way by way.
-/
import Derived.Test.Qxb6604214aInv
namespace Go.Proofs.Qxb6604214a
open Go.RowKit

theorem Try.info27 : (Try.prog.info? 27).map (fun i => (i.zero, i.size, i.bytes)) = some (some (.int .u64 0), 1, 8) := by kernel_rfl
theorem Try.info42b : (Try.prog.info? 42).map (fun i => (i.zero, i.size, i.bytes)) = some (some (.agg #[.int .i64 0, .int .u32 0, .bool false]), 3, 16) := by kernel_rfl

/-- behind a take: the row of 'filled' has grown by a -/
def TookF (w w' : World) (pg : Nat) (vr vf vw : Value) (nr nf nw : Nat) (a sz : Int) : Prop :=
  ∃ g cap, PageInv w' pg vr (.slice (some ⟨g, 0, none⟩) (nf + 1) cap) vw nr (nf + 1) nw sz ∧ w'.cell? ⟨g, nf, none⟩ = some (.int .u64 a) ∧ Far (PageSet pg vr vf vw) w w'
/-- .. the row of 'written' -/
def TookW (w w' : World) (pg : Nat) (vr vf vw : Value) (nr nf nw : Nat) (a sz : Int) : Prop :=
  ∃ g cap, PageInv w' pg vr vf (.slice (some ⟨g, 0, none⟩) (nw + 1) cap) nr nf (nw + 1) sz ∧ w'.cell? ⟨g, nw, none⟩ = some (.int .u64 a) ∧ Far (PageSet pg vr vf vw) w w'
/-- .. the row of 'run' -/
def TookR (w w' : World) (pg : Nat) (vr vf vw : Value) (nr nf nw : Nat) (at' ln : Int) (m : Bool) (sz : Int) : Prop :=
  ∃ g cap, PageInv w' pg (.slice (some ⟨g, 0, none⟩) (nr + 1) cap) vf vw (nr + 1) nf nw sz ∧
    (w'.cell? ⟨g, nr * 3, none⟩ = some (.int .i64 at') ∧ w'.cell? ⟨g, nr * 3 + 1, none⟩ = some (.int .u32 ln) ∧ w'.cell? ⟨g, nr * 3 + 2, none⟩ = some (.bool m)) ∧ Far (PageSet pg vr vf vw) w w'

theorem one_new (w : World) (x : Value) (t : TypeId) (H : Nat) (hH : w.heap.size = H) : ∀ j u, [x][j]? = some u → (w.alloc (.cells #[x] t)).cell? ((⟨H, 0, none⟩ : Addr).add j) = some u := by
  subst hH
  exact cell_one_new w x t

set_option maxHeartbeats 400000 in
theorem take_reject8 (pg : Nat) (a st sz : Int) (hv : Value) (w : World) (hst : Calls Try.prog 31 #[hv] w fun e w' => e = .returned (.int .u8 st) ∧ w' = w) (h3 : (st == 3) = false)
    (c3 : w.cell? ⟨pg, 3, none⟩ = some (.int .i64 sz)) (s0 : 0 < sz) (s1 : sz ≤ 4296015872) (hb : 1048576 < sz + 8) :
    Calls Try.prog 25 #[.pointer (some ⟨pg, 0, none⟩), .int .u64 a, hv] w fun e w' => e = .returned (.bool false) ∧ w' = w := by
  go_enter Try.func25, Try.ntmps25
  go_wp2_with (go_at_call 31; refine hst.mono ?_; rintro e w' ⟨rfl, rfl⟩)
  go_ret
  exact ⟨rfl, rfl⟩

set_option maxHeartbeats 400000 in
theorem take_rejectC (pg hb : Nat) (a at' wt ln fl sz : Int) (w : World) (hs : SlotAt w hb at' wt ln fl) (h4 : hasF fl 4 = false) (h1 : hasF fl 1 = true)
    (c3 : w.cell? ⟨pg, 3, none⟩ = some (.int .i64 sz)) (s0 : 0 < sz) (s1 : sz ≤ 4296015872) (l0 : 0 ≤ ln) (l1 : ln < 4294967296) (hbg : 1048576 < sz + ln) :
    Calls Try.prog 25 #[.pointer (some ⟨pg, 0, none⟩), .int .u64 a, .pointer (some ⟨hb, 0, none⟩)] w fun e w' => e = .returned (.bool false) ∧ w' = w := by
  have h2 := hs.s2
  go_enter Try.func25, Try.ntmps25
  go_wp2_with (go_at_call 31; refine (state_committed hb fl _ hs.s3 h4 h1).mono ?_; rintro e w' ⟨rfl, rfl⟩)
  go_ret
  exact ⟨rfl, rfl⟩

set_option maxHeartbeats 400000 in
theorem take_filled (pg : Nat) (a sz : Int) (hv vr vf vw : Value) (nr nf nw : Nat) (w : World) (hst : Calls Try.prog 31 #[hv] w fun e w' => e = .returned (.int .u8 1) ∧ w' = w)
    (h : PageInv w pg vr vf vw nr nf nw sz) (hn : nf ≤ 16384) (s0 : 0 ≤ sz) (s1 : sz ≤ 4296015872) (hb : sz = 0 ∨ sz + 8 ≤ 1048576) :
    Calls Try.prog 25 #[.pointer (some ⟨pg, 0, none⟩), .int .u64 a, hv] w fun e w' => e = .returned (.bool true) ∧ TookF w w' pg vr vf vw nr nf nw a (sz + 8) := by
  obtain ⟨i, hi, hz0, hz1, hz2⟩ := info_parts Try.info27
  obtain ⟨xf, hf⟩ := h.rf
  obtain ⟨af, cf, rfl⟩ := own_form hf
  have c1 := h.c1
  have c3 := h.c3
  have fz := h.fz
  have hI : PageInv ((w.setCell ⟨pg, 3, none⟩ (.int .i64 (sz + 8))).alloc (.cells #[.int .u64 a] 27)) pg vr (.slice af nf cf) vw nr nf nw (sz + 8) := (h.sized (sz + 8)).later ((Below.refl _ _).alloc (Nat.le_refl _) _)
  have hne : some pg ≠ (Value.slice af nf cf).ownBlock := fun e => by have := hf.lt pg e.symm; omega
  by_cases hp : 0 < sz
  · have hb' : sz + 8 ≤ 1048576 := by omega
    clear hb
    go_enter Try.func25, Try.ntmps25
    go_wp2_with (first
      | (go_at_call 31; refine hst.mono ?_; rintro e w' ⟨rfl, hw⟩; have hw2 := hw.symm; clear hw; subst hw2)
      | (at_builtin; go_must (refine wpList_append_lies _ rfl _ _ 36 rfl (pg + 1) 27 i (.int .u64 0) 1 8 Try.underlying36 hi hz0 hz1 hz2 rfl (by omega) _ nf xf (by rfl) ((ownsRow_setCell_below hf (Nat.lt_succ_self pg) _).alloc _) ⟨w.heap.size, 0, none⟩ 1 1 [.int .u64 a] (by rfl) rfl (one_new _ _ _ _ (by simp)) (by simp [Value.oneCell']) (by omega) (by unfold maxLen; omega) (by omega) (by have := h.lt; simp; omega) (w.heap.size + 1) (by simp) ?_); intro g cap w1 hown hgrow hat hlt; have k1 := hgrow.cell hI.c1 hne; have k2 := (hgrow.frozen_far ⟨pg, 1, none⟩ hI.lt hne).trans (hI.fz 1)))
    go_ret
    exact ⟨rfl, g, cap, hI.filled hown hgrow (by simpa using hat), by
      rw [World.cell?_setCell_other _ _ _ _ (by simp; have := hown.lt g rfl; omega)]
      exact own_cell hown (by have := hf.1; simp at this; simp [this]), (((((Far.refl _ w).setCell (.inl rfl) _).alloc _).grown hgrow (fun k e => .inr (.inr (.inl e)))).setCell (.inl rfl) _)⟩
  · clear hb
    go_enter Try.func25, Try.ntmps25
    go_wp2_with (first
      | (go_at_call 31; refine hst.mono ?_; rintro e w' ⟨rfl, hw⟩; have hw2 := hw.symm; clear hw; subst hw2)
      | (at_builtin; go_must (refine wpList_append_lies _ rfl _ _ 36 rfl (pg + 1) 27 i (.int .u64 0) 1 8 Try.underlying36 hi hz0 hz1 hz2 rfl (by omega) _ nf xf (by rfl) ((ownsRow_setCell_below hf (Nat.lt_succ_self pg) _).alloc _) ⟨w.heap.size, 0, none⟩ 1 1 [.int .u64 a] (by rfl) rfl (one_new _ _ _ _ (by simp)) (by simp [Value.oneCell']) (by omega) (by unfold maxLen; omega) (by omega) (by have := h.lt; simp; omega) (w.heap.size + 1) (by simp) ?_); intro g cap w1 hown hgrow hat hlt; have k1 := hgrow.cell hI.c1 hne; have k2 := (hgrow.frozen_far ⟨pg, 1, none⟩ hI.lt hne).trans (hI.fz 1)))
    go_ret
    exact ⟨rfl, g, cap, hI.filled hown hgrow (by simpa using hat), by
      rw [World.cell?_setCell_other _ _ _ _ (by simp; have := hown.lt g rfl; omega)]
      exact own_cell hown (by have := hf.1; simp at this; simp [this]), (((((Far.refl _ w).setCell (.inl rfl) _).alloc _).grown hgrow (fun k e => .inr (.inr (.inl e)))).setCell (.inl rfl) _)⟩

set_option maxHeartbeats 400000 in
theorem take_written (pg : Nat) (a sz st : Int) (hv vr vf vw : Value) (nr nf nw : Nat) (w : World) (hst : Calls Try.prog 31 #[hv] w fun e w' => e = .returned (.int .u8 st) ∧ w' = w) (t3 : (st == 3) = false) (t1 : (st == 1) = false)
    (h : PageInv w pg vr vf vw nr nf nw sz) (hn : nw ≤ 16384) (s0 : 0 ≤ sz) (s1 : sz ≤ 4296015872) (hb : sz = 0 ∨ sz + 8 ≤ 1048576) :
    Calls Try.prog 25 #[.pointer (some ⟨pg, 0, none⟩), .int .u64 a, hv] w fun e w' => e = .returned (.bool true) ∧ TookW w w' pg vr vf vw nr nf nw a (sz + 8) := by
  obtain ⟨i, hi, hz0, hz1, hz2⟩ := info_parts Try.info27
  obtain ⟨xf, hf⟩ := h.rw'
  obtain ⟨af, cf, rfl⟩ := own_form hf
  have c1 := h.c2
  have c3 := h.c3
  have fz := h.fz
  have hI : PageInv ((w.setCell ⟨pg, 3, none⟩ (.int .i64 (sz + 8))).alloc (.cells #[.int .u64 a] 27)) pg vr vf (.slice af nw cf) nr nf nw (sz + 8) := (h.sized (sz + 8)).later ((Below.refl _ _).alloc (Nat.le_refl _) _)
  have hne : some pg ≠ (Value.slice af nw cf).ownBlock := fun e => by have := hf.lt pg e.symm; omega
  by_cases hp : 0 < sz
  · have hb' : sz + 8 ≤ 1048576 := by omega
    clear hb
    go_enter Try.func25, Try.ntmps25
    go_wp2_with (first
      | (go_at_call 31; refine hst.mono ?_; rintro e w' ⟨rfl, hw⟩; have hw2 := hw.symm; clear hw; subst hw2)
      | (at_builtin; go_must (refine wpList_append_lies _ rfl _ _ 36 rfl (pg + 1) 27 i (.int .u64 0) 1 8 Try.underlying36 hi hz0 hz1 hz2 rfl (by omega) _ nw xf (by rfl) ((ownsRow_setCell_below hf (Nat.lt_succ_self pg) _).alloc _) ⟨w.heap.size, 0, none⟩ 1 1 [.int .u64 a] (by rfl) rfl (one_new _ _ _ _ (by simp)) (by simp [Value.oneCell']) (by omega) (by unfold maxLen; omega) (by omega) (by have := h.lt; simp; omega) (w.heap.size + 1) (by simp) ?_); intro g cap w1 hown hgrow hat hlt; have k1 := hgrow.cell hI.c2 hne; have k2 := (hgrow.frozen_far ⟨pg, 2, none⟩ hI.lt hne).trans (hI.fz 2)))
    go_ret
    exact ⟨rfl, g, cap, hI.written hown hgrow (by simpa using hat), by
      rw [World.cell?_setCell_other _ _ _ _ (by simp; have := hown.lt g rfl; omega)]
      exact own_cell hown (by have := hf.1; simp at this; simp [this]), (((((Far.refl _ w).setCell (.inl rfl) _).alloc _).grown hgrow (fun k e => .inr (.inr (.inr e)))).setCell (.inl rfl) _)⟩
  · clear hb
    go_enter Try.func25, Try.ntmps25
    go_wp2_with (first
      | (go_at_call 31; refine hst.mono ?_; rintro e w' ⟨rfl, hw⟩; have hw2 := hw.symm; clear hw; subst hw2)
      | (at_builtin; go_must (refine wpList_append_lies _ rfl _ _ 36 rfl (pg + 1) 27 i (.int .u64 0) 1 8 Try.underlying36 hi hz0 hz1 hz2 rfl (by omega) _ nw xf (by rfl) ((ownsRow_setCell_below hf (Nat.lt_succ_self pg) _).alloc _) ⟨w.heap.size, 0, none⟩ 1 1 [.int .u64 a] (by rfl) rfl (one_new _ _ _ _ (by simp)) (by simp [Value.oneCell']) (by omega) (by unfold maxLen; omega) (by omega) (by have := h.lt; simp; omega) (w.heap.size + 1) (by simp) ?_); intro g cap w1 hown hgrow hat hlt; have k1 := hgrow.cell hI.c2 hne; have k2 := (hgrow.frozen_far ⟨pg, 2, none⟩ hI.lt hne).trans (hI.fz 2)))
    go_ret
    exact ⟨rfl, g, cap, hI.written hown hgrow (by simpa using hat), by
      rw [World.cell?_setCell_other _ _ _ _ (by simp; have := hown.lt g rfl; omega)]
      exact own_cell hown (by have := hf.1; simp at this; simp [this]), (((((Far.refl _ w).setCell (.inl rfl) _).alloc _).grown hgrow (fun k e => .inr (.inr (.inr e)))).setCell (.inl rfl) _)⟩

end Go.Proofs.Qxb6604214a
