/-
  Seat b6604214a: the walk of FnOneReadSoundAndStopsOnlyWhereItMust.
-/
import Derived.Test.Qxb6604214aReadLaw
import Derived.Test.Qxb6604214aOpen
namespace Go.Proofs.Qxb6604214a
open Go.RowKit
open Go.Sort (grow)

theorem refs_of_row2 {w : World} {g len : Nat} {A L : Nat → Int} {M : Nat → Bool} (h : w.rowIs g 42 (len * 3) (refCell A L M)) (hl : ∀ k, k < len → 0 ≤ L k ∧ L k < 4294967296) : Refs w g 0 len A L M := by
  refine ⟨fun k hk => ?_, fun k hk => ?_, fun k hk => ?_, hl⟩
  · rw [Nat.zero_add, h.cell (by omega)]; unfold refCell; rw [if_pos (by omega), show k * 3 / 3 = k by omega]
  · rw [Nat.zero_add, h.cell (by omega)]; unfold refCell; rw [if_neg (by omega), if_pos (by omega), show (k * 3 + 1) / 3 = k by omega]
  · rw [Nat.zero_add, h.cell (by omega)]; unfold refCell; rw [if_neg (by omega), if_neg (by omega), show (k * 3 + 2) / 3 = k by omega]

/-- oneRead's answer, its count written as p + 1 -/
theorem oneRead_succ (g len : Nat) (A L : Nat → Int) (M : Nat → Bool) (w : World) (hr : Refs w g 0 len A L M) (hin : InRange len A) (hl : len ≤ 65536) (h1 : 1 ≤ len) :
    Calls Try.prog 29 #[.slice (some ⟨g, 0, none⟩) len len] w fun e w' => ∃ p : Nat, e = .returned (.tuple #[.int .i64 ((p : Int) + 1), .int .i64 (A p + 9 + L p)]) ∧ Hid (isRead len A L M (p + 1)) ∧ Below w.heap.size w w' := by
  refine (oneRead_any g len A L M w hr hin hl h1).mono ?_
  rintro e w' ⟨n, en, rfl, hread, hen, hb⟩
  obtain ⟨p, rfl⟩ : ∃ p, n = p + 1 := ⟨n - 1, by have := hread.1; omega⟩
  exact ⟨p, by rw [hen]; rfl, hread, hb⟩

theorem ref_cells {b off len : Nat} {A L : Nat → Int} {M : Nat → Bool} {w w' : World} (hr : Refs w b off len A L M) (hb : Below w.heap.size w w') (k : Nat) (hk : k < len) :
    w'.cell? ⟨b, off + k * 3, none⟩ = some (.int .i64 (A k)) ∧ w'.cell? ⟨b, off + k * 3 + 1, none⟩ = some (.int .u32 (L k)) ∧ w'.cell? ⟨b, off + k * 3 + 2, none⟩ = some (.bool (M k)) := by
  have hbw : b < w.heap.size := World.block_lt_of_cell? _ _ (hr.c0 k hk)
  exact ⟨(hb.cell (p := ⟨b, off + k * 3, none⟩) hbw).trans (hr.c0 k hk), (hb.cell (p := ⟨b, off + k * 3 + 1, none⟩) hbw).trans (hr.c1 k hk), (hb.cell (p := ⟨b, off + k * 3 + 2, none⟩) hbw).trans (hr.c2 k hk)⟩

theorem ref_cells0 {b off len : Nat} {A L : Nat → Int} {M : Nat → Bool} {w w' : World} (hr : Refs w b off len A L M) (hb : Below w.heap.size w w') (hk : 0 < len) :
    w'.cell? ⟨b, off, none⟩ = some (.int .i64 (A 0)) ∧ w'.cell? ⟨b, off + 1, none⟩ = some (.int .u32 (L 0)) ∧ w'.cell? ⟨b, off + 2, none⟩ = some (.bool (M 0)) := by
  simpa using ref_cells hr hb 0 hk

/-- a block's three cells, in a world that lies over it -/
theorem three_cells {w w' : World} {f : Nat} {v0 v1 v2 : Value} (hb : Below w.heap.size w w') (h0 : w.cell? ⟨f, 0, none⟩ = some v0) (h1 : w.cell? ⟨f, 1, none⟩ = some v1) (h2 : w.cell? ⟨f, 2, none⟩ = some v2) :
    w'.cell? ⟨f, 0, none⟩ = some v0 ∧ w'.cell? ⟨f, 1, none⟩ = some v1 ∧ w'.cell? ⟨f, 2, none⟩ = some v2 :=
  ⟨cell_later hb h0, cell_later hb h1, cell_later hb h2⟩

set_option maxHeartbeats 800000 in
theorem sound_go (b off len cap : Nat) (A L : Nat → Int) (M : Nat → Bool) (w : World) (hr : Refs w b off len A L M) (hl : len ≤ 65536) (h1 : 1 ≤ len) :
    Calls Try.prog 5 #[.slice (some ⟨b, off, none⟩) len cap] w fun e w' => e = .returned (.bool true) ∧ Below w.heap.size w w' := by
  have hn0 : ((len : Int) == 0) = false := by simp; omega
  have hp0 : (0 : Int) < (len : Int) := by omega
  have hbw : b < w.heap.size := World.block_lt_of_cell? _ _ (hr.c0 0 (by omega))
  go_enter Try.func5, Try.ntmps5
  go_wp2_with (first
    | (go_at_call 19; refine (inRange_any b off len cap A L M _ hr hl).mono ?_; rintro e w' (⟨rfl, hw⟩ | ⟨rfl, hin, hw⟩) <;> (have hw2 := hw.symm; clear hw; subst hw2))
    | (go_at_call 21; refine (refs_any b off len cap A L M _ hr hl h1).mono ?_; rintro e w1 ⟨g, rfl, hrow, hb1⟩)
    | (go_at_call 29; refine (oneRead_succ g len A L M _ (refs_of_row2 hrow hr.l0) hin hl h1).mono ?_; rintro e w2 ⟨p, rfl, hread, hb2⟩; have hbe : Below w.heap.size w w2 := hb1.trans (hb2.mono hb1.size); have hp1 : (p : Int) + 1 ≤ (len : Int) := (by have := hread.out.2.1; omega); obtain ⟨x0, x1, x2⟩ := ref_cells0 hr hbe h1; obtain ⟨x3, x4, x5⟩ := ref_cells hr hbe p (by omega); have hbw2 : b < w2.heap.size := Nat.lt_of_lt_of_le hbw hbe.size; clear hb1 hb2 hrow)
    | (go_at_call 24; go_in) | (go_at_call 7; go_in) | (go_at_call 20; go_in))
  · go_ret
    exact ⟨rfl, Below.refl _ _⟩
  · have a0 := hin 0 (by omega)
    have l0 := hr.l0 0 (by omega)
    have ap := hin p (by omega)
    have lp := hr.l0 p (by omega)
    have hmono : A 0 + 9 + L 0 ≤ A p + 9 + L p := by
      have := recE_mono (len := len) (c := p + 1) (M := M) (fun k hk => (hr.l0 k hk).1) (by omega) (fun j a b => (hread.out.2.2.1 j a b).1) 0 p (by omega)
      simpa [recE] using this
    refine (recEnd_any _ _ _ _ ap.1 ap.2 lp.1 lp.2).mono ?_
    rintro e w3 ⟨rfl, hb3⟩
    have y0 : w3.cell? ⟨w2.heap.size, 0, none⟩ = some (.int .i64 (A 0)) := (hb3.cell (p := ⟨w2.heap.size, 0, none⟩) (by simp)).trans (by simp)
    have y1 : w3.cell? ⟨w2.heap.size, 1, none⟩ = some (.int .u32 (L 0)) := (hb3.cell (p := ⟨w2.heap.size, 1, none⟩) (by simp)).trans (by simp)
    have y2 : w3.cell? ⟨w2.heap.size, 2, none⟩ = some (.bool (M 0)) := (hb3.cell (p := ⟨w2.heap.size, 2, none⟩) (by simp)).trans (by simp)
    have hbe3 : Below w.heap.size w w3 := (hbe.alloc hbe.size _).trans (hb3.mono (by have := hbe.size; simp; omega))
    clear hb3 hbe x0 x1 x2 x3 x4 x5
    go_wp2_with (fail)
    refine (recEnd_any _ _ _ _ a0.1 a0.2 l0.1 l0.2).mono ?_
    rintro e w4 ⟨rfl, hb4⟩
    have u0 := cell_later hb4 y0
    have hbe4 : Below w.heap.size w w4 := hbe3.trans (hb4.mono hbe3.size)
    clear hb4 hbe3 y0 y1 y2
    by_cases hpz : p = 0
    · have hpz' : ¬ (1 : Int) < (p : Int) + 1 := by omega
      have hpz0 : Hid (p = 0) := hpz
      clear hpz
      go_wp2_with (fail)
      go_loopw [6] (fun i wr => ∃ m : Nat, m ≤ p ∧ i = .int .i64 ((m : Int) + 1) ∧ wr.cell? ⟨w2.heap.size, 0, none⟩ = some (.int .i64 (A 0)) ∧ Below w.heap.size w wr) (fun i _ => p + 1 - (intOf i).toNat)
      case atStart => exact ⟨0, Nat.zero_le _, rfl, u0, hbe4⟩
      case round =>
        clear u0 hbe4
        obtain ⟨m, hm, rfl, u0, hbe⟩ := hrel
        by_cases hlt : m < p
        · obtain ⟨d0, d1, d2⟩ := ref_cells hr hbe m (by omega)
          obtain ⟨f0, f1, f2⟩ := ref_cells hr hbe (m + 1) (by omega)
          have d0 := cell_regrown d0
          have d1 := cell_regrown d1
          have d2 := cell_regrown d2
          have f0 := cell_regrown f0
          have f1 := cell_regrown f1
          have f2 := cell_regrown f2
          have i1 : (0 : Int) ≤ (m : Int) := by omega
          have i2 : (m : Int) + 1 < (len : Int) := by omega
          have i3 : (m : Int) + 1 < (p : Int) + 1 := by omega
          have am := hin m (by omega)
          have lm := hr.l0 m (by omega)
          have am1 := hin (m + 1) (by omega)
          have hf : follB (A m + 9 + L m) (A (m + 1)) (M (m + 1)) = true := (hread.out.2.2.1 (m + 1) (by omega) (by omega)).1
          have cE : ∀ d os, Calls Try.prog 22 #[.agg #[.int .i64 (A m), .int .u32 (L m), .bool (M m)], .agg #[.int .i64 (A (m + 1)), .int .u32 (L (m + 1)), .bool (M (m + 1))]] (grow (redrawn wr d) os) fun e w'' => e = .returned (.bool true) ∧ ∃ p : Regrown, w'' = grow (redrawn wr p.d) p.os := by
            intro d os
            rw [← hf]
            exact Calls.regrown_of (follows_any _ _ _ _ _ _ _ am.1 am.2 lm.1 lm.2 am1.1 am1.2)
          clear hf
          go_wp2_with (fail)
          refine wp_region_quiet_below (by kernel_rfl) (by kernel_rfl) ?_
          repeat (first | go_big_quiet_step (exact cE _ _) | quiet_step (exact cE _ _))
          refine wpQuiet_nil ?_
          intro _ hw'
          obtain ⟨⟨dq, osq⟩, hw''⟩ := hw'
          subst hw''
          have hbq := below_regrown wr dq osq
          clear d0 d1 d2 f0 f1 f2 cE
          generalize grow (redrawn wr dq) osq = W3 at hbq ⊢
          have v0 := cell_later hbq u0
          have hb3 : Below w.heap.size w W3 := hbe.trans (hbq.mono hbe.size)
          clear hbe hbq u0
          go_wp2
          go_roundw
          case rel => exact ⟨m + 1, by omega, by go_num, v0, hb3⟩
          case measure => simp [intOf]; omega
        · have hmp : m = p := by omega
          subst hmp
          by_cases hlast : m + 1 < len
          · have i1 : (0 : Int) ≤ (m : Int) := by omega
            have i2 : (m : Int) + 1 < (len : Int) := by omega
            have am1 := hin (m + 1) hlast
            have lm1 := hr.l0 (m + 1) hlast
            obtain ⟨f0, f1, f2⟩ := ref_cells hr hbe (m + 1) hlast
            have e0 : (wr.alloc (.cells #[.int .i64 (A (m + 1)), .int .u32 (L (m + 1)), .bool (M (m + 1))] 51)).cell? ⟨wr.heap.size, 0, none⟩ = some (.int .i64 (A (m + 1))) := by simp
            have e1 : (wr.alloc (.cells #[.int .i64 (A (m + 1)), .int .u32 (L (m + 1)), .bool (M (m + 1))] 51)).cell? ⟨wr.heap.size, 1, none⟩ = some (.int .u32 (L (m + 1))) := by simp
            have e2 : (wr.alloc (.cells #[.int .i64 (A (m + 1)), .int .u32 (L (m + 1)), .bool (M (m + 1))] 51)).cell? ⟨wr.heap.size, 2, none⟩ = some (.bool (M (m + 1))) := by simp
            have hb2 : Below wr.heap.size wr (wr.alloc (.cells #[.int .i64 (A (m + 1)), .int .u32 (L (m + 1)), .bool (M (m + 1))] 51)) := (Below.refl _ _).alloc (Nat.le_refl _) _
            go_wp2_with (fail)
            generalize wr.alloc (.cells #[.int .i64 (A (m + 1)), .int .u32 (L (m + 1)), .bool (M (m + 1))] 51) = W at e0 e1 e2 hb2 ⊢
            have hbW : Below w.heap.size w W := hbe.trans (hb2.mono hbe.size)
            obtain ⟨d0, d1, d2⟩ := ref_cells hr hbW m (by omega)
            have v0 := cell_later hb2 u0
            have d0 := cell_regrown d0
            have d1 := cell_regrown d1
            have d2 := cell_regrown d2
            have e0 := cell_regrown e0
            have e1 := cell_regrown e1
            have e2 := cell_regrown e2
            have v0 := cell_regrown v0
            have cF : ∀ d os, Calls Try.prog 22 #[.agg #[.int .i64 (A m), .int .u32 (L m), .bool (M m)], .agg #[.int .i64 (A (m + 1)), .int .u32 (L (m + 1)), .bool (M (m + 1))]] (grow (redrawn W d) os) fun e w'' => e = .returned (.bool (follB (A m + 9 + L m) (A (m + 1)) (M (m + 1)))) ∧ ∃ p : Regrown, w'' = grow (redrawn W p.d) p.os :=
              fun d os => Calls.regrown_of (follows_any _ _ _ _ _ _ _ ap.1 ap.2 lp.1 lp.2 am1.1 am1.2)
            have cE : ∀ d os, Calls Try.prog 23 #[.agg #[.int .i64 (A (m + 1)), .int .u32 (L (m + 1)), .bool (M (m + 1))]] (grow (redrawn W d) os) fun e w'' => e = .returned (.int .i64 (A (m + 1) + 9 + L (m + 1))) ∧ ∃ p : Regrown, w'' = grow (redrawn W p.d) p.os :=
              fun d os => Calls.regrown_of (recEnd_any _ _ _ _ am1.1 am1.2 lm1.1 lm1.2)
            clear f0 f1 f2 u0 hb2 hbe
            cases hf : follB (A m + 9 + L m) (A (m + 1)) (M (m + 1))
            · rw [hf] at cF
              refine wp_region_quiet_below (by kernel_rfl) (by kernel_rfl) ?_
              repeat (first | go_big_quiet_step (first | exact cF _ _ | exact cE _ _) | quiet_step (first | exact cF _ _ | exact cE _ _))
              refine wpQuiet_nil ?_
              intro _ hw'
              obtain ⟨⟨dq, osq⟩, hw''⟩ := hw'
              subst hw''
              have hbq := below_regrown W dq osq
              clear d0 d1 d2 e0 e1 e2 v0 cF cE
              generalize grow (redrawn W dq) osq = W3 at hbq ⊢
              go_wp2
              go_ret
              exact ⟨rfl, hbW.trans (hbq.mono hbW.size)⟩
            · have hsp2 : 1048576 < A (m + 1) + 9 + L (m + 1) - A 0 := by
                rcases Int.lt_or_le 1048576 (A (m + 1) + 9 + L (m + 1) - A 0) with h | h
                · exact h
                · exact absurd ⟨hf, h⟩ (hread.out.2.2.2 hlast)
              rw [hf] at cF
              refine wp_region_quiet_below (by kernel_rfl) (by kernel_rfl) ?_
              repeat (first | go_big_quiet_step (first | exact cF _ _ | exact cE _ _) | quiet_step (first | exact cF _ _ | exact cE _ _))
              refine wpQuiet_nil ?_
              intro _ hw'
              obtain ⟨⟨dq, osq⟩, hw''⟩ := hw'
              subst hw''
              have hbq := below_regrown W dq osq
              clear d0 d1 d2 e0 e1 e2 v0 cF cE
              generalize grow (redrawn W dq) osq = W3 at hbq ⊢
              go_wp2
              go_ret
              exact ⟨rfl, hbW.trans (hbq.mono hbW.size)⟩
          · go_wp2
            go_ret
            exact ⟨rfl, hbe⟩
    · have hsp : A p + 9 + L p - A 0 ≤ 1048576 := (hread.out.2.2.1 p (by omega) (by omega)).2
      have hpz' : (1 : Int) < (p : Int) + 1 := by omega
      clear hpz
      go_wp2_with (fail)
      go_loopw [6] (fun i wr => ∃ m : Nat, m ≤ p ∧ i = .int .i64 ((m : Int) + 1) ∧ wr.cell? ⟨w2.heap.size, 0, none⟩ = some (.int .i64 (A 0)) ∧ Below w.heap.size w wr) (fun i _ => p + 1 - (intOf i).toNat)
      case atStart => exact ⟨0, Nat.zero_le _, rfl, u0, hbe4⟩
      case round =>
        clear u0 hbe4
        obtain ⟨m, hm, rfl, u0, hbe⟩ := hrel
        by_cases hlt : m < p
        · obtain ⟨d0, d1, d2⟩ := ref_cells hr hbe m (by omega)
          obtain ⟨f0, f1, f2⟩ := ref_cells hr hbe (m + 1) (by omega)
          have d0 := cell_regrown d0
          have d1 := cell_regrown d1
          have d2 := cell_regrown d2
          have f0 := cell_regrown f0
          have f1 := cell_regrown f1
          have f2 := cell_regrown f2
          have i1 : (0 : Int) ≤ (m : Int) := by omega
          have i2 : (m : Int) + 1 < (len : Int) := by omega
          have i3 : (m : Int) + 1 < (p : Int) + 1 := by omega
          have am := hin m (by omega)
          have lm := hr.l0 m (by omega)
          have am1 := hin (m + 1) (by omega)
          have hf : follB (A m + 9 + L m) (A (m + 1)) (M (m + 1)) = true := (hread.out.2.2.1 (m + 1) (by omega) (by omega)).1
          have cE : ∀ d os, Calls Try.prog 22 #[.agg #[.int .i64 (A m), .int .u32 (L m), .bool (M m)], .agg #[.int .i64 (A (m + 1)), .int .u32 (L (m + 1)), .bool (M (m + 1))]] (grow (redrawn wr d) os) fun e w'' => e = .returned (.bool true) ∧ ∃ p : Regrown, w'' = grow (redrawn wr p.d) p.os := by
            intro d os
            rw [← hf]
            exact Calls.regrown_of (follows_any _ _ _ _ _ _ _ am.1 am.2 lm.1 lm.2 am1.1 am1.2)
          clear hf
          go_wp2_with (fail)
          refine wp_region_quiet_below (by kernel_rfl) (by kernel_rfl) ?_
          repeat (first | go_big_quiet_step (exact cE _ _) | quiet_step (exact cE _ _))
          refine wpQuiet_nil ?_
          intro _ hw'
          obtain ⟨⟨dq, osq⟩, hw''⟩ := hw'
          subst hw''
          have hbq := below_regrown wr dq osq
          clear d0 d1 d2 f0 f1 f2 cE
          generalize grow (redrawn wr dq) osq = W3 at hbq ⊢
          have v0 := cell_later hbq u0
          have hb3 : Below w.heap.size w W3 := hbe.trans (hbq.mono hbe.size)
          clear hbe hbq u0
          go_wp2
          go_roundw
          case rel => exact ⟨m + 1, by omega, by go_num, v0, hb3⟩
          case measure => simp [intOf]; omega
        · have hmp : m = p := by omega
          subst hmp
          by_cases hlast : m + 1 < len
          · have i1 : (0 : Int) ≤ (m : Int) := by omega
            have i2 : (m : Int) + 1 < (len : Int) := by omega
            have am1 := hin (m + 1) hlast
            have lm1 := hr.l0 (m + 1) hlast
            obtain ⟨f0, f1, f2⟩ := ref_cells hr hbe (m + 1) hlast
            have e0 : (wr.alloc (.cells #[.int .i64 (A (m + 1)), .int .u32 (L (m + 1)), .bool (M (m + 1))] 51)).cell? ⟨wr.heap.size, 0, none⟩ = some (.int .i64 (A (m + 1))) := by simp
            have e1 : (wr.alloc (.cells #[.int .i64 (A (m + 1)), .int .u32 (L (m + 1)), .bool (M (m + 1))] 51)).cell? ⟨wr.heap.size, 1, none⟩ = some (.int .u32 (L (m + 1))) := by simp
            have e2 : (wr.alloc (.cells #[.int .i64 (A (m + 1)), .int .u32 (L (m + 1)), .bool (M (m + 1))] 51)).cell? ⟨wr.heap.size, 2, none⟩ = some (.bool (M (m + 1))) := by simp
            have hb2 : Below wr.heap.size wr (wr.alloc (.cells #[.int .i64 (A (m + 1)), .int .u32 (L (m + 1)), .bool (M (m + 1))] 51)) := (Below.refl _ _).alloc (Nat.le_refl _) _
            go_wp2_with (fail)
            generalize wr.alloc (.cells #[.int .i64 (A (m + 1)), .int .u32 (L (m + 1)), .bool (M (m + 1))] 51) = W at e0 e1 e2 hb2 ⊢
            have hbW : Below w.heap.size w W := hbe.trans (hb2.mono hbe.size)
            obtain ⟨d0, d1, d2⟩ := ref_cells hr hbW m (by omega)
            have v0 := cell_later hb2 u0
            have d0 := cell_regrown d0
            have d1 := cell_regrown d1
            have d2 := cell_regrown d2
            have e0 := cell_regrown e0
            have e1 := cell_regrown e1
            have e2 := cell_regrown e2
            have v0 := cell_regrown v0
            have cF : ∀ d os, Calls Try.prog 22 #[.agg #[.int .i64 (A m), .int .u32 (L m), .bool (M m)], .agg #[.int .i64 (A (m + 1)), .int .u32 (L (m + 1)), .bool (M (m + 1))]] (grow (redrawn W d) os) fun e w'' => e = .returned (.bool (follB (A m + 9 + L m) (A (m + 1)) (M (m + 1)))) ∧ ∃ p : Regrown, w'' = grow (redrawn W p.d) p.os :=
              fun d os => Calls.regrown_of (follows_any _ _ _ _ _ _ _ ap.1 ap.2 lp.1 lp.2 am1.1 am1.2)
            have cE : ∀ d os, Calls Try.prog 23 #[.agg #[.int .i64 (A (m + 1)), .int .u32 (L (m + 1)), .bool (M (m + 1))]] (grow (redrawn W d) os) fun e w'' => e = .returned (.int .i64 (A (m + 1) + 9 + L (m + 1))) ∧ ∃ p : Regrown, w'' = grow (redrawn W p.d) p.os :=
              fun d os => Calls.regrown_of (recEnd_any _ _ _ _ am1.1 am1.2 lm1.1 lm1.2)
            clear f0 f1 f2 u0 hb2 hbe
            cases hf : follB (A m + 9 + L m) (A (m + 1)) (M (m + 1))
            · rw [hf] at cF
              refine wp_region_quiet_below (by kernel_rfl) (by kernel_rfl) ?_
              repeat (first | go_big_quiet_step (first | exact cF _ _ | exact cE _ _) | quiet_step (first | exact cF _ _ | exact cE _ _))
              refine wpQuiet_nil ?_
              intro _ hw'
              obtain ⟨⟨dq, osq⟩, hw''⟩ := hw'
              subst hw''
              have hbq := below_regrown W dq osq
              clear d0 d1 d2 e0 e1 e2 v0 cF cE
              generalize grow (redrawn W dq) osq = W3 at hbq ⊢
              go_wp2
              go_ret
              exact ⟨rfl, hbW.trans (hbq.mono hbW.size)⟩
            · have hsp2 : 1048576 < A (m + 1) + 9 + L (m + 1) - A 0 := by
                rcases Int.lt_or_le 1048576 (A (m + 1) + 9 + L (m + 1) - A 0) with h | h
                · exact h
                · exact absurd ⟨hf, h⟩ (hread.out.2.2.2 hlast)
              rw [hf] at cF
              refine wp_region_quiet_below (by kernel_rfl) (by kernel_rfl) ?_
              repeat (first | go_big_quiet_step (first | exact cF _ _ | exact cE _ _) | quiet_step (first | exact cF _ _ | exact cE _ _))
              refine wpQuiet_nil ?_
              intro _ hw'
              obtain ⟨⟨dq, osq⟩, hw''⟩ := hw'
              subst hw''
              have hbq := below_regrown W dq osq
              clear d0 d1 d2 e0 e1 e2 v0 cF cE
              generalize grow (redrawn W dq) osq = W3 at hbq ⊢
              go_wp2
              go_ret
              exact ⟨rfl, hbW.trans (hbq.mono hbW.size)⟩
          · go_wp2
            go_ret
            exact ⟨rfl, hbe⟩

set_option maxHeartbeats 400000 in
/-- the ways on which the law asks nothing: an empty slice, or one too long -/
theorem sound_out (a : Option Addr) (len cap : Nat) (w : World) (h : len = 0 ∨ 65536 < len) (hm : len ≤ maxLen) :
    Calls Try.prog 5 #[.slice a len cap] w fun e w' => e = .returned (.bool true) ∧ Below w.heap.size w w' := by
  unfold maxLen at hm
  rcases h with rfl | h
  · go_enter Try.func5, Try.ntmps5
    go_wp2
    go_ret
    exact ⟨rfl, Below.refl _ _⟩
  · by_cases h2 : len ≤ 1048576
    · go_enter Try.func5, Try.ntmps5
      go_wp2
      go_ret
      exact ⟨rfl, Below.refl _ _⟩
    · go_enter Try.func5, Try.ntmps5
      go_wp2
      go_ret
      exact ⟨rfl, Below.refl _ _⟩

theorem sound_any (a : Option Addr) (len cap : Nat) (w : World) (h : IsRefs w a len cap) :
    Calls Try.prog 5 #[.slice a len cap] w fun e w' => e = .returned (.bool true) ∧ Below w.heap.size w w' := by
  rcases h with ⟨rfl, rfl, rfl⟩ | ⟨x, rfl, rfl⟩ | ⟨b, off, A, L, M, rfl, h1, hm, hr⟩
  · exact sound_out _ 0 _ _ (.inl rfl) (Nat.zero_le _)
  · exact sound_out _ 0 _ _ (.inl rfl) (Nat.zero_le _)
  · by_cases hl : len ≤ 65536
    · exact sound_go b off len cap A L M w hr hl h1
    · exact sound_out _ _ _ _ (.inr (by omega)) hm

end Go.Proofs.Qxb6604214a
