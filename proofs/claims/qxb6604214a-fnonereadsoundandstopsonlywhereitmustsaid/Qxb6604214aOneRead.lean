/-
  Seat b6604214a: oneRead.
-/
import Derived.Test.Qxb6604214aMakeRefs
namespace Go.Proofs.Qxb6604214a
open Go.RowKit Go.Sort

/-- where record i ends -/
def recE (A L : Nat → Int) (i : Nat) : Int := A i + 9 + L i
/-- may ref j be read in one read with the one ahead of it, and is the span small enough? -/
def joins (A L : Nat → Int) (M : Nat → Bool) (j : Nat) : Prop := follB (recE A L (j - 1)) (A j) (M j) = true ∧ recE A L j - A 0 ≤ 1048576

/-- what oneRead answers -/
def isRead (len : Nat) (A L : Nat → Int) (M : Nat → Bool) (n : Nat) : Prop := 1 ≤ n ∧ n ≤ len ∧ (∀ j, 1 ≤ j → j < n → joins A L M j) ∧ (n < len → ¬ joins A L M n)

theorem not_joins {A L : Nat → Int} {M : Nat → Bool} {k : Nat} {en : Int} (he : en = recE A L (k - 1)) (h : M k = true ∨ A k < en ∨ 4096 < A k - en ∨ 1048576 < recE A L k - A 0) : ¬ joins A L M k := by
  rintro ⟨h1, h2⟩
  rw [← he] at h1
  unfold follB at h1
  simp at h1
  rcases h with h | h | h | h
  · rw [h] at h1; simp at h1
  · omega
  · omega
  · omega

theorem joins_of {A L : Nat → Int} {M : Nat → Bool} {k : Nat} {en : Int} (he : en = recE A L (k - 1)) (h0 : M k = false) (h1 : ¬ A k < en) (h2 : ¬ 4096 < A k - en) (h3 : ¬ 1048576 < A k + 9 + L k - A 0) : joins A L M k := by
  refine ⟨?_, by unfold recE; omega⟩
  rw [← he]
  unfold follB
  simp [h0]
  omega

set_option maxHeartbeats 800000 in
theorem oneRead_any (g len : Nat) (A L : Nat → Int) (M : Nat → Bool) (w : World) (hr : Refs w g 0 len A L M) (hin : InRange len A) (hl : len ≤ 65536) (h1 : 1 ≤ len) :
    Calls Try.prog 29 #[.slice (some ⟨g, 0, none⟩) len len] w fun e w' => ∃ (n : Nat) (en : Int), e = .returned (.tuple #[.int .i64 n, .int .i64 en]) ∧ isRead len A L M n ∧ en = recE A L (n - 1) ∧ Below w.heap.size w w' := by
  have a0 := hin 0 (by omega)
  have l0 := hr.l0 0 (by omega)
  have c0 : w.cell? ⟨g, 0, none⟩ = some (.int .i64 (A 0)) := by simpa using hr.c0 0 (by omega)
  have c1 : w.cell? ⟨g, 1, none⟩ = some (.int .u32 (L 0)) := by simpa using hr.c1 0 (by omega)
  have c2 : w.cell? ⟨g, 2, none⟩ = some (.bool (M 0)) := by simpa using hr.c2 0 (by omega)
  have p1 : (0 : Int) < (len : Int) := by omega
  have hgl : g < w.heap.size := World.block_lt_of_cell? _ _ c0
  go_enter Try.func29, Try.ntmps29
  go_wp2_with (go_at_call 33; refine (end_any _ _ _ _ a0.1 a0.2 l0.1 l0.2).mono ?_; rintro e w1 ⟨rfl, hb1⟩)
  have f0 : w1.cell? ⟨w.heap.size, 0, none⟩ = some (.int .i64 (A 0)) := (hb1.cell (p := ⟨w.heap.size, 0, none⟩) (by simp)).trans (by simp)
  have hb0 : Below w.heap.size w w1 := ((Below.refl _ _).alloc (Nat.le_refl _) _).trans (hb1.mono (by simp))
  have hz1 : w.heap.size < w1.heap.size := by have := hb1.size; simp at this; omega
  clear hb1 c0 c1 c2
  go_loopw [2, 3] (fun n e wr => ∃ (k : Nat) (en : Int), 1 ≤ k ∧ k ≤ len ∧ n = .int .i64 k ∧ e = .int .i64 en ∧ 0 ≤ en ∧ en ≤ 4611686022722355208 ∧ Hid (en = recE A L (k - 1)) ∧ Hid (∀ j, 1 ≤ j → j < k → joins A L M j) ∧
      wr.cell? ⟨w.heap.size, 0, none⟩ = some (.int .i64 (A 0)) ∧ Below w.heap.size w wr ∧ w.heap.size < wr.heap.size) (fun n _ _ => len - (intOf n).toNat)
  case atStart => exact ⟨1, _, by omega, h1, rfl, rfl, by omega, by omega, rfl, fun j h h' => absurd h (by omega), f0, hb0, hz1⟩
  case round =>
    clear f0 hb0 hz1
    obtain ⟨k, en, hk1, hk, rfl, rfl, en0, en1, hen, hj, f0, hb0, hz1⟩ := hrel
    by_cases hlt : k < len
    · have ak := hin k hlt
      have lk := hr.l0 k hlt
      have d0 := (hb0.cell (p := ⟨g, 0 + k * 3, none⟩) hgl).trans (hr.c0 k hlt)
      have d1 := (hb0.cell (p := ⟨g, 0 + k * 3 + 1, none⟩) hgl).trans (hr.c1 k hlt)
      have d2 := (hb0.cell (p := ⟨g, 0 + k * 3 + 2, none⟩) hgl).trans (hr.c2 k hlt)
      simp only [Nat.zero_add] at d0 d1 d2
      have i1 : (0 : Int) ≤ (k : Int) := by omega
      have i2 : (k : Int) < (len : Int) := by omega
      have e0 : (wr.alloc (.cells #[.int .i64 (A k), .int .u32 (L k), .bool (M k)] 42)).cell? ⟨wr.heap.size, 0, none⟩ = some (.int .i64 (A k)) := by simp
      have e1 : (wr.alloc (.cells #[.int .i64 (A k), .int .u32 (L k), .bool (M k)] 42)).cell? ⟨wr.heap.size, 1, none⟩ = some (.int .u32 (L k)) := by simp
      have e2 : (wr.alloc (.cells #[.int .i64 (A k), .int .u32 (L k), .bool (M k)] 42)).cell? ⟨wr.heap.size, 2, none⟩ = some (.bool (M k)) := by simp
      have hb2 : Below wr.heap.size wr (wr.alloc (.cells #[.int .i64 (A k), .int .u32 (L k), .bool (M k)] 42)) := (Below.refl _ _).alloc (Nat.le_refl _) _
      have hz2 : wr.heap.size < (wr.alloc (.cells #[.int .i64 (A k), .int .u32 (L k), .bool (M k)] 42)).heap.size := by simp
      go_wp2_with (fail)
      generalize wr.alloc (.cells #[.int .i64 (A k), .int .u32 (L k), .bool (M k)] 42) = W at e0 e1 e2 hb2 hz2 ⊢
      have e3 : W.cell? ⟨w.heap.size, 0, none⟩ = some (.int .i64 (A 0)) := (hb2.cell (p := ⟨w.heap.size, 0, none⟩) hz1).trans f0
      have q0 := cell_regrown e0
      have q1 := cell_regrown e1
      have q2 := cell_regrown e2
      have q3 := cell_regrown e3
      have hbW : Below w.heap.size w W := hb0.trans (hb2.mono (by omega))
      have hzW : w.heap.size < W.heap.size := by omega
      have cE : ∀ m d os, Calls Try.prog 33 #[.agg #[.int .i64 (A k), .int .u32 (L k), .bool m]] (grow (redrawn W d) os) fun e w'' => e = .returned (.int .i64 (A k + 9 + L k)) ∧ ∃ p : Regrown, w'' = grow (redrawn W p.d) p.os :=
        fun m d os => Calls.regrown_of (end_any _ _ _ _ ak.1 ak.2 lk.1 lk.2)
      clear hb0 hb2 f0 d0 d1 d2 e0 e1 e2 e3 hz1
      cases hM : M k
      · rw [hM] at q2
        by_cases t1 : A k < en
        · have t1' : decide (A k < en) = true := by simpa using t1
          refine wp_region_quiet_below (by kernel_rfl) (by kernel_rfl) ?_
          repeat (first | go_big_quiet_step (exact cE _ _ _) | quiet_step (exact cE _ _ _))
          refine wpQuiet_nil ?_
          intro _ hw'
          obtain ⟨⟨dq, osq⟩, hw''⟩ := hw'
          subst hw''
          have hbq := below_regrown W dq osq
          have z0 := q0 dq osq
          have z1 := q1 dq osq
          have z2 := q2 dq osq
          have z3 := q3 dq osq
          clear q0 q1 q2 q3 cE
          generalize grow (redrawn W dq) osq = W3 at hbq z0 z1 z2 z3 ⊢
          have hb3 : Below w.heap.size w W3 := hbW.trans (hbq.mono (by omega))
          go_wp2
          go_ret2
          exact ⟨k, en, rfl, ⟨hk1, hk, hj.out, fun _ => not_joins hen.out (.inr (.inl t1))⟩, hen.out, hb3⟩
        · have t1' : decide (A k < en) = false := by simpa using t1
          by_cases t2 : 4096 < A k - en
          · have t2' : decide (4096 < A k - en) = true := by simpa using t2
            refine wp_region_quiet_below (by kernel_rfl) (by kernel_rfl) ?_
            repeat (first | go_big_quiet_step (exact cE _ _ _) | quiet_step (exact cE _ _ _))
            refine wpQuiet_nil ?_
            intro _ hw'
            obtain ⟨⟨dq, osq⟩, hw''⟩ := hw'
            subst hw''
            have hbq := below_regrown W dq osq
            have z0 := q0 dq osq
            have z1 := q1 dq osq
            have z2 := q2 dq osq
            have z3 := q3 dq osq
            clear q0 q1 q2 q3 cE
            generalize grow (redrawn W dq) osq = W3 at hbq z0 z1 z2 z3 ⊢
            have hb3 : Below w.heap.size w W3 := hbW.trans (hbq.mono (by omega))
            go_wp2
            go_ret2
            exact ⟨k, en, rfl, ⟨hk1, hk, hj.out, fun _ => not_joins hen.out (.inr (.inr (.inl t2)))⟩, hen.out, hb3⟩
          · have t2' : decide (4096 < A k - en) = false := by simpa using t2
            by_cases t3 : 1048576 < A k + 9 + L k - A 0
            · refine wp_region_quiet_below (by kernel_rfl) (by kernel_rfl) ?_
              repeat (first | go_big_quiet_step (exact cE _ _ _) | quiet_step (exact cE _ _ _))
              refine wpQuiet_nil ?_
              intro _ hw'
              obtain ⟨⟨dq, osq⟩, hw''⟩ := hw'
              subst hw''
              have hbq := below_regrown W dq osq
              have z0 := q0 dq osq
              have z1 := q1 dq osq
              have z2 := q2 dq osq
              have z3 := q3 dq osq
              clear q0 q1 q2 q3 cE
              generalize grow (redrawn W dq) osq = W3 at hbq z0 z1 z2 z3 ⊢
              have hb3 : Below w.heap.size w W3 := hbW.trans (hbq.mono (by omega))
              go_wp2
              go_ret2
              exact ⟨k, en, rfl, ⟨hk1, hk, hj.out, fun _ => not_joins hen.out (.inr (.inr (.inr t3)))⟩, hen.out, hb3⟩
            · refine wp_region_quiet_below (by kernel_rfl) (by kernel_rfl) ?_
              repeat (first | go_big_quiet_step (exact cE _ _ _) | quiet_step (exact cE _ _ _))
              refine wpQuiet_nil ?_
              intro _ hw'
              obtain ⟨⟨dq, osq⟩, hw''⟩ := hw'
              subst hw''
              have hbq := below_regrown W dq osq
              have z0 := q0 dq osq
              have z1 := q1 dq osq
              have z2 := q2 dq osq
              have z3 := q3 dq osq
              clear q0 q1 q2 q3 cE
              generalize grow (redrawn W dq) osq = W3 at hbq z0 z1 z2 z3 ⊢
              have hb3 : Below w.heap.size w W3 := hbW.trans (hbq.mono (by omega))
              go_wp2_with (go_at_call 33; refine (end_any _ _ _ _ ak.1 ak.2 lk.1 lk.2).mono ?_; rintro e w4 ⟨rfl, hb4⟩)
              go_roundw
              case rel => exact ⟨k + 1, _, by omega, by omega, by go_num, rfl, by omega, by omega, by simp [recE, Hid], fun j a b => by
                rcases Nat.lt_or_eq_of_le (Nat.le_of_lt_succ b) with h | h
                · exact hj.out j a h
                · subst h; exact joins_of hen.out hM (by omega) (by omega) (by omega), (hb4.cell (p := ⟨w.heap.size, 0, none⟩) (by have := hbq.size; simp; omega)).trans z3, hb3.trans (hb4.mono (by have := hbq.size; omega)), by have := hbq.size; have := hb4.size; omega⟩
              case measure => simp [intOf]; omega
      · rw [hM] at q2
        refine wp_region_quiet_below (by kernel_rfl) (by kernel_rfl) ?_
        repeat (first | go_big_quiet_step (exact cE _ _ _) | quiet_step (exact cE _ _ _))
        refine wpQuiet_nil ?_
        intro _ hw'
        obtain ⟨⟨dq, osq⟩, hw''⟩ := hw'
        subst hw''
        have hbq := below_regrown W dq osq
        have z0 := q0 dq osq
        have z1 := q1 dq osq
        have z2 := q2 dq osq
        have z3 := q3 dq osq
        clear q0 q1 q2 q3 cE
        generalize grow (redrawn W dq) osq = W3 at hbq z0 z1 z2 z3 ⊢
        have hb3 : Below w.heap.size w W3 := hbW.trans (hbq.mono (by omega))
        go_wp2
        go_ret2
        exact ⟨k, en, rfl, ⟨hk1, hk, hj.out, fun _ => not_joins hen.out (.inl hM)⟩, hen.out, hb3⟩
    · go_wp2
      go_ret2
      exact ⟨k, en, rfl, ⟨hk1, hk, hj.out, fun h => absurd h hlt⟩, hen.out, hb0⟩

end Go.Proofs.Qxb6604214a
