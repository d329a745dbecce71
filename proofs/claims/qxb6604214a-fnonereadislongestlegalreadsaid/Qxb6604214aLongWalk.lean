/-
  Seat b6604214a: the walk of FnOneReadIsLongestLegalRead.
-/
import Derived.Test.Qxb6604214aReadLaw
import Derived.Test.Qxb6604214aOpen
namespace Go.Proofs.Qxb6604214a
open Go.RowKit
open Go.Sort (grow)

theorem refs_of_row {w : World} {g len : Nat} {A L : Nat → Int} {M : Nat → Bool} (h : w.rowIs g 42 (len * 3) (refCell A L M)) (hl : ∀ k, k < len → 0 ≤ L k ∧ L k < 4294967296) : Refs w g 0 len A L M := by
  refine ⟨fun k hk => ?_, fun k hk => ?_, fun k hk => ?_, hl⟩
  · rw [Nat.zero_add, h.cell (by omega)]; unfold refCell; rw [if_pos (by omega), show k * 3 / 3 = k by omega]
  · rw [Nat.zero_add, h.cell (by omega)]; unfold refCell; rw [if_neg (by omega), if_pos (by omega), show (k * 3 + 1) / 3 = k by omega]
  · rw [Nat.zero_add, h.cell (by omega)]; unfold refCell; rw [if_neg (by omega), if_neg (by omega), show (k * 3 + 2) / 3 = k by omega]

theorem int_eq {k : IntKind} {a b : Int} (h : a = b) : Value.int k a = Value.int k b := by rw [h]

set_option maxHeartbeats 800000 in
theorem long_go (b off len cap : Nat) (A L : Nat → Int) (M : Nat → Bool) (w : World) (hr : Refs w b off len A L M) (hl : len ≤ 65536) (h1 : 1 ≤ len) :
    Calls Try.prog 4 #[.slice (some ⟨b, off, none⟩) len cap] w fun e w' => e = .returned (.bool true) ∧ Below w.heap.size w w' := by
  have hn0 : ((len : Int) == 0) = false := by simp; omega
  have hbw : b < w.heap.size := World.block_lt_of_cell? _ _ (hr.c0 0 (by omega))
  go_enter Try.func4, Try.ntmps4
  go_wp2_with (first
    | (go_at_call 19; refine (inRange_any b off len cap A L M _ hr hl).mono ?_; rintro e w' (⟨rfl, hw⟩ | ⟨rfl, hin, hw⟩) <;> (have hw2 := hw.symm; clear hw; subst hw2))
    | (go_at_call 21; refine (refs_any b off len cap A L M _ hr hl h1).mono ?_; rintro e w1 ⟨g, rfl, hrow, hb1⟩)
    | (go_at_call 29; refine (oneRead_any g len A L M _ (refs_of_row hrow hr.l0) hin hl h1).mono ?_; rintro e w2 ⟨n, en, rfl, hread0, hen0, hb2⟩; have hread : Hid (isRead len A L M n) := hread0; have hen : Hid (en = recE A L (n - 1)) := hen0; clear hread0 hen0)
    | go_in)
  · go_ret
    exact ⟨rfl, Below.refl _ _⟩
  · have hbe : Below w.heap.size w w2 := hb1.trans (hb2.mono hb1.size)
    clear hb1 hb2 hrow
    go_loopw [5, 6] (fun c i wr => ∃ m : Nat, m + 1 ≤ len ∧ c = .int .i64 len ∧ i = .int .i64 ((m : Int) + 1) ∧ Hid (∀ j, 1 ≤ j → j < m + 1 → fol A L M j) ∧ Below w.heap.size w wr) (fun _ i _ => len - (intOf i).toNat)
    case atStart => exact ⟨0, h1, rfl, rfl, fun j a b => absurd a (by omega), hbe⟩
    case round =>
      clear hbe
      obtain ⟨m, hm, rfl, rfl, hj, hbe⟩ := hrel
      by_cases hlt : m + 1 < len
      · have d0 := cell_regrown ((hbe.cell (p := ⟨b, off + m * 3, none⟩) hbw).trans (hr.c0 m (by omega)))
        have d1 := cell_regrown ((hbe.cell (p := ⟨b, off + m * 3 + 1, none⟩) hbw).trans (hr.c1 m (by omega)))
        have d2 := cell_regrown ((hbe.cell (p := ⟨b, off + m * 3 + 2, none⟩) hbw).trans (hr.c2 m (by omega)))
        have f0 := cell_regrown ((hbe.cell (p := ⟨b, off + (m + 1) * 3, none⟩) hbw).trans (hr.c0 (m + 1) hlt))
        have f1 := cell_regrown ((hbe.cell (p := ⟨b, off + (m + 1) * 3 + 1, none⟩) hbw).trans (hr.c1 (m + 1) hlt))
        have f2 := cell_regrown ((hbe.cell (p := ⟨b, off + (m + 1) * 3 + 2, none⟩) hbw).trans (hr.c2 (m + 1) hlt))
        have i1 : (0 : Int) ≤ (m : Int) := by omega
        have i2 : (m : Int) + 1 < (len : Int) := by omega
        have am := hin m (by omega)
        have lm := hr.l0 m (by omega)
        have am1 := hin (m + 1) hlt
        have cE : ∀ d os, Calls Try.prog 22 #[.agg #[.int .i64 (A m), .int .u32 (L m), .bool (M m)], .agg #[.int .i64 (A (m + 1)), .int .u32 (L (m + 1)), .bool (M (m + 1))]] (grow (redrawn wr d) os) fun e w'' => e = .returned (.bool (follB (A m + 9 + L m) (A (m + 1)) (M (m + 1)))) ∧ ∃ p : Regrown, w'' = grow (redrawn wr p.d) p.os :=
          fun d os => Calls.regrown_of (follows_any _ _ _ _ _ _ _ am.1 am.2 lm.1 lm.2 am1.1 am1.2)
        cases hf : follB (A m + 9 + L m) (A (m + 1)) (M (m + 1))
        · rw [hf] at cE
          go_wp2_with (fail)
          refine wp_region_quiet_below (by kernel_rfl) (by kernel_rfl) ?_
          repeat (first | go_big_quiet_step (exact cE _ _) | quiet_step (exact cE _ _))
          refine wpQuiet_nil ?_
          intro _ hw'
          obtain ⟨⟨dq, osq⟩, hw''⟩ := hw'
          subst hw''
          have hbq := below_regrown wr dq osq
          clear d0 d1 d2 f0 f1 f2 cE
          generalize grow (redrawn wr dq) osq = W3 at hbq ⊢
          have hb3 : Below w.heap.size w W3 := hbe.trans (hbq.mono hbe.size)
          clear hbe hbq
          go_wp2
          go_loopw [7, 8] (fun o i wr => ∃ q : Nat, q + 1 ≤ (m + 1) ∧ o = .int .i64 1 ∧ i = .int .i64 ((q : Int) + 1) ∧ Hid (∀ j, q + 1 < j → j ≤ (m + 1) → 1048576 < recE A L (j - 1) - A 0) ∧ Below w.heap.size w wr) (fun _ i _ => (intOf i).toNat)
          case atStart => exact ⟨m, by omega, rfl, by go_num, fun j a b => absurd a (by omega), hb3⟩
          case round =>
            clear hb3
            obtain ⟨q, hq, rfl, rfl, hab, hbe⟩ := hrel
            have i3 : (0 : Int) ≤ (q : Int) := by omega
            have i4 : (q : Int) < (len : Int) := by omega
            have i5 : (0 : Int) < (len : Int) := by omega
            have aq := hin q (by omega)
            have lq := hr.l0 q (by omega)
            have a0 := hin 0 (by omega)
            have c0 := (hbe.cell (p := ⟨b, off + q * 3, none⟩) hbw).trans (hr.c0 q (by omega))
            have c1 := (hbe.cell (p := ⟨b, off + q * 3 + 1, none⟩) hbw).trans (hr.c1 q (by omega))
            have c2 := (hbe.cell (p := ⟨b, off + q * 3 + 2, none⟩) hbw).trans (hr.c2 q (by omega))
            have c3 : wr.cell? ⟨b, off, none⟩ = some (.int .i64 (A 0)) := (hbe.cell (p := ⟨b, off, none⟩) hbw).trans (by simpa using hr.c0 0 (by omega))
            by_cases hone : q = 0
            · have hnk : n = 1 := longest hread.out (fun k hk => (hr.l0 k hk).1) (by omega) (by omega) hj.out (fun _ h => by unfold fol at h; rw [show recE A L (m + 1 - 1) = A m + 9 + L m from rfl, hf] at h; cases h) (Nat.le_refl 1) (by omega) (fun j a b => hab.out j (by omega) b) (.inl rfl)
              subst hone
              subst hnk
              have hE : en = A 0 + 9 + L 0 := hen.out
              subst hE
              simp only [Nat.zero_mul, Nat.add_zero] at c0 c1 c2
              go_wp2_with (go_at_call 23; refine (recEnd_any _ _ _ _ a0.1 a0.2 lq.1 lq.2).mono ?_; rintro e w4 ⟨rfl, hb4⟩)
              go_ret
              exact ⟨rfl, hbe.trans (hb4.mono hbe.size)⟩
            · have hone' : (1 : Int) < (q : Int) + 1 := by omega
              have k0 := cell_regrown c0
              have k1 := cell_regrown c1
              have k2 := cell_regrown c2
              have k3 := cell_regrown c3
              have cE : ∀ d os, Calls Try.prog 23 #[.agg #[.int .i64 (A q), .int .u32 (L q), .bool (M q)]] (grow (redrawn wr d) os) fun e w'' => e = .returned (.int .i64 (A q + 9 + L q)) ∧ ∃ p : Regrown, w'' = grow (redrawn wr p.d) p.os :=
                fun d os => Calls.regrown_of (recEnd_any _ _ _ _ aq.1 aq.2 lq.1 lq.2)
              go_wp2_with (fail)
              refine wp_region_quiet_below (by kernel_rfl) (by kernel_rfl) ?_
              repeat (first | go_big_quiet_step (exact cE _ _) | quiet_step (exact cE _ _))
              refine wpQuiet_nil ?_
              intro _ hw'
              obtain ⟨⟨dq, osq⟩, hw''⟩ := hw'
              subst hw''
              have hbq := below_regrown wr dq osq
              have z0 := k0 dq osq
              have z1 := k1 dq osq
              have z2 := k2 dq osq
              clear k0 k1 k2 k3 c0 c1 c2 c3 cE
              generalize grow (redrawn wr dq) osq = W3 at hbq z0 z1 z2 ⊢
              have hb3 : Below w.heap.size w W3 := hbe.trans (hbq.mono hbe.size)
              clear hbe hbq
              by_cases hsp : A q + 9 + L q - A 0 ≤ 1048576
              · have hnk : n = q + 1 := longest hread.out (fun k hk => (hr.l0 k hk).1) (by omega) (by omega) hj.out (fun _ h => by unfold fol at h; rw [show recE A L (m + 1 - 1) = A m + 9 + L m from rfl, hf] at h; cases h) (by omega) hq (fun j a b => hab.out j (by omega) b) (.inr hsp)
                subst hnk
                have hE : en = A q + 9 + L q := hen.out
                subst hE
                go_wp2_with (go_at_call 23; refine (recEnd_any _ _ _ _ aq.1 aq.2 lq.1 lq.2).mono ?_; rintro e w4 ⟨rfl, hb4⟩)
                go_ret
                exact ⟨rfl, hb3.trans (hb4.mono hb3.size)⟩
              · go_wp2
                go_roundw
                case rel => exact ⟨q - 1, by omega, rfl, int_eq (by omega), fun j a b => by
                  rcases Nat.lt_or_eq_of_le (show q + 1 ≤ j by omega) with h | h
                  · exact hab.out j h b
                  · subst h; unfold recE; simp only [Nat.add_sub_cancel]; omega, hb3⟩
                case measure => simp [intOf] <;> omega
        · rw [hf] at cE
          go_wp2_with (fail)
          refine wp_region_quiet_below (by kernel_rfl) (by kernel_rfl) ?_
          repeat (first | go_big_quiet_step (exact cE _ _) | quiet_step (exact cE _ _))
          refine wpQuiet_nil ?_
          intro _ hw'
          obtain ⟨⟨dq, osq⟩, hw''⟩ := hw'
          subst hw''
          have hbq := below_regrown wr dq osq
          clear d0 d1 d2 f0 f1 f2 cE
          generalize grow (redrawn wr dq) osq = W3 at hbq ⊢
          have hb3 : Below w.heap.size w W3 := hbe.trans (hbq.mono hbe.size)
          clear hbe hbq
          go_wp2
          go_roundw
          case rel => exact ⟨m + 1, by omega, rfl, by go_num, fun j a b => by
            rcases Nat.lt_or_eq_of_le (Nat.le_of_lt_succ b) with h | h
            · exact hj.out j a h
            · subst h; exact hf, hb3⟩
          case measure => simp [intOf] <;> omega
      · go_wp2
        go_loopw [7, 8] (fun o i wr => ∃ q : Nat, q + 1 ≤ len ∧ o = .int .i64 1 ∧ i = .int .i64 ((q : Int) + 1) ∧ Hid (∀ j, q + 1 < j → j ≤ len → 1048576 < recE A L (j - 1) - A 0) ∧ Below w.heap.size w wr) (fun _ i _ => (intOf i).toNat)
        case atStart => exact ⟨(len - 1), by omega, rfl, by go_num, fun j a b => absurd a (by omega), hbe⟩
        case round =>
          clear hbe
          obtain ⟨q, hq, rfl, rfl, hab, hbe⟩ := hrel
          have i3 : (0 : Int) ≤ (q : Int) := by omega
          have i4 : (q : Int) < (len : Int) := by omega
          have i5 : (0 : Int) < (len : Int) := by omega
          have aq := hin q (by omega)
          have lq := hr.l0 q (by omega)
          have a0 := hin 0 (by omega)
          have c0 := (hbe.cell (p := ⟨b, off + q * 3, none⟩) hbw).trans (hr.c0 q (by omega))
          have c1 := (hbe.cell (p := ⟨b, off + q * 3 + 1, none⟩) hbw).trans (hr.c1 q (by omega))
          have c2 := (hbe.cell (p := ⟨b, off + q * 3 + 2, none⟩) hbw).trans (hr.c2 q (by omega))
          have c3 : wr.cell? ⟨b, off, none⟩ = some (.int .i64 (A 0)) := (hbe.cell (p := ⟨b, off, none⟩) hbw).trans (by simpa using hr.c0 0 (by omega))
          by_cases hone : q = 0
          · have hnk : n = 1 := longest hread.out (fun k hk => (hr.l0 k hk).1) (by omega) (by omega) (fun j a b => hj.out j a (by omega)) (fun h => absurd h (by omega)) (Nat.le_refl 1) (by omega) (fun j a b => hab.out j (by omega) b) (.inl rfl)
            subst hone
            subst hnk
            have hE : en = A 0 + 9 + L 0 := hen.out
            subst hE
            simp only [Nat.zero_mul, Nat.add_zero] at c0 c1 c2
            go_wp2_with (go_at_call 23; refine (recEnd_any _ _ _ _ a0.1 a0.2 lq.1 lq.2).mono ?_; rintro e w4 ⟨rfl, hb4⟩)
            go_ret
            exact ⟨rfl, hbe.trans (hb4.mono hbe.size)⟩
          · have hone' : (1 : Int) < (q : Int) + 1 := by omega
            have k0 := cell_regrown c0
            have k1 := cell_regrown c1
            have k2 := cell_regrown c2
            have k3 := cell_regrown c3
            have cE : ∀ d os, Calls Try.prog 23 #[.agg #[.int .i64 (A q), .int .u32 (L q), .bool (M q)]] (grow (redrawn wr d) os) fun e w'' => e = .returned (.int .i64 (A q + 9 + L q)) ∧ ∃ p : Regrown, w'' = grow (redrawn wr p.d) p.os :=
              fun d os => Calls.regrown_of (recEnd_any _ _ _ _ aq.1 aq.2 lq.1 lq.2)
            go_wp2_with (fail)
            refine wp_region_quiet_below (by kernel_rfl) (by kernel_rfl) ?_
            repeat (first | go_big_quiet_step (exact cE _ _) | quiet_step (exact cE _ _))
            refine wpQuiet_nil ?_
            intro _ hw'
            obtain ⟨⟨dq, osq⟩, hw''⟩ := hw'
            subst hw''
            have hbq := below_regrown wr dq osq
            have z0 := k0 dq osq
            have z1 := k1 dq osq
            have z2 := k2 dq osq
            clear k0 k1 k2 k3 c0 c1 c2 c3 cE
            generalize grow (redrawn wr dq) osq = W3 at hbq z0 z1 z2 ⊢
            have hb3 : Below w.heap.size w W3 := hbe.trans (hbq.mono hbe.size)
            clear hbe hbq
            by_cases hsp : A q + 9 + L q - A 0 ≤ 1048576
            · have hnk : n = q + 1 := longest hread.out (fun k hk => (hr.l0 k hk).1) (by omega) (by omega) (fun j a b => hj.out j a (by omega)) (fun h => absurd h (by omega)) (by omega) hq (fun j a b => hab.out j (by omega) b) (.inr hsp)
              subst hnk
              have hE : en = A q + 9 + L q := hen.out
              subst hE
              go_wp2_with (go_at_call 23; refine (recEnd_any _ _ _ _ aq.1 aq.2 lq.1 lq.2).mono ?_; rintro e w4 ⟨rfl, hb4⟩)
              go_ret
              exact ⟨rfl, hb3.trans (hb4.mono hb3.size)⟩
            · go_wp2
              go_roundw
              case rel => exact ⟨q - 1, by omega, rfl, int_eq (by omega), fun j a b => by
                rcases Nat.lt_or_eq_of_le (show q + 1 ≤ j by omega) with h | h
                · exact hab.out j h b
                · subst h; unfold recE; simp only [Nat.add_sub_cancel]; omega, hb3⟩
              case measure => simp [intOf] <;> omega

set_option maxHeartbeats 400000 in
/-- the ways on which the law asks nothing: an empty slice, or one too long -/
theorem long_out (a : Option Addr) (len cap : Nat) (w : World) (h : len = 0 ∨ 65536 < len) (hm : len ≤ maxLen) :
    Calls Try.prog 4 #[.slice a len cap] w fun e w' => e = .returned (.bool true) ∧ Below w.heap.size w w' := by
  unfold maxLen at hm
  rcases h with rfl | h
  · go_enter Try.func4, Try.ntmps4
    go_wp2
    go_ret
    exact ⟨rfl, Below.refl _ _⟩
  · by_cases h2 : len ≤ 1048576
    · go_enter Try.func4, Try.ntmps4
      go_wp2
      go_ret
      exact ⟨rfl, Below.refl _ _⟩
    · go_enter Try.func4, Try.ntmps4
      go_wp2
      go_ret
      exact ⟨rfl, Below.refl _ _⟩

theorem long_any (a : Option Addr) (len cap : Nat) (w : World) (h : IsRefs w a len cap) :
    Calls Try.prog 4 #[.slice a len cap] w fun e w' => e = .returned (.bool true) ∧ Below w.heap.size w w' := by
  rcases h with ⟨rfl, rfl, rfl⟩ | ⟨x, rfl, rfl⟩ | ⟨b, off, A, L, M, rfl, h1, hm, hr⟩
  · exact long_out _ 0 _ _ (.inl rfl) (Nat.zero_le _)
  · exact long_out _ 0 _ _ (.inl rfl) (Nat.zero_le _)
  · by_cases hl : len ≤ 65536
    · exact long_go b off len cap A L M w hr hl h1
    · exact long_out _ _ _ _ (.inr (by omega)) hm

end Go.Proofs.Qxb6604214a
