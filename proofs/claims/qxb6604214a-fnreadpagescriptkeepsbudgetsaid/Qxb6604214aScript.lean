/-
  Seat b6604214a: the walk of FnReadPageScriptKeepsBudget.
-/
import Derived.Test.Qxb6604214aOffer
namespace Go.Proofs.Qxb6604214a
open Go.RowKit
open Go.Sort (grow)

theorem int_val {k : IntKind} {a b : Int} (h : a = b) : Value.int k a = Value.int k b := by rw [h]

set_option maxHeartbeats 400000 in
theorem refIs_same (t l : Int) (m : Bool) (w : World) :
    Calls Try.prog 16 #[.agg #[.int .i64 t, .int .u32 l, .bool m], .int .i64 t, .int .u32 l, .bool m] w fun e w' => e = .returned (.bool true) ∧ Below w.heap.size w w' := by
  go_enter Try.func16, Try.ntmps16
  go_wp2
  go_ret
  exact ⟨rfl, by go_grown⟩

set_option maxRecDepth 100000 in
set_option maxHeartbeats 4000000 in
theorem script_go (b off len cap : Nat) (A : Nat → Int) (N : Nat → Bool) (T V L F : Nat → Int) (w : World) (hr : Offers w b off len A N T V L F) (hl : len ≤ 16384) :
    Calls Try.prog 3 #[.slice (some ⟨b, off, none⟩) len cap] w fun e w' => e = .returned (.bool true) ∧ Below w.heap.size w w' := by
  go_enter Try.func3, Try.ntmps3
  go_wp2
  have h0 := page_start w
  go_loopw [4, 5, 6, 7] (fun s h z i wr => ∃ (k : Nat) (sz : Int) (lz : Bool) (nr nf nw : Nat), k ≤ len ∧ s = .int .i64 sz ∧ h = .int .i64 ((nr : Int) + nf + nw) ∧ z = .bool lz ∧ i = .int .i64 k ∧ PageRel w wr k sz lz nr nf nw) (fun _ _ _ i _ => len - (intOf i).toNat)
  case atStart => exact ⟨0, 0, false, 0, 0, 0, Nat.zero_le _, rfl, rfl, rfl, rfl, h0⟩
  case round =>
    clear h0
    obtain ⟨k, sz, lz, nr, nf, nw, hk, rfl, rfl, rfl, rfl, hrel⟩ := hrel
    by_cases hlt : k < len
    · obtain ⟨vr, vf, vw, hP, hcnt, s0, s1, hlz, hbe⟩ := hrel
      obtain ⟨xr, hr'⟩ := hP.rr
      obtain ⟨ar, cr, rfl⟩ := own_form hr'
      obtain ⟨xf, hf'⟩ := hP.rf
      obtain ⟨af, cf, rfl⟩ := own_form hf'
      obtain ⟨xw, hw'⟩ := hP.rw'
      obtain ⟨aw, cw, rfl⟩ := own_form hw'
      clear hr' hf' hw'
      obtain ⟨x0, x1, x2, x3, x4, x5⟩ := offer_cells hr hbe k hlt
      have l0 := hr.l0 k hlt
      have f0 := hr.f0 k hlt
      have i1 : (0 : Int) ≤ (k : Int) := by omega
      have i2 : (k : Int) < (len : Int) := by omega
      cases hN : N k
      · rw [hN] at x1
        go_wp2_with (first | (go_at_call 9; go_in) | (go_at_call 10; go_in) | (go_at_call 11; go_in) | (go_at_call 12; go_in))
        · have q4 : (bits BinOp.and .u8 (F k) 4 != 0) = true := by assumption
          have h4 : hasF (F k) 4 = true := (hasF_ne f0.1 f0.2).1.symm.trans q4
          obtain ⟨hQ, hO, hS, hbW⟩ := prep_slot (a := A k) (t := T k) (v := V k) (l := L k) (f := F k) hP hbe
          generalize ((wr.alloc (.cells #[.int .u64 (A k), .bool false, .int .i64 (T k), .int .u64 (V k), .int .u32 (L k), .int .u8 (F k)] 30)).alloc (.cells #[.int .i64 (T k), .int .u64 (V k), .int .u32 (L k), .int .u8 (F k)] 57)) = W at hQ hO hS hbW ⊢
          clear x0 x1 x2 x3 x4 x5 hbe
          by_cases hrej : 0 < sz ∧ 1048576 < sz + 8
          · obtain ⟨r1, r2⟩ := hrej
            refine (take_reject8 _ (A k) 1 sz _ _ (state_filled _ (F k) _ hS.s3 h4) rfl hQ.c3 r1 (by omega) r2).mono ?_
            rintro e w3 ⟨rfl, hw⟩
            have hw2 := hw.symm
            clear hw
            subst hw2
            have p0 := hQ.c0
            have p1 := hQ.c1
            have p2 := hQ.c2
            have p3 := hQ.c3
            have z0 : (sz == 0) = false := by simp; omega
            clear hO hl f0 hP hr
            go_wp2_with (first | (go_at_call 13; go_in) | (go_at_call 14; go_in) | (go_at_call 15; go_in) | (go_at_call 17; go_in))
            · have hz : (!lz) = true := by assumption
              have hb : 1048576 < sz := by assumption
              have := hlz.out hb
              subst this
              cases hz
            · go_roundw
              case rel => (repeat apply Exists.intro); exact ⟨⟨k + 1, sz, lz, nr, nf, nw, by omega, rfl, rfl, rfl, by go_num, _, _, _, hQ, by omega, s0, s1, hlz, hbW⟩, rfl⟩
              case measure => simp [intOf]; omega
            · go_roundw
              case rel => (repeat apply Exists.intro); exact ⟨⟨k + 1, sz, lz, nr, nf, nw, by omega, rfl, rfl, rfl, by go_num, _, _, _, hQ, by omega, s0, s1, hlz, hbW⟩, rfl⟩
              case measure => simp [intOf]; omega
          · refine (take_filled _ (A k) sz _ _ _ _ nr nf nw _ (state_filled _ (F k) _ hS.s3 h4) hQ (by omega) s0 (by omega) (by omega)).mono ?_
            rintro e w3 ⟨rfl, g, cap', hQ3, hcell, hfar⟩
            obtain ⟨m0, m2, m4, m5⟩ := hO.far hfar (fun e => by have := hP.set e; omega)
            have hb3 : Below w.heap.size w w3 := hbW.trans (hfar.below hbW.size (fun j e => (hP.set e).1))
            clear hfar hO hbW hQ
            have p0 := hQ3.c0
            have p1 := hQ3.c1
            have p2 := hQ3.c2
            have p3 := hQ3.c3
            have y0 := hcell
            have hg0 : ((nf : Int) + 1 == 0) = false := by simp; omega
            clear hl f0 hP hr
            by_cases hsz : 0 < sz
            · have z0 : (sz == 0) = false := by simp; omega
              have z1 : sz + 8 ≤ 1048576 := by omega
              go_wp2_with (first | (go_at_call 13; go_in) | (go_at_call 14; go_in) | (go_at_call 15; go_in) | (go_at_call 17; go_in))
              go_quiet (fail)
              have hQ4 := hQ3.later (below_drewN (Below.refl _ _) nq)
              have hb4 := below_drewN hb3 nq
              go_wp2_with (first | (go_at_call 13; go_in) | (go_at_call 14; go_in) | (go_at_call 15; go_in) | (go_at_call 17; go_in))
              all_goals
                go_roundw
                case rel => (repeat apply Exists.intro); exact ⟨⟨k + 1, sz + 8, false, nr, (nf + 1), nw, by omega, rfl, int_val (by omega), rfl, by go_num, _, _, _, hQ4, by omega, by omega, by omega, fun h => absurd h (by omega), hb4⟩, rfl⟩
                case measure => simp [intOf]; omega
            · have z0 : (sz == 0) = true := by simp; omega
              go_wp2_with (first | (go_at_call 13; go_in) | (go_at_call 14; go_in) | (go_at_call 15; go_in) | (go_at_call 17; go_in))
              go_quiet (fail)
              have hQ4 := hQ3.later (below_drewN (Below.refl _ _) nq)
              have hb4 := below_drewN hb3 nq
              go_wp2_with (first | (go_at_call 13; go_in) | (go_at_call 14; go_in) | (go_at_call 15; go_in) | (go_at_call 17; go_in))
              all_goals
                go_roundw
                case rel => (repeat apply Exists.intro); exact ⟨⟨k + 1, sz + 8, true, nr, (nf + 1), nw, by omega, rfl, int_val (by omega), rfl, by go_num, _, _, _, hQ4, by omega, by omega, by omega, fun _ => rfl, hb4⟩, rfl⟩
                case measure => simp [intOf]; omega
        · have q4 : (bits BinOp.and .u8 (F k) 4 != 0) = false := by assumption
          have q1 : (bits BinOp.and .u8 (F k) 1 != 0) = true := by assumption
          have h4 : hasF (F k) 4 = false := (hasF_ne f0.1 f0.2).1.symm.trans q4
          have h1 : hasF (F k) 1 = true := (hasF_ne f0.1 f0.2).2.1.symm.trans q1
          have q16 : (bits BinOp.and .u8 (F k) 16 != 0) = hasF (F k) 16 := (hasF_ne f0.1 f0.2).2.2
          have hne : wr.heap.size + 1 ≠ w.heap.size := by have := hbe.size; omega
          obtain ⟨hQ, hO, hS, hbW⟩ := prep_slot (a := A k) (t := T k) (v := V k) (l := L k) (f := F k) hP hbe
          generalize ((wr.alloc (.cells #[.int .u64 (A k), .bool false, .int .i64 (T k), .int .u64 (V k), .int .u32 (L k), .int .u8 (F k)] 30)).alloc (.cells #[.int .i64 (T k), .int .u64 (V k), .int .u32 (L k), .int .u8 (F k)] 57)) = W at hQ hO hS hbW ⊢
          clear x0 x1 x2 x3 x4 x5 hbe
          by_cases hrej : 0 < sz ∧ 1048576 < sz + L k
          · obtain ⟨r1, r2⟩ := hrej
            refine (take_rejectC _ _ (A k) (T k) (V k) (L k) (F k) sz _ hS h4 h1 hQ.c3 r1 (by omega) l0.1 l0.2 r2).mono ?_
            rintro e w3 ⟨rfl, hw⟩
            have hw2 := hw.symm
            clear hw
            subst hw2
            have p0 := hQ.c0
            have p1 := hQ.c1
            have p2 := hQ.c2
            have p3 := hQ.c3
            have z0 : (sz == 0) = false := by simp; omega
            clear hO hl f0 hP hr
            go_wp2_with (first | (go_at_call 13; go_in) | (go_at_call 14; go_in) | (go_at_call 15; go_in) | (go_at_call 17; go_in))
            · have hz : (!lz) = true := by assumption
              have hb : 1048576 < sz := by assumption
              have := hlz.out hb
              subst this
              cases hz
            · go_roundw
              case rel => (repeat apply Exists.intro); exact ⟨⟨k + 1, sz, lz, nr, nf, nw, by omega, rfl, rfl, rfl, by go_num, _, _, _, hQ, by omega, s0, s1, hlz, hbW⟩, rfl⟩
              case measure => simp [intOf]; omega
            · go_roundw
              case rel => (repeat apply Exists.intro); exact ⟨⟨k + 1, sz, lz, nr, nf, nw, by omega, rfl, rfl, rfl, by go_num, _, _, _, hQ, by omega, s0, s1, hlz, hbW⟩, rfl⟩
              case measure => simp [intOf]; omega
          · refine (take_committed _ _ (A k) (T k) (V k) (L k) (F k) sz _ _ _ nr nf nw _ hS h4 h1 hne hQ (by omega) s0 (by omega) l0.1 l0.2 (by omega)).mono ?_
            rintro e w3 ⟨rfl, g, cap', hQ3, hcell, hfar⟩
            obtain ⟨m0, m2, m4, m5⟩ := hO.far hfar (fun e => by have := hP.set e; omega)
            have hb3 : Below w.heap.size w w3 := hbW.trans (hfar.below hbW.size (fun j e => (hP.set e).1))
            clear hfar hO hbW hQ
            have p0 := hQ3.c0
            have p1 := hQ3.c1
            have p2 := hQ3.c2
            have p3 := hQ3.c3
            obtain ⟨y0, y1, y2⟩ := hcell
            have hg0 : ((nr : Int) + 1 == 0) = false := by simp; omega
            clear hl f0 hP hr
            by_cases hsz : 0 < sz
            · have z0 : (sz == 0) = false := by simp; omega
              have z1 : sz + L k ≤ 1048576 := by omega
              go_wp2_with (first | (go_at_call 13; go_in) | (go_at_call 14; go_in) | (go_at_call 15; go_in) | (go_at_call 17; go_in))
              have k0 := cell_regrown y0
              have k1 := cell_regrown y1
              have k2 := cell_regrown y2
              have k3 := cell_regrown m2
              have k4 := cell_regrown m4
              have k5 := cell_regrown m5
              have cE : ∀ d os, Calls Try.prog 16 #[.agg #[.int .i64 (T k), .int .u32 (L k), .bool (hasF (F k) 16)], .int .i64 (T k), .int .u32 (L k), .bool (hasF (F k) 16)] (grow (redrawn w3 d) os) fun e w'' => e = .returned (.bool true) ∧ ∃ p : Regrown, w'' = grow (redrawn w3 p.d) p.os :=
                fun d os => Calls.regrown_of (refIs_same _ _ _ _)
              refine wp_region_quiet_below (by kernel_rfl) (by kernel_rfl) ?_
              repeat (first | go_big_quiet_step (exact cE _ _) | quiet_step (exact cE _ _))
              refine wpQuiet_nil ?_
              intro _ hw'
              obtain ⟨⟨dq, osq⟩, hw''⟩ := hw'
              subst hw''
              have hbq := below_regrown w3 dq osq
              clear k0 k1 k2 k3 k4 k5 cE y0 y1 y2 m0 m2 m4 m5 p0 p1 p2 p3
              generalize grow (redrawn w3 dq) osq = w4 at hbq ⊢
              have hQ4 := hQ3.later hbq
              have hb4 : Below w.heap.size w w4 := hb3.trans (hbq.mono hb3.size)
              have p0 := hQ4.c0
              have p1 := hQ4.c1
              have p2 := hQ4.c2
              have p3 := hQ4.c3
              go_wp2_with (first | (go_at_call 13; go_in) | (go_at_call 14; go_in) | (go_at_call 15; go_in) | (go_at_call 17; go_in))
              all_goals
                go_roundw
                case rel => (repeat apply Exists.intro); exact ⟨⟨k + 1, sz + L k, false, (nr + 1), nf, nw, by omega, rfl, int_val (by omega), rfl, by go_num, _, _, _, hQ4, by omega, by omega, by omega, fun h => absurd h (by omega), hb4⟩, rfl⟩
                case measure => simp [intOf]; omega
            · have z0 : (sz == 0) = true := by simp; omega
              go_wp2_with (first | (go_at_call 13; go_in) | (go_at_call 14; go_in) | (go_at_call 15; go_in) | (go_at_call 17; go_in))
              have k0 := cell_regrown y0
              have k1 := cell_regrown y1
              have k2 := cell_regrown y2
              have k3 := cell_regrown m2
              have k4 := cell_regrown m4
              have k5 := cell_regrown m5
              have cE : ∀ d os, Calls Try.prog 16 #[.agg #[.int .i64 (T k), .int .u32 (L k), .bool (hasF (F k) 16)], .int .i64 (T k), .int .u32 (L k), .bool (hasF (F k) 16)] (grow (redrawn w3 d) os) fun e w'' => e = .returned (.bool true) ∧ ∃ p : Regrown, w'' = grow (redrawn w3 p.d) p.os :=
                fun d os => Calls.regrown_of (refIs_same _ _ _ _)
              refine wp_region_quiet_below (by kernel_rfl) (by kernel_rfl) ?_
              repeat (first | go_big_quiet_step (exact cE _ _) | quiet_step (exact cE _ _))
              refine wpQuiet_nil ?_
              intro _ hw'
              obtain ⟨⟨dq, osq⟩, hw''⟩ := hw'
              subst hw''
              have hbq := below_regrown w3 dq osq
              clear k0 k1 k2 k3 k4 k5 cE y0 y1 y2 m0 m2 m4 m5 p0 p1 p2 p3
              generalize grow (redrawn w3 dq) osq = w4 at hbq ⊢
              have hQ4 := hQ3.later hbq
              have hb4 : Below w.heap.size w w4 := hb3.trans (hbq.mono hb3.size)
              have p0 := hQ4.c0
              have p1 := hQ4.c1
              have p2 := hQ4.c2
              have p3 := hQ4.c3
              go_wp2_with (first | (go_at_call 13; go_in) | (go_at_call 14; go_in) | (go_at_call 15; go_in) | (go_at_call 17; go_in))
              all_goals
                go_roundw
                case rel => (repeat apply Exists.intro); exact ⟨⟨k + 1, sz + L k, true, (nr + 1), nf, nw, by omega, rfl, int_val (by omega), rfl, by go_num, _, _, _, hQ4, by omega, by omega, by omega, fun _ => rfl, hb4⟩, rfl⟩
                case measure => simp [intOf]; omega
        · have q4 : (bits BinOp.and .u8 (F k) 4 != 0) = false := by assumption
          have q1 : (bits BinOp.and .u8 (F k) 1 != 0) = false := by assumption
          have h4 : hasF (F k) 4 = false := (hasF_ne f0.1 f0.2).1.symm.trans q4
          have h1 : hasF (F k) 1 = false := (hasF_ne f0.1 f0.2).2.1.symm.trans q1
          obtain ⟨hQ, hO, hS, hbW⟩ := prep_slot (a := A k) (t := T k) (v := V k) (l := L k) (f := F k) hP hbe
          generalize ((wr.alloc (.cells #[.int .u64 (A k), .bool false, .int .i64 (T k), .int .u64 (V k), .int .u32 (L k), .int .u8 (F k)] 30)).alloc (.cells #[.int .i64 (T k), .int .u64 (V k), .int .u32 (L k), .int .u8 (F k)] 57)) = W at hQ hO hS hbW ⊢
          clear x0 x1 x2 x3 x4 x5 hbe
          by_cases hrej : 0 < sz ∧ 1048576 < sz + 8
          · obtain ⟨r1, r2⟩ := hrej
            refine (take_reject8 _ (A k) 2 sz _ _ (state_written _ (F k) _ hS.s3 h4 h1) rfl hQ.c3 r1 (by omega) r2).mono ?_
            rintro e w3 ⟨rfl, hw⟩
            have hw2 := hw.symm
            clear hw
            subst hw2
            have p0 := hQ.c0
            have p1 := hQ.c1
            have p2 := hQ.c2
            have p3 := hQ.c3
            have z0 : (sz == 0) = false := by simp; omega
            clear hO hl f0 hP hr
            go_wp2_with (first | (go_at_call 13; go_in) | (go_at_call 14; go_in) | (go_at_call 15; go_in) | (go_at_call 17; go_in))
            · have hz : (!lz) = true := by assumption
              have hb : 1048576 < sz := by assumption
              have := hlz.out hb
              subst this
              cases hz
            · go_roundw
              case rel => (repeat apply Exists.intro); exact ⟨⟨k + 1, sz, lz, nr, nf, nw, by omega, rfl, rfl, rfl, by go_num, _, _, _, hQ, by omega, s0, s1, hlz, hbW⟩, rfl⟩
              case measure => simp [intOf]; omega
            · go_roundw
              case rel => (repeat apply Exists.intro); exact ⟨⟨k + 1, sz, lz, nr, nf, nw, by omega, rfl, rfl, rfl, by go_num, _, _, _, hQ, by omega, s0, s1, hlz, hbW⟩, rfl⟩
              case measure => simp [intOf]; omega
          · refine (take_written _ (A k) sz 2 _ _ _ _ nr nf nw _ (state_written _ (F k) _ hS.s3 h4 h1) rfl rfl hQ (by omega) s0 (by omega) (by omega)).mono ?_
            rintro e w3 ⟨rfl, g, cap', hQ3, hcell, hfar⟩
            obtain ⟨m0, m2, m4, m5⟩ := hO.far hfar (fun e => by have := hP.set e; omega)
            have hb3 : Below w.heap.size w w3 := hbW.trans (hfar.below hbW.size (fun j e => (hP.set e).1))
            clear hfar hO hbW hQ
            have p0 := hQ3.c0
            have p1 := hQ3.c1
            have p2 := hQ3.c2
            have p3 := hQ3.c3
            have y0 := hcell
            have hg0 : ((nw : Int) + 1 == 0) = false := by simp; omega
            clear hl f0 hP hr
            by_cases hsz : 0 < sz
            · have z0 : (sz == 0) = false := by simp; omega
              have z1 : sz + 8 ≤ 1048576 := by omega
              go_wp2_with (first | (go_at_call 13; go_in) | (go_at_call 14; go_in) | (go_at_call 15; go_in) | (go_at_call 17; go_in))
              go_quiet (fail)
              have hQ4 := hQ3.later (below_drewN (Below.refl _ _) nq)
              have hb4 := below_drewN hb3 nq
              go_wp2_with (first | (go_at_call 13; go_in) | (go_at_call 14; go_in) | (go_at_call 15; go_in) | (go_at_call 17; go_in))
              all_goals
                go_roundw
                case rel => (repeat apply Exists.intro); exact ⟨⟨k + 1, sz + 8, false, nr, nf, (nw + 1), by omega, rfl, int_val (by omega), rfl, by go_num, _, _, _, hQ4, by omega, by omega, by omega, fun h => absurd h (by omega), hb4⟩, rfl⟩
                case measure => simp [intOf]; omega
            · have z0 : (sz == 0) = true := by simp; omega
              go_wp2_with (first | (go_at_call 13; go_in) | (go_at_call 14; go_in) | (go_at_call 15; go_in) | (go_at_call 17; go_in))
              go_quiet (fail)
              have hQ4 := hQ3.later (below_drewN (Below.refl _ _) nq)
              have hb4 := below_drewN hb3 nq
              go_wp2_with (first | (go_at_call 13; go_in) | (go_at_call 14; go_in) | (go_at_call 15; go_in) | (go_at_call 17; go_in))
              all_goals
                go_roundw
                case rel => (repeat apply Exists.intro); exact ⟨⟨k + 1, sz + 8, true, nr, nf, (nw + 1), by omega, rfl, int_val (by omega), rfl, by go_num, _, _, _, hQ4, by omega, by omega, by omega, fun _ => rfl, hb4⟩, rfl⟩
                case measure => simp [intOf]; omega
      · rw [hN] at x1
        go_wp2_with (first | (go_at_call 9; go_in) | (go_at_call 10; go_in) | (go_at_call 11; go_in) | (go_at_call 12; go_in))
        obtain ⟨hQ, hO, hbW⟩ := prep_nil (a := A k) (t := T k) (v := V k) (l := L k) (f := F k) hP hbe
        generalize (wr.alloc (.cells #[.int .u64 (A k), .bool true, .int .i64 (T k), .int .u64 (V k), .int .u32 (L k), .int .u8 (F k)] 30)) = W at hQ hO hbW ⊢
        clear x0 x1 x2 x3 x4 x5 hbe
        by_cases hrej : 0 < sz ∧ 1048576 < sz + 8
        · obtain ⟨r1, r2⟩ := hrej
          refine (take_reject8 _ (A k) 0 sz _ _ (state_nil _) rfl hQ.c3 r1 (by omega) r2).mono ?_
          rintro e w3 ⟨rfl, hw⟩
          have hw2 := hw.symm
          clear hw
          subst hw2
          have p0 := hQ.c0
          have p1 := hQ.c1
          have p2 := hQ.c2
          have p3 := hQ.c3
          have z0 : (sz == 0) = false := by simp; omega
          clear hO hl f0 hP hr
          go_wp2_with (first | (go_at_call 13; go_in) | (go_at_call 14; go_in) | (go_at_call 15; go_in) | (go_at_call 17; go_in))
          · have hz : (!lz) = true := by assumption
            have hb : 1048576 < sz := by assumption
            have := hlz.out hb
            subst this
            cases hz
          · go_roundw
            case rel => (repeat apply Exists.intro); exact ⟨⟨k + 1, sz, lz, nr, nf, nw, by omega, rfl, rfl, rfl, by go_num, _, _, _, hQ, by omega, s0, s1, hlz, hbW⟩, rfl⟩
            case measure => simp [intOf]; omega
          · go_roundw
            case rel => (repeat apply Exists.intro); exact ⟨⟨k + 1, sz, lz, nr, nf, nw, by omega, rfl, rfl, rfl, by go_num, _, _, _, hQ, by omega, s0, s1, hlz, hbW⟩, rfl⟩
            case measure => simp [intOf]; omega
        · refine (take_written _ (A k) sz 0 _ _ _ _ nr nf nw _ (state_nil _) rfl rfl hQ (by omega) s0 (by omega) (by omega)).mono ?_
          rintro e w3 ⟨rfl, g, cap', hQ3, hcell, hfar⟩
          obtain ⟨m0, m2, m4, m5⟩ := hO.far hfar (fun e => by have := hP.set e; omega)
          have hb3 : Below w.heap.size w w3 := hbW.trans (hfar.below hbW.size (fun j e => (hP.set e).1))
          clear hfar hO hbW hQ
          have p0 := hQ3.c0
          have p1 := hQ3.c1
          have p2 := hQ3.c2
          have p3 := hQ3.c3
          have y0 := hcell
          have hg0 : ((nw : Int) + 1 == 0) = false := by simp; omega
          clear hl f0 hP hr
          by_cases hsz : 0 < sz
          · have z0 : (sz == 0) = false := by simp; omega
            have z1 : sz + 8 ≤ 1048576 := by omega
            go_wp2_with (first | (go_at_call 13; go_in) | (go_at_call 14; go_in) | (go_at_call 15; go_in) | (go_at_call 17; go_in))
            go_quiet (fail)
            have hQ4 := hQ3.later (below_drewN (Below.refl _ _) nq)
            have hb4 := below_drewN hb3 nq
            go_wp2_with (first | (go_at_call 13; go_in) | (go_at_call 14; go_in) | (go_at_call 15; go_in) | (go_at_call 17; go_in))
            all_goals
              go_roundw
              case rel => (repeat apply Exists.intro); exact ⟨⟨k + 1, sz + 8, false, nr, nf, (nw + 1), by omega, rfl, int_val (by omega), rfl, by go_num, _, _, _, hQ4, by omega, by omega, by omega, fun h => absurd h (by omega), hb4⟩, rfl⟩
              case measure => simp [intOf]; omega
          · have z0 : (sz == 0) = true := by simp; omega
            go_wp2_with (first | (go_at_call 13; go_in) | (go_at_call 14; go_in) | (go_at_call 15; go_in) | (go_at_call 17; go_in))
            go_quiet (fail)
            have hQ4 := hQ3.later (below_drewN (Below.refl _ _) nq)
            have hb4 := below_drewN hb3 nq
            go_wp2_with (first | (go_at_call 13; go_in) | (go_at_call 14; go_in) | (go_at_call 15; go_in) | (go_at_call 17; go_in))
            all_goals
              go_roundw
              case rel => (repeat apply Exists.intro); exact ⟨⟨k + 1, sz + 8, true, nr, nf, (nw + 1), by omega, rfl, int_val (by omega), rfl, by go_num, _, _, _, hQ4, by omega, by omega, by omega, fun _ => rfl, hb4⟩, rfl⟩
              case measure => simp [intOf]; omega
    · go_wp2
      go_ret
      obtain ⟨vr, vf, vw, hP, hcnt, s0, s1, hlz, hbe⟩ := hrel
      exact ⟨rfl, hbe⟩

end Go.Proofs.Qxb6604214a
