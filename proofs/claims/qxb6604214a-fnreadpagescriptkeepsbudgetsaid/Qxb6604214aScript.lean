/-
  Seat b6604214a: the walk of FnReadPageScriptKeepsBudget.
-/
import Derived.Test.Qxb6604214aOffer
import Derived.Deep.DeepCutAuto
namespace Go.Proofs.Qxb6604214a
open Go.RowKit
open Go.Sort (grow)

theorem int_val {k : IntKind} {a b : Int} (h : a = b) : Value.int k a = Value.int k b := by rw [h]

set_option maxHeartbeats 400000 in
theorem refIs_same (t l : Int) (m : Bool) (w : World) :
    Calls Try.prog 16 #[.agg #[.int .i64 t, .int .u32 l, .bool m], .int .i64 t, .int .u32 l, .bool m] w fun e w' => e = .returned (.bool true) ∧ Below w.heap.size w w' := by
  go_enter Try.func16, Try.ntmps16
  go_wp2
  go_ret
  exact ⟨rfl, by go_grown⟩

/-- how a page answers for a slot -/
def kindOf (p : Bool) (fl : Int) : Int := if p = false then 0 else if hasF fl 4 then 1 else if hasF fl 1 then 2 else 0
def costOf (kd ln : Int) : Int := if kd = 2 then ln else 8

set_option maxHeartbeats 400000 in
theorem kind_any (p : Bool) (fl : Int) (w : World) (f0 : 0 ≤ fl) (f1 : fl ≤ 255) :
    Calls Try.prog 10 #[.bool p, .int .u8 fl] w fun e w' => ∃ kd : Int, e = .returned (.int .i64 kd) ∧ Hid (kd = kindOf p fl) ∧ w' = w := by
  obtain ⟨q4, q1, _⟩ := hasF_ne f0 f1
  cases p
  · go_enter Try.func10, Try.ntmps10
    go_wp2
    go_ret
    exact ⟨0, rfl, rfl, rfl⟩
  · cases h4 : hasF fl 4
    · rw [h4] at q4
      cases h1 : hasF fl 1
      · rw [h1] at q1
        go_enter Try.func10, Try.ntmps10
        go_wp2
        go_ret
        exact ⟨0, rfl, by unfold kindOf; simp [Hid, h4, h1], rfl⟩
      · rw [h1] at q1
        go_enter Try.func10, Try.ntmps10
        go_wp2
        go_ret
        exact ⟨2, rfl, by unfold kindOf; simp [Hid, h4, h1], rfl⟩
    · rw [h4] at q4
      go_enter Try.func10, Try.ntmps10
      go_wp2
      go_ret
      exact ⟨1, rfl, by unfold kindOf; simp [Hid, h4], rfl⟩

set_option maxHeartbeats 400000 in
theorem cost_any (kd ln : Int) (w : World) (l0 : 0 ≤ ln) (l1 : ln < 4294967296) :
    Calls Try.prog 11 #[.int .i64 kd, .int .u32 ln] w fun e w' => ∃ c : Int, e = .returned (.int .i64 c) ∧ Hid (c = costOf kd ln) ∧ w' = w := by
  by_cases h : kd = 2
  · have h' : (kd == 2) = true := by simpa using h
    have hH : Hid (kd = 2) := h
    clear h
    go_enter Try.func11, Try.ntmps11
    go_wp2
    go_ret
    exact ⟨ln, rfl, by unfold costOf; rw [if_pos hH.out]; rfl, rfl⟩
  · have h' : (kd == 2) = false := by simpa using h
    have hH : Hid (¬ kd = 2) := h
    clear h
    go_enter Try.func11, Try.ntmps11
    go_wp2
    go_ret
    exact ⟨8, rfl, by unfold costOf; rw [if_neg hH.out]; rfl, rfl⟩

/-- the slot that is offered, or none -/
def SlotRel (w : World) (pg : Nat) (hv : Value) (p : Bool) (t v l f : Int) : Prop :=
  (p = false ∧ hv = .pointer none) ∨ (p = true ∧ ∃ hb, hv = .pointer (some ⟨hb, 0, none⟩) ∧ SlotAt w hb t v l f ∧ hb ≠ pg)

/-- what a take may have done -/
def TakeRel (w w' : World) (pg : Nat) (vr vf vw : Value) (nr nf nw : Nat) (kd a t l : Int) (m : Bool) (sz cost : Int) (ok : Bool) : Prop :=
  (ok = false ∧ w' = w ∧ 0 < sz ∧ 1048576 < sz + cost) ∨
  (ok = true ∧ (sz = 0 ∨ sz + cost ≤ 1048576) ∧
    ((kd = 1 ∧ cost = 8 ∧ TookF w w' pg vr vf vw nr nf nw a (sz + 8)) ∨ (kd = 0 ∧ cost = 8 ∧ TookW w w' pg vr vf vw nr nf nw a (sz + 8)) ∨ (kd = 2 ∧ cost = l ∧ TookR w w' pg vr vf vw nr nf nw t l m (sz + l))))

theorem take_any (pg : Nat) (a t v l f sz kd cost : Int) (hv vr vf vw : Value) (p : Bool) (nr nf nw : Nat) (w : World) (hS : SlotRel w pg hv p t v l f) (hk : kd = kindOf p f) (hc : cost = costOf kd l)
    (h : PageInv w pg vr vf vw nr nf nw sz) (hr : nr ≤ 16384) (hf : nf ≤ 16384) (hw : nw ≤ 16384) (s0 : 0 ≤ sz) (s1 : sz ≤ 4296015872) (l0 : 0 ≤ l) (l1 : l < 4294967296) :
    Calls Try.prog 25 #[.pointer (some ⟨pg, 0, none⟩), .int .u64 a, hv] w fun e w' => ∃ ok : Bool, e = .returned (.bool ok) ∧ Hid (TakeRel w w' pg vr vf vw nr nf nw kd a t l (hasF f 16) sz cost ok) := by
  have key8 : ∀ st : Int, (Calls Try.prog 31 #[hv] w fun e w' => e = .returned (.int .u8 st) ∧ w' = w) → (st == 3) = false → cost = 8 → (0 < sz ∧ 1048576 < sz + 8) →
      Calls Try.prog 25 #[.pointer (some ⟨pg, 0, none⟩), .int .u64 a, hv] w fun e w' => ∃ ok : Bool, e = .returned (.bool ok) ∧ Hid (TakeRel w w' pg vr vf vw nr nf nw kd a t l (hasF f 16) sz cost ok) := by
    intro st hst h3 h8 hrej
    refine (take_reject8 pg a st sz hv w hst h3 h.c3 hrej.1 s1 hrej.2).mono ?_
    rintro e w' ⟨rfl, rfl⟩
    exact ⟨false, rfl, .inl ⟨rfl, rfl, hrej.1, by rw [h8]; exact hrej.2⟩⟩
  have keyW : ∀ st : Int, (Calls Try.prog 31 #[hv] w fun e w' => e = .returned (.int .u8 st) ∧ w' = w) → (st == 3) = false → (st == 1) = false → kd = 0 → cost = 8 → ¬ (0 < sz ∧ 1048576 < sz + 8) →
      Calls Try.prog 25 #[.pointer (some ⟨pg, 0, none⟩), .int .u64 a, hv] w fun e w' => ∃ ok : Bool, e = .returned (.bool ok) ∧ Hid (TakeRel w w' pg vr vf vw nr nf nw kd a t l (hasF f 16) sz cost ok) := by
    intro st hst h3 h1 hk0 h8 hrej
    refine (take_written pg a sz st hv vr vf vw nr nf nw w hst h3 h1 h hw s0 s1 (by omega)).mono ?_
    rintro e w' ⟨rfl, ht⟩
    exact ⟨true, rfl, .inr ⟨rfl, by omega, .inr (.inl ⟨hk0, h8, ht⟩)⟩⟩
  rcases hS with ⟨rfl, rfl⟩ | ⟨rfl, hb, rfl, hS, hne⟩
  · have hk0 : kd = 0 := hk
    have h8 : cost = 8 := by rw [hc, hk0]; rfl
    by_cases hrej : 0 < sz ∧ 1048576 < sz + 8
    · exact key8 0 (state_nil w) rfl h8 hrej
    · exact keyW 0 (state_nil w) rfl rfl hk0 h8 hrej
  · cases h4 : hasF f 4
    · cases h1 : hasF f 1
      · have hk0 : kd = 0 := by rw [hk]; unfold kindOf; simp [h4, h1]
        have h8 : cost = 8 := by rw [hc, hk0]; rfl
        by_cases hrej : 0 < sz ∧ 1048576 < sz + 8
        · exact key8 2 (state_written hb f w hS.s3 h4 h1) rfl h8 hrej
        · exact keyW 2 (state_written hb f w hS.s3 h4 h1) rfl rfl hk0 h8 hrej
      · have hk2 : kd = 2 := by rw [hk]; unfold kindOf; simp [h4, h1]
        have hcl : cost = l := by rw [hc, hk2]; rfl
        by_cases hrej : 0 < sz ∧ 1048576 < sz + l
        · refine (take_rejectC pg hb a t v l f sz w hS h4 h1 h.c3 hrej.1 s1 l0 l1 hrej.2).mono ?_
          rintro e w' ⟨rfl, rfl⟩
          exact ⟨false, rfl, .inl ⟨rfl, rfl, hrej.1, by rw [hcl]; exact hrej.2⟩⟩
        · refine (take_committed pg hb a t v l f sz vr vf vw nr nf nw w hS h4 h1 hne h hr s0 s1 l0 l1 (by omega)).mono ?_
          rintro e w' ⟨rfl, ht⟩
          exact ⟨true, rfl, .inr ⟨rfl, by omega, .inr (.inr ⟨hk2, hcl, ht⟩)⟩⟩
    · have hk1 : kd = 1 := by rw [hk]; unfold kindOf; simp [h4]
      have h8 : cost = 8 := by rw [hc, hk1]; rfl
      by_cases hrej : 0 < sz ∧ 1048576 < sz + 8
      · exact key8 1 (state_filled hb f w hS.s3 h4) rfl h8 hrej
      · refine (take_filled pg a sz _ vr vf vw nr nf nw w (state_filled hb f w hS.s3 h4) h hf s0 s1 (by omega)).mono ?_
        rintro e w' ⟨rfl, ht⟩
        exact ⟨true, rfl, .inr ⟨rfl, by omega, .inl ⟨hk1, h8, ht⟩⟩⟩

theorem prep_rel {w wr : World} {vr vf vw : Value} {nr nf nw : Nat} {sz a t v l f : Int} (hP : PageInv wr w.heap.size vr vf vw nr nf nw sz) (hbe : Below w.heap.size w wr) :
    SlotRel ((wr.alloc (.cells #[.int .u64 a, .bool false, .int .i64 t, .int .u64 v, .int .u32 l, .int .u8 f] 30)).alloc (.cells #[.int .i64 t, .int .u64 v, .int .u32 l, .int .u8 f] 57)) w.heap.size (.pointer (some ⟨wr.heap.size + 1, 0, none⟩)) true t v l f :=
  .inr ⟨rfl, _, rfl, (prep_slot hP hbe).2.2.1, by have := hbe.size; omega⟩

set_option maxRecDepth 100000 in
set_option maxHeartbeats 4000000 in
theorem script_go (b off len cap : Nat) (A : Nat → Int) (N : Nat → Bool) (T V L F : Nat → Int) (w : World) (hr : Offers w b off len A N T V L F) (hl : len ≤ 16384) :
    Calls Try.prog 3 #[.slice (some ⟨b, off, none⟩) len cap] w fun e w' => e = .returned (.bool true) ∧ Below w.heap.size w w' := by
  go_enter Try.func3, Try.ntmps3
  go_wp2
  have h0 := page_start w
  go_loopw [4, 5, 6, 7] (fun s h z i wr => ∃ (k : Nat) (sz : Int) (lz : Bool) (nr nf nw : Nat), k ≤ len ∧ s = .int .i64 sz ∧ h = .int .i64 ((nr : Int) + nf + nw) ∧ z = .bool lz ∧ i = .int .i64 k ∧ PageRel w wr k sz lz nr nf nw) (fun _ _ _ i _ => len - (intOf i).toNat)
  case atStart => exact ⟨0, 0, false, 0, 0, 0, Nat.zero_le _, rfl, rfl, rfl, rfl, h0⟩
  case round =>
    clear h0
    obtain ⟨k, sz, lz, nr, nf, nw, hk, rfl, rfl, rfl, rfl, hrel⟩ := hrel
    by_cases hlt : k < len
    · obtain ⟨vr, vf, vw, hP, hcnt, s0, s1, hlz, hbe⟩ := hrel
      obtain ⟨xr, hr'⟩ := hP.rr
      obtain ⟨ar, cr, rfl⟩ := own_form hr'
      obtain ⟨xf, hf'⟩ := hP.rf
      obtain ⟨af, cf, rfl⟩ := own_form hf'
      obtain ⟨xw, hw'⟩ := hP.rw'
      obtain ⟨aw, cw, rfl⟩ := own_form hw'
      clear hr' hf' hw'
      obtain ⟨x0, x1, x2, x3, x4, x5⟩ := offer_cells hr hbe k hlt
      have l0 := hr.l0 k hlt
      have f0 := hr.f0 k hlt
      have i1 : (0 : Int) ≤ (k : Int) := by omega
      have i2 : (k : Int) < (len : Int) := by omega
      go_upto_if 38 with (fail)
      go_cut [9] (fun h wc => SlotRel wc w.heap.size h (!(N k)) (T k) (V k) (L k) (F k) ∧ OfferAt wc wr.heap.size (A k) (T k) (L k) (F k) ∧ wc.cell? ⟨wr.heap.size, 1, none⟩ = some (.bool (N k)) ∧ PageInv wc w.heap.size (.slice ar nr cr) (.slice af nf cf) (.slice aw nw cw) nr nf nw sz ∧ Below w.heap.size w wc)
      case first =>
        cases hN : N k
        · go_wp2_with (go_at_call 9; go_in)
          go_meet
          case rel =>
            obtain ⟨hQ, hO, _, hbW⟩ := prep_slot (a := A k) (t := T k) (v := V k) (l := L k) (f := F k) hP hbe
            exact ⟨by rw [hN]; exact prep_rel hP hbe, hO, by simp [hN], hQ, hbW⟩
        · go_wp2
          go_meet
          case rel =>
            obtain ⟨hQ, hO, hbW⟩ := prep_nil (a := A k) (t := T k) (v := V k) (l := L k) (f := F k) hP hbe
            exact ⟨.inl ⟨by rw [hN]; rfl, rfl⟩, hO, by simp [hN], hQ, hbW⟩
      case rest =>
        clear x0 x1 x2 x3 x4 x5 hbe
        obtain ⟨W, hWe⟩ : ∃ W, W = wc := ⟨_, rfl⟩
        subst hWe
        obtain ⟨hS, hO, ho1, hQ, hbW⟩ := hcut
        have o0 := hO.o0
        have o4 := hO.o4
        have o5 := hO.o5
        go_upto_region 20 with (first | (go_at_call 10; refine (kind_any _ _ _ f0.1 f0.2).mono ?_; rintro e w' ⟨kd, rfl, hkd, hw⟩; have hw2 := hw.symm; clear hw; subst hw2) | (go_at_call 11; refine (cost_any _ _ _ l0.1 l0.2).mono ?_; rintro e w' ⟨cost, rfl, hcost, hw⟩; have hw2 := hw.symm; clear hw; subst hw2))
        go_cut [12] (fun o wx => ∃ ok : Bool, o = .bool ok ∧ Hid (TakeRel W wx w.heap.size (.slice ar nr cr) (.slice af nf cf) (.slice aw nw cw) nr nf nw kd (A k) (T k) (L k) (hasF (F k) 16) sz cost ok))
        case first =>
          go_wp2_with (first | (go_at_call 12; go_in) | (go_at_call 25; refine (take_any _ _ (T k) (V k) (L k) (F k) sz kd cost _ _ _ _ (!(N k)) nr nf nw _ hS hkd.out hcost.out hQ (by omega) (by omega) (by omega) s0 (by omega) l0.1 l0.2).mono ?_; rintro e w3 ⟨ok, rfl, hT⟩))
          go_meet
          case rel => exact ⟨ok, rfl, hT⟩
        case rest =>
          obtain ⟨ok, rfl, hT⟩ := hcut
          clear o0 o4 o5 ho1 hS
          obtain ⟨w3, hWe⟩ : ∃ w3, w3 = wc := ⟨_, rfl⟩
          subst hWe
          rcases hT.out with ⟨rfl, hw3, r0, r1⟩ | ⟨rfl, hfit, hT3⟩
          · clear hT
            have hw2 := hw3.symm
            clear hw3
            subst hw2
            have p0 := hQ.c0
            have p1 := hQ.c1
            have p2 := hQ.c2
            have p3 := hQ.c3
            have z0 : (sz == 0) = false := by simp; omega
            have cc : 0 ≤ cost ∧ cost ≤ 4294967295 := by
              rw [hcost.out]
              unfold costOf
              split <;> omega
            clear hO hl f0 hP hr hkd hcost
            go_wp2_with (first | (go_at_call 13; go_in) | (go_at_call 14; go_in) | (go_at_call 15; go_in) | (go_at_call 17; go_in))
            · have hz : (!lz) = true := by assumption
              have hb : 1048576 < sz := by assumption
              have := hlz.out hb
              subst this
              cases hz
            · go_roundw
              case rel => (repeat apply Exists.intro); exact ⟨⟨k + 1, sz, lz, nr, nf, nw, by omega, rfl, rfl, rfl, by go_num, _, _, _, hQ, by omega, s0, s1, hlz, hbW⟩, rfl⟩
              case measure => simp [intOf]; omega
            · go_roundw
              case rel => (repeat apply Exists.intro); exact ⟨⟨k + 1, sz, lz, nr, nf, nw, by omega, rfl, rfl, rfl, by go_num, _, _, _, hQ, by omega, s0, s1, hlz, hbW⟩, rfl⟩
              case measure => simp [intOf]; omega
          · clear hT
            go_step
            go_step
            go_cut [12] (fun o wx => o = .bool true ∧ wx = w3)
            case first =>
              by_cases hs0 : sz = 0
              · have z0 : (sz == 0) = true := by simpa using hs0
                have hs0' : Hid (sz = 0) := hs0
                clear hs0
                go_wp2
                go_meet
                case rel => exact ⟨rfl, rfl⟩
              · have z0 : (sz == 0) = false := by simpa using hs0
                clear hs0
                go_wp2
                go_meet
                case rel => exact ⟨rfl, rfl⟩
            case rest =>
              obtain ⟨rfl, hw3⟩ := hcut
              have hw4 := hw3.symm
              clear hw3
              subst hw4
              go_upto_if 77 with (fail)
              go_cut [4, 5, 6] (fun s h z wx => ∃ (sz' : Int) (lz' : Bool) (nr' nf' nw' : Nat), s = .int .i64 sz' ∧ h = .int .i64 ((nr' : Int) + nf' + nw') ∧ z = .bool lz' ∧ PageRel w wx (k + 1) sz' lz' nr' nf' nw')
              case first =>
                rcases hT3 with ⟨rfl, rfl, hTook⟩ | ⟨rfl, rfl, hTook⟩ | ⟨rfl, rfl, hTook⟩
                · obtain ⟨g, cap', hQ3, hcell, hfar⟩ := hTook
                  obtain ⟨m0, m2, m4, m5⟩ := hO.far hfar (fun e => by have := hP.set e; omega)
                  have hb3 : Below w.heap.size w w3 := hbW.trans (hfar.below hbW.size (fun j e => (hP.set e).1))
                  have p0 := hQ3.c0
                  have p1 := hQ3.c1
                  have p2 := hQ3.c2
                  have p3 := hQ3.c3
                  have y0 := hcell
                  have hg0 : ((nf : Int) + 1 == 0) = false := by simp; omega
                  clear hfar hO
                  go_wp2_with (first | (go_at_call 13; go_in) | (go_at_call 14; go_in) | (go_at_call 15; go_in) | (go_at_call 17; go_in))
                  go_quiet (fail)
                  have hQ4 := hQ3.later (below_drewN (Below.refl _ _) nq)
                  have hb4 := below_drewN hb3 nq
                  go_wp2_with (first | (go_at_call 13; go_in) | (go_at_call 14; go_in) | (go_at_call 15; go_in) | (go_at_call 17; go_in))
                  go_meet
                  case rel => exact ⟨sz + 8, (sz == 0), nr, (nf + 1), nw, rfl, int_val (by omega), rfl, _, _, _, hQ4, by omega, by omega, by omega, fun h => by simp; omega, hb4⟩
                · obtain ⟨g, cap', hQ3, hcell, hfar⟩ := hTook
                  obtain ⟨m0, m2, m4, m5⟩ := hO.far hfar (fun e => by have := hP.set e; omega)
                  have hb3 : Below w.heap.size w w3 := hbW.trans (hfar.below hbW.size (fun j e => (hP.set e).1))
                  have p0 := hQ3.c0
                  have p1 := hQ3.c1
                  have p2 := hQ3.c2
                  have p3 := hQ3.c3
                  have y0 := hcell
                  have hg0 : ((nw : Int) + 1 == 0) = false := by simp; omega
                  clear hfar hO
                  go_wp2_with (first | (go_at_call 13; go_in) | (go_at_call 14; go_in) | (go_at_call 15; go_in) | (go_at_call 17; go_in))
                  go_quiet (fail)
                  have hQ4 := hQ3.later (below_drewN (Below.refl _ _) nq)
                  have hb4 := below_drewN hb3 nq
                  go_wp2_with (first | (go_at_call 13; go_in) | (go_at_call 14; go_in) | (go_at_call 15; go_in) | (go_at_call 17; go_in))
                  go_meet
                  case rel => exact ⟨sz + 8, (sz == 0), nr, nf, (nw + 1), rfl, int_val (by omega), rfl, _, _, _, hQ4, by omega, by omega, by omega, fun h => by simp; omega, hb4⟩
                · obtain ⟨g, cap', hQ3, hcell, hfar⟩ := hTook
                  obtain ⟨m0, m2, m4, m5⟩ := hO.far hfar (fun e => by have := hP.set e; omega)
                  have hb3 : Below w.heap.size w w3 := hbW.trans (hfar.below hbW.size (fun j e => (hP.set e).1))
                  have p0 := hQ3.c0
                  have p1 := hQ3.c1
                  have p2 := hQ3.c2
                  have p3 := hQ3.c3
                  obtain ⟨y0, y1, y2⟩ := hcell
                  have hg0 : ((nr : Int) + 1 == 0) = false := by simp; omega
                  clear hfar hO
                  go_wp2_with (first | (go_at_call 13; go_in) | (go_at_call 14; go_in) | (go_at_call 15; go_in) | (go_at_call 17; go_in))
                  have q16 : (bits BinOp.and .u8 (F k) 16 != 0) = hasF (F k) 16 := (hasF_ne f0.1 f0.2).2.2
                  have k0 := cell_regrown y0
                  have k1 := cell_regrown y1
                  have k2 := cell_regrown y2
                  have k3 := cell_regrown m2
                  have k4 := cell_regrown m4
                  have k5 := cell_regrown m5
                  have cE : ∀ d os, Calls Try.prog 16 #[.agg #[.int .i64 (T k), .int .u32 (L k), .bool (hasF (F k) 16)], .int .i64 (T k), .int .u32 (L k), .bool (hasF (F k) 16)] (grow (redrawn w3 d) os) fun e w'' => e = .returned (.bool true) ∧ ∃ p : Regrown, w'' = grow (redrawn w3 p.d) p.os :=
                    fun d os => Calls.regrown_of (refIs_same _ _ _ _)
                  refine wp_region_quiet_below (by kernel_rfl) (by kernel_rfl) ?_
                  repeat (first | go_big_quiet_step (exact cE _ _) | quiet_step (exact cE _ _))
                  refine wpQuiet_nil ?_
                  intro _ hw'
                  obtain ⟨⟨dq, osq⟩, hw''⟩ := hw'
                  subst hw''
                  have hbq := below_regrown w3 dq osq
                  clear k0 k1 k2 k3 k4 k5 cE y0 y1 y2 m0 m2 m4 m5 p0 p1 p2 p3
                  generalize grow (redrawn w3 dq) osq = w4 at hbq ⊢
                  have hQ4 := hQ3.later hbq
                  have hb4 : Below w.heap.size w w4 := hb3.trans (hbq.mono hb3.size)
                  go_wp2_with (first | (go_at_call 13; go_in) | (go_at_call 14; go_in) | (go_at_call 15; go_in) | (go_at_call 17; go_in))
                  go_meet
                  case rel => exact ⟨sz + L k, (sz == 0), (nr + 1), nf, nw, rfl, int_val (by omega), rfl, _, _, _, hQ4, by omega, by omega, by omega, fun h => by simp; omega, hb4⟩
              case rest =>
                obtain ⟨sz', lz', nr', nf', nw', rfl, rfl, rfl, hrel'⟩ := hcut
                obtain ⟨vr', vf', vw', hQ4, hcnt', s0', s1', hlz', hb4⟩ := hrel'
                obtain ⟨xr', hr''⟩ := hQ4.rr
                obtain ⟨ar', cr', rfl⟩ := own_form hr''
                obtain ⟨xf', hf''⟩ := hQ4.rf
                obtain ⟨af', cf', rfl⟩ := own_form hf''
                obtain ⟨xw', hw''⟩ := hQ4.rw'
                obtain ⟨aw', cw', rfl⟩ := own_form hw''
                clear hr'' hf'' hw''
                have p0 := hQ4.c0
                have p1 := hQ4.c1
                have p2 := hQ4.c2
                have p3 := hQ4.c3
                clear hO hT3 f0 hP hr hkd hcost hQ hbW
                go_wp2_with (first | (go_at_call 13; go_in) | (go_at_call 14; go_in) | (go_at_call 15; go_in) | (go_at_call 17; go_in))
                · have hz : (!lz') = true := by assumption
                  have hb : 1048576 < sz' := by assumption
                  have := hlz'.out hb
                  subst this
                  cases hz
                · go_roundw
                  case rel => (repeat apply Exists.intro); exact ⟨⟨k + 1, sz', lz', nr', nf', nw', by omega, rfl, rfl, rfl, by go_num, _, _, _, hQ4, by omega, s0', s1', hlz', hb4⟩, rfl⟩
                  case measure => simp [intOf]; omega
                · go_roundw
                  case rel => (repeat apply Exists.intro); exact ⟨⟨k + 1, sz', lz', nr', nf', nw', by omega, rfl, rfl, rfl, by go_num, _, _, _, hQ4, by omega, s0', s1', hlz', hb4⟩, rfl⟩
                  case measure => simp [intOf]; omega
    · go_wp2
      go_ret
      obtain ⟨vr, vf, vw, hP, hcnt, s0, s1, hlz, hbe⟩ := hrel
      exact ⟨rfl, hbe⟩

end Go.Proofs.Qxb6604214a
