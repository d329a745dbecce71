/-
  Seat b6604238a: the walk of isJSONNumber.
-/
import Derived.Test.Qxb6604238aAut
import Derived.Deep.DeepCutAuto
import Derived.Deep.CutBlock
namespace Go.Proofs.Qxb6604238a
open Go.RowKit Json

/-- digits keep a state that digits keep -/
theorem st_digits (s : ByteArray) (q : Int) (i d : Nat) (h : stJ s i = q) (hq : ∀ c, 48 ≤ c → c ≤ 57 → stepJ q c = q) :
    i + d ≤ s.size → (∀ k, i ≤ k → k < i + d → (h' : k < s.size) → 48 ≤ ((s[k]).toNat : Int) ∧ ((s[k]).toNat : Int) ≤ 57) → stJ s (i + d) = q := by
  induction d with
  | zero => intro _ _; exact h
  | succ d ih =>
    intro hle hd
    have h1 := ih (by omega) (fun k a b c => hd k a (by omega) c)
    have h2 := hd (i + d) (by omega) (by omega) (by omega)
    rw [show i + (d + 1) = i + d + 1 by omega, st_succ s (i + d) (by omega), h1]
    exact hq _ h2.1 h2.2

/-- .. the first of them leads into it -/
theorem st_digits1 (s : ByteArray) (p q : Int) (i j : Nat) (h : stJ s i = p) (hij : i < j) (hd : digEnd s i j) (hp : (h' : i < s.size) → stepJ p ((s[i]).toNat : Int) = q) (hq : ∀ c, 48 ≤ c → c ≤ 57 → stepJ q c = q) : stJ s j = q := by
  obtain ⟨_, h2, h3, _⟩ := hd
  have hi : i < s.size := by omega
  have h1 : stJ s (i + 1) = q := by rw [st_succ s i hi, h, hp hi]
  have := st_digits s q (i + 1) (j - (i + 1)) h1 hq (by omega) (fun k a b c => h3 k (by omega) (by omega) c)
  rwa [show i + 1 + (j - (i + 1)) = j by omega] at this

theorem keep3 (c : Int) (h : 48 ≤ c) (h' : c ≤ 57) : stepJ 3 c = 3 := by unfold stepJ; simp [h, h']
theorem keep5 (c : Int) (h : 48 ≤ c) (h' : c ≤ 57) : stepJ 5 c = 5 := by unfold stepJ; simp [h, h']
theorem keep8 (c : Int) (h : 48 ≤ c) (h' : c ≤ 57) : stepJ 8 c = 8 := by unfold stepJ; simp [h, h']
theorem step0_zero {q : Int} (hq : q = 0 ∨ q = 1) : stepJ q 48 = 2 := by rcases hq with rfl | rfl <;> rfl
theorem step0_dig {q c : Int} (hq : q = 0 ∨ q = 1) (h : 49 ≤ c) (h' : c ≤ 57) : stepJ q c = 3 := by
  rcases hq with rfl | rfl <;> (unfold stepJ; simp; omega)
theorem step0_dead {q c : Int} (hq : q = 0 ∨ q = 1) (h0 : q = 0 → c ≠ 45) (h : c < 48 ∨ 57 < c) : stepJ q c = -1 := by
  rcases hq with rfl | rfl
  · have := h0 rfl; unfold stepJ; simp; omega
  · unfold stepJ; simp; omega

theorem acc01 {q : Int} (hq : q = 0 ∨ q = 1) : accJ q = false := by rcases hq with rfl | rfl <;> rfl
theorem acc235 {q : Int} (hq : q = 2 ∨ q = 3 ∨ q = 5) : accJ q = true := by rcases hq with rfl | rfl | rfl <;> rfl
theorem step_dot {q : Int} (hq : q = 2 ∨ q = 3) : stepJ q 46 = 4 := by rcases hq with rfl | rfl <;> rfl
theorem step_exp {q c : Int} (hq : q = 2 ∨ q = 3 ∨ q = 5) (h : c = 101 ∨ c = 69) : stepJ q c = 6 := by
  rcases hq with rfl | rfl | rfl <;> rcases h with rfl | rfl <;> rfl
theorem step4 {c : Int} (h : 48 ≤ c) (h' : c ≤ 57) : stepJ 4 c = 5 := by unfold stepJ; simp [h, h']
theorem step4_dead {c : Int} (h : ¬ (48 ≤ c ∧ c ≤ 57)) : stepJ 4 c = -1 := by unfold stepJ; simp [h]
theorem step6_sign {c : Int} (h : c = 43 ∨ c = 45) : stepJ 6 c = 7 := by rcases h with rfl | rfl <;> rfl
theorem step67 {q c : Int} (hq : q = 6 ∨ q = 7) (h : 48 ≤ c) (h' : c ≤ 57) : stepJ q c = 8 := by
  rcases hq with rfl | rfl <;> (unfold stepJ; simp; omega)
theorem step67_dead {q c : Int} (hq : q = 6 ∨ q = 7) (h6 : q = 6 → c ≠ 43 ∧ c ≠ 45) (h : ¬ (48 ≤ c ∧ c ≤ 57)) : stepJ q c = -1 := by
  rcases hq with rfl | rfl
  · have := h6 rfl; unfold stepJ; simp; omega
  · unfold stepJ; simp; omega
theorem step8_dead {c : Int} (h : ¬ (48 ≤ c ∧ c ≤ 57)) : stepJ 8 c = -1 := by unfold stepJ; simp [h]
theorem step235_dead {q c : Int} (hq : q = 2 ∨ q = 3 ∨ q = 5) (hd : q ≠ 2 → ¬ (48 ≤ c ∧ c ≤ 57)) (hp : q ≠ 5 → c ≠ 46) (he : c ≠ 101) (he' : c ≠ 69) : stepJ q c = -1 := by
  rcases hq with rfl | rfl | rfl
  · have := hp (by omega); unfold stepJ; simp [*]
  · have := hp (by omega); have := hd (by omega); unfold stepJ; simp [*]
  · have := hd (by omega); unfold stepJ; simp [*]

theorem eq_yes {a b : Int} (h : (a == b) = true) : a = b := by simpa using h
theorem eq_no {a b : Int} (h : (a == b) = false) : ¬ a = b := by simpa using h

/-- the digits from a place that the walk has reckoned -/
theorem digits_at (s : ByteArray) (tb i : Nat) (x : Int) (w : World) (hs : s.size ≤ 1048576 + 256) (hx : x = (i : Int)) (hi : i ≤ s.size) (ht : w.cell? ⟨tb, 0, none⟩ = some (.string s)) :
    Calls Try.prog 23 #[.int .i64 x, .pointer (some ⟨tb, 0, none⟩)] w fun e w' => ∃ j : Nat, e = .returned (.int .i64 j) ∧ Hid (digEnd s i j) ∧ w' = w := by
  subst hx
  exact digits_any s tb i w hs hi ht

/-- behind the exponent's letter (and its sign): digits, and what they lead to -/
theorem exp_ok {s : ByteArray} {q : Int} {i j : Nat} (hq : q = 6 ∨ q = 7) (hst : stJ s i = q) (hd : digEnd s i j) (hij : i < j) : stJ s j = 8 :=
  st_digits1 s q 8 i j hst hij hd (fun h => by have := hd.2.2.1 i (Nat.le_refl _) hij h; exact step67 hq this.1 this.2) keep8
theorem exp_bad {s : ByteArray} {q : Int} {i j : Nat} (hq : q = 6 ∨ q = 7) (hst : stJ s i = q) (h6 : q = 6 → (h : i < s.size) → ((s[i]).toNat : Int) ≠ 43 ∧ ((s[i]).toNat : Int) ≠ 45) (hd : digEnd s i j) (hij : ¬ i < j) : jn s = false := by
  obtain ⟨h1, h2, h3, h4⟩ := hd
  have : i = j := by omega
  subst this
  exact jn_false s i q hst h2 (by rcases hq with rfl | rfl <;> rfl) (fun h => step67_dead hq (fun e => h6 e h) (h4 h))

set_option maxRecDepth 100000 in
set_option maxHeartbeats 4000000 in
theorem isJson_any (s : ByteArray) (w : World) (hs : s.size ≤ 1048576 + 256) :
    Calls Try.prog 19 #[.string s] w fun e w' => e = .returned (.bool (jn s)) ∧ Below w.heap.size w w' := by
  go_enter Try.func19, Try.ntmps19
  by_cases h0 : 0 < s.size
  · go_upto_if 17 with (fail)
    go_cut [4] (fun i wc => ∃ (k : Nat) (q : Int), i = .int .i64 k ∧ k ≤ s.size ∧ (q = 0 ∨ q = 1) ∧ Hid (stJ s k = q) ∧ Hid (q = 0 → (h : k < s.size) → ((s[k]).toNat : Int) ≠ 45) ∧ wc.cell? ⟨w.heap.size, 0, none⟩ = some (.string s) ∧ Below w.heap.size w wc)
    case first =>
      by_cases hm : ((s[0]).toNat : Int) = 45
      · have hst1 : Hid (stJ s 1 = 1) := by show stJ s (0 + 1) = 1; rw [st_succ s 0 h0, st_zero, hm]; rfl
        go_wp2
        go_meet
        case rel => exact ⟨1, 1, rfl, by omega, .inr rfl, hst1, fun h => absurd h (by omega), by simp, (Below.refl _ _).alloc (Nat.le_refl _) _⟩
      · go_wp2
        go_meet
        case rel => exact ⟨0, 0, rfl, by omega, .inl rfl, st_zero s, fun _ _ => hm, by simp, (Below.refl _ _).alloc (Nat.le_refl _) _⟩
    case rest =>
      clear h0
      obtain ⟨k, q, rfl, hk, hq, hst, hnm, ht, hbe⟩ := hcut
      go_step
      go_step
      go_cut [4] (fun i wc => ∃ (k : Nat) (q : Int), i = .int .i64 k ∧ k ≤ s.size ∧ Hid ((q = 2 ∨ q = 3) ∧ stJ s k = q ∧ (q ≠ 2 → (h : k < s.size) → ¬ (48 ≤ ((s[k]).toNat : Int) ∧ ((s[k]).toNat : Int) ≤ 57))) ∧ wc.cell? ⟨w.heap.size, 0, none⟩ = some (.string s) ∧ Below w.heap.size w wc)
      case first =>
        by_cases hlt : k < s.size
        · by_cases hz : ((s[k]).toNat : Int) = 48
          · have h2 : Hid (stJ s (k + 1) = 2) := by show stJ s (k + 1) = 2; rw [st_succ s k hlt, hst.out, hz]; exact step0_zero hq
            go_wp2
            go_meet
            case rel => exact ⟨k + 1, 2, by go_num, by omega, ⟨.inl rfl, h2, fun h => absurd rfl h⟩, ht, hbe⟩
          · by_cases hd : 49 ≤ ((s[k]).toNat : Int) ∧ ((s[k]).toNat : Int) ≤ 57
            · obtain ⟨d1, d2⟩ := hd
              go_wp2_with (go_at_call 23; refine (digits_any s _ k _ hs hk ht).mono ?_; rintro e w' ⟨j, rfl, hj, hw⟩; have hw2 := hw.symm; clear hw; subst hw2)
              go_meet
              case rel =>
                have hjk : k < j := by
                  obtain ⟨a, b, c, d⟩ := hj.out
                  rcases Nat.lt_or_eq_of_le a with h | h
                  · exact h
                  · subst h; exact absurd ⟨by omega, by omega⟩ (d hlt)
                exact ⟨j, 3, rfl, hj.out.2.1, ⟨.inr rfl, st_digits1 s q 3 k j hst.out hjk hj.out (fun _ => step0_dig hq d1 d2) keep3, fun _ => hj.out.2.2.2⟩, ht, hbe⟩
            · have hj : Hid (jn s = false) := jn_false s k q hst.out hk (acc01 hq) (fun h => step0_dead hq (fun e => hnm.out e h) (by omega))
              have hd' : ¬ 49 ≤ ((s[k]).toNat : Int) ∨ ¬ ((s[k]).toNat : Int) ≤ 57 := by omega
              clear hd
              rcases hd' with hd | hd
              · go_wp2
                go_ret
                exact ⟨ret_bool hj.out.symm, hbe⟩
              · have hd2 : 49 ≤ ((s[k]).toNat : Int) := by omega
                go_wp2
                go_ret
                exact ⟨ret_bool hj.out.symm, hbe⟩
        · have hj : Hid (jn s = false) := jn_false s k q hst.out hk (acc01 hq) (fun h => absurd h hlt)
          go_wp2
          go_ret
          exact ⟨ret_bool hj.out.symm, hbe⟩
      case rest =>
        clear hst hq hnm ht hbe hk
        obtain ⟨k, q, rfl, hk, hst, ht, hbe⟩ := hcut
        go_step
        go_step
        go_cut [4] (fun i wc => ∃ (k : Nat) (q : Int), i = .int .i64 k ∧ k ≤ s.size ∧ Hid ((q = 2 ∨ q = 3 ∨ q = 5) ∧ stJ s k = q ∧ (q ≠ 2 → (h : k < s.size) → ¬ (48 ≤ ((s[k]).toNat : Int) ∧ ((s[k]).toNat : Int) ≤ 57)) ∧ (q ≠ 5 → (h : k < s.size) → ((s[k]).toNat : Int) ≠ 46)) ∧ wc.cell? ⟨w.heap.size, 0, none⟩ = some (.string s) ∧ Below w.heap.size w wc)
        case first =>
          by_cases hlt : k < s.size
          · by_cases hd : ((s[k]).toNat : Int) = 46
            · have h4 : Hid (stJ s (k + 1) = 4) := by show stJ s (k + 1) = 4; rw [st_succ s k hlt, hst.out.2.1, hd]; exact step_dot hst.out.1
              go_wp2_with (go_at_call 23; refine (digits_at s _ (k + 1) _ _ hs (by omega) (by omega) ht).mono ?_; rintro e w' ⟨j, rfl, hj, hw⟩; have hw2 := hw.symm; clear hw; subst hw2)
              · go_meet
                case rel => exact ⟨j, 5, rfl, hj.out.2.1, ⟨.inr (.inr rfl), st_digits1 s 4 5 (k + 1) j h4.out (by omega) hj.out (fun h => by have := hj.out.2.2.1 (k + 1) (Nat.le_refl _) (by omega) h; exact step4 this.1 this.2) keep5, fun _ => hj.out.2.2.2, fun h => absurd rfl h⟩, ht, hbe⟩
              · go_ret
                refine ⟨ret_bool ?_, hbe⟩
                have hjk : k + 1 = j := by have := hj.out.1; omega
                subst hjk
                exact (jn_false s (k + 1) 4 h4.out hj.out.2.1 rfl (fun h => step4_dead (hj.out.2.2.2 h))).symm
            · go_wp2
              go_meet
              case rel => exact ⟨k, q, rfl, hk, ⟨by rcases hst.out.1 with h | h <;> simp [h], hst.out.2.1, hst.out.2.2, fun _ _ => hd⟩, ht, hbe⟩
          · go_wp2
            go_meet
            case rel => exact ⟨k, q, rfl, hk, ⟨by rcases hst.out.1 with h | h <;> simp [h], hst.out.2.1, hst.out.2.2, fun _ h => absurd h hlt⟩, ht, hbe⟩
        case rest =>
          clear hst ht hbe hk
          obtain ⟨k, q, rfl, hk, hst, ht, hbe⟩ := hcut
          go_step
          go_step
          go_cut [4] (fun i wc => ∃ (k : Nat) (q : Int), i = .int .i64 k ∧ k ≤ s.size ∧ Hid (accJ q = true ∧ stJ s k = q ∧ ((h : k < s.size) → stepJ q ((s[k]).toNat : Int) = -1)) ∧ wc.cell? ⟨w.heap.size, 0, none⟩ = some (.string s) ∧ Below w.heap.size w wc)
          case first =>
            by_cases hlt : k < s.size
            · by_cases hE : ((s[k]).toNat : Int) = 101
              · have h6 : Hid (stJ s (k + 1) = 6) := by show stJ s (k + 1) = 6; rw [st_succ s k hlt, hst.out.2.1, hE]; exact step_exp hst.out.1 (by omega)
                by_cases hlt2 : k + 1 < s.size
                · by_cases hp : ((s[k + 1]).toNat : Int) = 43
                  · have h6 : Hid (stJ s (k + 1 + 1) = 7) := by show stJ s (k + 1 + 1) = 7; rw [st_succ s (k + 1) hlt2, h6.out, hp]; exact step6_sign (by omega)
                    go_wp2_with (go_at_call 23; refine (digits_at s _ (k + 1 + 1) _ _ hs (by omega) (by omega) ht).mono ?_; rintro e w' ⟨j, rfl, hj, hw⟩; have hw2 := hw.symm; clear hw; subst hw2)
                    · go_ret
                      exact ⟨ret_bool (exp_bad (.inr rfl) h6.out (fun e => absurd e (by omega)) hj.out (by have h2 := eq_yes (show ((j : Int) == (k : Int) + 1 + 1) = true by assumption); omega)).symm, hbe⟩
                    · go_meet
                      case rel => exact ⟨j, 8, rfl, hj.out.2.1, ⟨rfl, exp_ok (.inr rfl) h6.out hj.out (by have h1 := hj.out.1; have h2 := eq_no (show ((j : Int) == (k : Int) + 1 + 1) = false by assumption); omega), fun h => step8_dead (hj.out.2.2.2 h)⟩, ht, hbe⟩
                  · have hp' : (((s[k + 1]).toNat : Int) == 43) = false := by simpa using hp
                    by_cases hmi : ((s[k + 1]).toNat : Int) = 45
                    · have h6 : Hid (stJ s (k + 1 + 1) = 7) := by show stJ s (k + 1 + 1) = 7; rw [st_succ s (k + 1) hlt2, h6.out, hmi]; exact step6_sign (by omega)
                      go_wp2_with (go_at_call 23; refine (digits_at s _ (k + 1 + 1) _ _ hs (by omega) (by omega) ht).mono ?_; rintro e w' ⟨j, rfl, hj, hw⟩; have hw2 := hw.symm; clear hw; subst hw2)
                      · go_ret
                        exact ⟨ret_bool (exp_bad (.inr rfl) h6.out (fun e => absurd e (by omega)) hj.out (by have h2 := eq_yes (show ((j : Int) == (k : Int) + 1 + 1) = true by assumption); omega)).symm, hbe⟩
                      · go_meet
                        case rel => exact ⟨j, 8, rfl, hj.out.2.1, ⟨rfl, exp_ok (.inr rfl) h6.out hj.out (by have h1 := hj.out.1; have h2 := eq_no (show ((j : Int) == (k : Int) + 1 + 1) = false by assumption); omega), fun h => step8_dead (hj.out.2.2.2 h)⟩, ht, hbe⟩
                    · have hmi' : (((s[k + 1]).toNat : Int) == 45) = false := by simpa using hmi
                      go_wp2_with (go_at_call 23; refine (digits_at s _ (k + 1) _ _ hs (by omega) (by omega) ht).mono ?_; rintro e w' ⟨j, rfl, hj, hw⟩; have hw2 := hw.symm; clear hw; subst hw2)
                      · go_ret
                        exact ⟨ret_bool (exp_bad (.inl rfl) h6.out (fun _ h => ⟨hp, hmi⟩) hj.out (by have h2 := eq_yes (show ((j : Int) == (k : Int) + 1) = true by assumption); omega)).symm, hbe⟩
                      · go_meet
                        case rel => exact ⟨j, 8, rfl, hj.out.2.1, ⟨rfl, exp_ok (.inl rfl) h6.out hj.out (by have h1 := hj.out.1; have h2 := eq_no (show ((j : Int) == (k : Int) + 1) = false by assumption); omega), fun h => step8_dead (hj.out.2.2.2 h)⟩, ht, hbe⟩
                · go_wp2_with (go_at_call 23; refine (digits_at s _ (k + 1) _ _ hs (by omega) (by omega) ht).mono ?_; rintro e w' ⟨j, rfl, hj, hw⟩; have hw2 := hw.symm; clear hw; subst hw2)
                  · go_ret
                    exact ⟨ret_bool (exp_bad (.inl rfl) h6.out (fun _ h => absurd h hlt2) hj.out (by have h2 := eq_yes (show ((j : Int) == (k : Int) + 1) = true by assumption); omega)).symm, hbe⟩
                  · go_meet
                    case rel => exact ⟨j, 8, rfl, hj.out.2.1, ⟨rfl, exp_ok (.inl rfl) h6.out hj.out (by have h1 := hj.out.1; have h2 := eq_no (show ((j : Int) == (k : Int) + 1) = false by assumption); omega), fun h => step8_dead (hj.out.2.2.2 h)⟩, ht, hbe⟩
              · have hE' : (((s[k]).toNat : Int) == 101) = false := by simpa using hE
                by_cases hF : ((s[k]).toNat : Int) = 69
                · have h6 : Hid (stJ s (k + 1) = 6) := by show stJ s (k + 1) = 6; rw [st_succ s k hlt, hst.out.2.1, hF]; exact step_exp hst.out.1 (by omega)
                  by_cases hlt2 : k + 1 < s.size
                  · by_cases hp : ((s[k + 1]).toNat : Int) = 43
                    · have h6 : Hid (stJ s (k + 1 + 1) = 7) := by show stJ s (k + 1 + 1) = 7; rw [st_succ s (k + 1) hlt2, h6.out, hp]; exact step6_sign (by omega)
                      go_wp2_with (go_at_call 23; refine (digits_at s _ (k + 1 + 1) _ _ hs (by omega) (by omega) ht).mono ?_; rintro e w' ⟨j, rfl, hj, hw⟩; have hw2 := hw.symm; clear hw; subst hw2)
                      · go_ret
                        exact ⟨ret_bool (exp_bad (.inr rfl) h6.out (fun e => absurd e (by omega)) hj.out (by have h2 := eq_yes (show ((j : Int) == (k : Int) + 1 + 1) = true by assumption); omega)).symm, hbe⟩
                      · go_meet
                        case rel => exact ⟨j, 8, rfl, hj.out.2.1, ⟨rfl, exp_ok (.inr rfl) h6.out hj.out (by have h1 := hj.out.1; have h2 := eq_no (show ((j : Int) == (k : Int) + 1 + 1) = false by assumption); omega), fun h => step8_dead (hj.out.2.2.2 h)⟩, ht, hbe⟩
                    · have hp' : (((s[k + 1]).toNat : Int) == 43) = false := by simpa using hp
                      by_cases hmi : ((s[k + 1]).toNat : Int) = 45
                      · have h6 : Hid (stJ s (k + 1 + 1) = 7) := by show stJ s (k + 1 + 1) = 7; rw [st_succ s (k + 1) hlt2, h6.out, hmi]; exact step6_sign (by omega)
                        go_wp2_with (go_at_call 23; refine (digits_at s _ (k + 1 + 1) _ _ hs (by omega) (by omega) ht).mono ?_; rintro e w' ⟨j, rfl, hj, hw⟩; have hw2 := hw.symm; clear hw; subst hw2)
                        · go_ret
                          exact ⟨ret_bool (exp_bad (.inr rfl) h6.out (fun e => absurd e (by omega)) hj.out (by have h2 := eq_yes (show ((j : Int) == (k : Int) + 1 + 1) = true by assumption); omega)).symm, hbe⟩
                        · go_meet
                          case rel => exact ⟨j, 8, rfl, hj.out.2.1, ⟨rfl, exp_ok (.inr rfl) h6.out hj.out (by have h1 := hj.out.1; have h2 := eq_no (show ((j : Int) == (k : Int) + 1 + 1) = false by assumption); omega), fun h => step8_dead (hj.out.2.2.2 h)⟩, ht, hbe⟩
                      · have hmi' : (((s[k + 1]).toNat : Int) == 45) = false := by simpa using hmi
                        go_wp2_with (go_at_call 23; refine (digits_at s _ (k + 1) _ _ hs (by omega) (by omega) ht).mono ?_; rintro e w' ⟨j, rfl, hj, hw⟩; have hw2 := hw.symm; clear hw; subst hw2)
                        · go_ret
                          exact ⟨ret_bool (exp_bad (.inl rfl) h6.out (fun _ h => ⟨hp, hmi⟩) hj.out (by have h2 := eq_yes (show ((j : Int) == (k : Int) + 1) = true by assumption); omega)).symm, hbe⟩
                        · go_meet
                          case rel => exact ⟨j, 8, rfl, hj.out.2.1, ⟨rfl, exp_ok (.inl rfl) h6.out hj.out (by have h1 := hj.out.1; have h2 := eq_no (show ((j : Int) == (k : Int) + 1) = false by assumption); omega), fun h => step8_dead (hj.out.2.2.2 h)⟩, ht, hbe⟩
                  · go_wp2_with (go_at_call 23; refine (digits_at s _ (k + 1) _ _ hs (by omega) (by omega) ht).mono ?_; rintro e w' ⟨j, rfl, hj, hw⟩; have hw2 := hw.symm; clear hw; subst hw2)
                    · go_ret
                      exact ⟨ret_bool (exp_bad (.inl rfl) h6.out (fun _ h => absurd h hlt2) hj.out (by have h2 := eq_yes (show ((j : Int) == (k : Int) + 1) = true by assumption); omega)).symm, hbe⟩
                    · go_meet
                      case rel => exact ⟨j, 8, rfl, hj.out.2.1, ⟨rfl, exp_ok (.inl rfl) h6.out hj.out (by have h1 := hj.out.1; have h2 := eq_no (show ((j : Int) == (k : Int) + 1) = false by assumption); omega), fun h => step8_dead (hj.out.2.2.2 h)⟩, ht, hbe⟩
                · go_wp2
                  go_meet
                  case rel => exact ⟨k, q, rfl, hk, ⟨acc235 hst.out.1, hst.out.2.1, fun h => step235_dead hst.out.1 (fun e => hst.out.2.2.1 e h) (fun e => hst.out.2.2.2 e h) hE hF⟩, ht, hbe⟩
            · go_wp2
              go_meet
              case rel => exact ⟨k, q, rfl, hk, ⟨acc235 hst.out.1, hst.out.2.1, fun h => absurd h hlt⟩, ht, hbe⟩
          case rest =>
            clear hst ht hbe hk
            obtain ⟨k, q, rfl, hk, hst, ht, hbe⟩ := hcut
            have hj : Hid (jn s = decide (k = s.size)) := jn_end s k q hst.out.2.1 hk hst.out.1 hst.out.2.2
            go_wp2
            go_ret
            refine ⟨ret_bool ?_, hbe⟩
            rw [hj.out, Bool.eq_iff_iff]
            simp
            omega
  · have hj : Hid (jn s = false) := jn_false s 0 0 (st_zero s) (by omega) rfl (fun h => absurd h h0)
    go_wp2
    go_ret
    exact ⟨ret_bool hj.out.symm, (Below.refl _ _).alloc (Nat.le_refl _) _⟩

end Go.Proofs.Qxb6604238a
