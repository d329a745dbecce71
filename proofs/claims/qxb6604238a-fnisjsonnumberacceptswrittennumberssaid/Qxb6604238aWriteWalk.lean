/-
  Seat b6604238a: the walk of FnIsJSONNumberAcceptsWrittenNumbers.
-/
import Derived.Test.Qxb6604238aWritten
import Derived.Test.Qxb6604238aIsJson
import Derived.Lib.QuietBelow
namespace Go.Proofs.Qxb6604238a
open Go.RowKit Json

theorem u64_wrap (x : Int) : 0 ≤ IntKind.u64.wrap x ∧ IntKind.u64.wrap x < 18446744073709551616 := by
  rw [IntKind.wrap_u64]
  omega

theorem rest_exp0 {l : List UInt8} (h : fracL l) (e : UInt8) (he : e.toNat = 101 ∨ e.toNat = 69) {d : List UInt8} (hd : decL d) : restL (l ++ [e] ++ d) := by
  have := rest_exp h e he (g := []) (.inl rfl) hd
  simpa using this

set_option maxRecDepth 100000 in
set_option maxHeartbeats 4000000 in
theorem write_go (a0 a1 a3 a4 : Int) (n : Nat) (w : World) (hn : n ≤ 64) (u0 : 0 ≤ a1) (u1 : a1 < 18446744073709551616) :
    Calls Try.prog 4 #[.int .i64 a0, .int .u64 a1, .int .i64 (n : Int), .int .i64 a3, .int .u8 a4] w fun e w' => e = .returned (.bool true) ∧ Below w.heap.size w w' := by
  go_enter Try.func4, Try.ntmps4
  go_upto_if 26 with (fail)
  go_cut [11, 12] (fun m g wc => ∃ (mag : Int) (sg : ByteArray), m = .int .u64 mag ∧ g = .string sg ∧ 0 ≤ mag ∧ mag < 18446744073709551616 ∧ sg.size ≤ 1 ∧ Hid (signL sg.data.toList) ∧ Below w.heap.size w wc)
  case first =>
    go_wp2
    · go_meet
      case rel => exact ⟨_, _, rfl, rfl, (u64_wrap _).1, (u64_wrap _).2, by decide, .inr rfl, Below.refl _ _⟩
    · go_meet
      case rel => exact ⟨_, _, rfl, rfl, (u64_wrap _).1, (u64_wrap _).2, by decide, .inl rfl, Below.refl _ _⟩
  case rest =>
    obtain ⟨mag, sg, rfl, rfl, m0, m1, sgs, hsg, hbe⟩ := hcut
    go_upto_if 33 with (go_at_call 10; refine (dec_any _ _ m0 m1).mono ?_; rintro e w1 ⟨body, rfl, hbody, hb1⟩)
    have hbs : body.size ≤ 20 := hbody.1
    have hbd : Hid (decL body.data.toList) := hbody.2
    have hbe1 : Below w.heap.size w w1 := hbe.trans (hb1.mono hbe.size)
    clear hbody hb1 hbe m0 m1
    go_cut [14] (fun r wc => ∃ rest : ByteArray, r = .string rest ∧ rest.size ≤ 85 ∧ Hid (fracL rest.data.toList) ∧ Below w.heap.size w wc)
    case first =>
      by_cases hf : (bits BinOp.and .u8 a4 1 != 0) = true
      · go_wp2_with (first
          | (go_at_call 11; refine (zrun_any n _ hn).mono ?_; rintro e w2 ⟨rfl, hb2⟩; have hzs := zeros_size n)
          | (go_at_call 10; refine (dec_any _ _ u0 u1).mono ?_; rintro e w3 ⟨d, rfl, hd, hb3⟩))
        go_meet
        case rel => exact ⟨_, rfl, by have := hd.1; simp [ByteArray.size_mk']; omega, by
          rw [toL_append, toL_append]
          show fracL _
          simpa using frac_some (zeros_digs n) hd.2, (hbe1.trans (hb2.mono hbe1.size)).trans (hb3.mono (Nat.le_trans hbe1.size hb2.size))⟩
      · have hf' : (bits BinOp.and .u8 a4 1 != 0) = false := by simpa using hf
        clear hf
        go_wp2
        go_meet
        case rel => exact ⟨_, rfl, by decide, frac_none, hbe1⟩
    case rest =>
      clear hbe1
      obtain ⟨rest, rfl, hrs, hrest, hbe⟩ := hcut
      go_step
      go_step
      go_cut [15] (fun l wc => ∃ lt : Int, l = .int .u8 lt ∧ Below w.heap.size w wc)
      case first =>
        go_wp2
        go_meet
        case rel => exact ⟨_, rfl, hbe⟩
      case rest =>
        clear hbe
        obtain ⟨lt, rfl, hbe⟩ := hcut
        go_step
        go_step
        go_cut [14] (fun r wc => ∃ rest : ByteArray, r = .string rest ∧ rest.size ≤ 107 ∧ Hid (restL rest.data.toList) ∧ Below w.heap.size w wc)
        case first =>
          by_cases l1 : lt = 1
          · subst l1
            by_cases hx : a3 < 0
            · go_wp2_with (go_at_call 10; refine (dec_any _ _ (by first | assumption | exact (u64_wrap _).1) (by first | assumption | exact (u64_wrap _).2)).mono ?_; rintro e w2 ⟨d, rfl, hd, hb2⟩)
              go_meet
              case rel => exact ⟨_, rfl, by have := hd.1; simp [ByteArray.size_mk']; omega, by
                rw [toL_append, toL_append, toL_append]
                exact rest_exp hrest.out 101 (by decide) (g := [45]) (.inr (.inl rfl)) hd.2, hbe.trans (hb2.mono hbe.size)⟩
            · by_cases h8 : (bits BinOp.and .u8 a4 8 != 0) = true
              · go_wp2_with (go_at_call 10; refine (dec_any _ _ (by first | assumption | exact (u64_wrap _).1) (by first | assumption | exact (u64_wrap _).2)).mono ?_; rintro e w2 ⟨d, rfl, hd, hb2⟩)
                go_meet
                case rel => exact ⟨_, rfl, by have := hd.1; simp [ByteArray.size_mk']; omega, by
                  rw [toL_append, toL_append, toL_append]
                  exact rest_exp hrest.out 101 (by decide) (g := [43]) (.inr (.inr rfl)) hd.2, hbe.trans (hb2.mono hbe.size)⟩
              · have h8' : (bits BinOp.and .u8 a4 8 != 0) = false := by simpa using h8
                clear h8
                go_wp2_with (go_at_call 10; refine (dec_any _ _ (by first | assumption | exact (u64_wrap _).1) (by first | assumption | exact (u64_wrap _).2)).mono ?_; rintro e w2 ⟨d, rfl, hd, hb2⟩)
                go_meet
                case rel => exact ⟨_, rfl, by have := hd.1; simp [ByteArray.size_mk']; omega, by
                  rw [toL_append, toL_append]
                  exact rest_exp0 hrest.out 101 (by decide) hd.2, hbe.trans (hb2.mono hbe.size)⟩
          · have l1' : (lt == 1) = false := by simpa using l1
            by_cases l2 : lt = 2
            · subst l2
              by_cases hx : a3 < 0
              · go_wp2_with (go_at_call 10; refine (dec_any _ _ (by first | assumption | exact (u64_wrap _).1) (by first | assumption | exact (u64_wrap _).2)).mono ?_; rintro e w2 ⟨d, rfl, hd, hb2⟩)
                go_meet
                case rel => exact ⟨_, rfl, by have := hd.1; simp [ByteArray.size_mk']; omega, by
                  rw [toL_append, toL_append, toL_append]
                  exact rest_exp hrest.out 69 (by decide) (g := [45]) (.inr (.inl rfl)) hd.2, hbe.trans (hb2.mono hbe.size)⟩
              · by_cases h8 : (bits BinOp.and .u8 a4 8 != 0) = true
                · go_wp2_with (go_at_call 10; refine (dec_any _ _ (by first | assumption | exact (u64_wrap _).1) (by first | assumption | exact (u64_wrap _).2)).mono ?_; rintro e w2 ⟨d, rfl, hd, hb2⟩)
                  go_meet
                  case rel => exact ⟨_, rfl, by have := hd.1; simp [ByteArray.size_mk']; omega, by
                    rw [toL_append, toL_append, toL_append]
                    exact rest_exp hrest.out 69 (by decide) (g := [43]) (.inr (.inr rfl)) hd.2, hbe.trans (hb2.mono hbe.size)⟩
                · have h8' : (bits BinOp.and .u8 a4 8 != 0) = false := by simpa using h8
                  clear h8
                  go_wp2_with (go_at_call 10; refine (dec_any _ _ (by first | assumption | exact (u64_wrap _).1) (by first | assumption | exact (u64_wrap _).2)).mono ?_; rintro e w2 ⟨d, rfl, hd, hb2⟩)
                  go_meet
                  case rel => exact ⟨_, rfl, by have := hd.1; simp [ByteArray.size_mk']; omega, by
                    rw [toL_append, toL_append]
                    exact rest_exp0 hrest.out 69 (by decide) hd.2, hbe.trans (hb2.mono hbe.size)⟩
            · have l2' : (lt == 2) = false := by simpa using l2
              clear l1 l2
              go_wp2
              go_meet
              case rel => exact ⟨_, rfl, by omega, rest_frac hrest.out, hbe⟩
        case rest =>
          clear hbe hrest hrs
          obtain ⟨rest, rfl, hrs, hrest, hbe⟩ := hcut
          have j1 := jn_written hsg.out hbd.out hrest.out
          have j2 := jn_zero (r := rest) hsg.out hbd.out
          have j3 := jn_plus (sg ++ body ++ rest)
          have j4 := jn_dot hsg.out hbd.out hrest.out
          have j5 := jn_e hsg.out hbd.out hrest.out
          go_wp2_with (first
            | (go_at_call 8; go_in)
            | (go_at_call 19; refine (isJson_any _ _ ?_).mono ?_; (simp [ByteArray.size_mk']; omega); rintro e w5 ⟨rfl, hb5⟩; have hbe' := hbe.trans (hb5.mono hbe.size); clear hb5 hbe; have hbe := hbe'; clear hbe'))
          go_ret
          exact ⟨rfl, hbe⟩

end Go.Proofs.Qxb6604238a
