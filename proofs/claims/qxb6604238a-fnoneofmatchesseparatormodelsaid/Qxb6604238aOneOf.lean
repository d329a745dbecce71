/-
  Seat b6604238a: OneOf.
-/
import Derived.Test.Qxb6604238aChoice
import Derived.Test.Qxb6604238aShelf
import Derived.BigQuiet
import Derived.Lib.QuietBelow
namespace Go.Proofs.Qxb6604238a
open Go.RowKit
open Go.Sort (grow)

/-- strings.Join of the first n strings of a row -/
theorem join_any (g o n c : Nat) (S : Nat → ByteArray) (sep : ByteArray) (w : World) (ht : ∀ k, k < n → w.cell? ⟨g, o + k, none⟩ = some (.string (S k))) (hg : g < w.heap.size) (hn : n ≤ 65536) (hc : n ≤ c)
    (hlen : (Lib.join (((List.range n).map S).map (·.data.toList)) sep.data.toList).length ≤ 140737488355328) :
    Calls Try.prog 21 #[.slice (some ⟨g, o, none⟩) n c, .string sep] w fun e w' => e = .returned (.string ⟨(Lib.join (((List.range n).map S).map (·.data.toList)) sep.data.toList).toArray⟩) ∧ Below w.heap.size w w' := by
  have := Try.strings_Join g o c ((List.range n).map S) sep w (fun j x hx => by
    by_cases hj : j < n
    · simp [hj] at hx
      rw [ht j hj, hx]
    · simp [hj] at hx) hg (by simp; omega) (by simpa using hc) hlen
  simpa using this

theorem app_list (a b : ByteArray) : (a ++ b).data.toList = a.data.toList ++ b.data.toList := by simp
theorem toL_mk (l : List UInt8) : (⟨l.toArray⟩ : ByteArray).data.toList = l := rfl

set_option maxHeartbeats 400000 in
/-- two or more texts -/
theorem oneOf_many (g n : Nat) (S : Nat → ByteArray) (w : World) (ht : Texts w g 0 n S) (hn : n ≤ 65536) (h2 : 2 ≤ n) (hs : sumS S n ≤ 1048576) :
    Calls Try.prog 14 #[.slice (some ⟨g, 0, none⟩) n n] w fun e w' => ∃ s : ByteArray, e = .returned (.string s) ∧ s.data.toList = upTo S n n ∧ Below w.heap.size w w' := by
  obtain ⟨m, rfl⟩ : ∃ m, n = m + 1 := ⟨n - 1, by omega⟩
  have hlast := ht.c m (by omega)
  have hg : g < w.heap.size := World.block_lt_of_cell? _ _ hlast
  rw [Nat.zero_add] at hlast
  have hju := join_upTo S (m + 1) m (by omega)
  have hle := upTo_length S (m + 1) m
  have hsum : sumS S m + (S m).size ≤ 1048576 := hs
  have q0 := cell_regrown hlast
  have hsz : (⟨(upTo S (m + 1) m).toArray⟩ : ByteArray).size ≤ 1048576 + 262144 := by
    show (upTo S (m + 1) m).toArray.size ≤ _
    simp only [List.size_toArray]
    omega
  have cJ : ∀ d os, Calls Try.prog 21 #[.slice (some ⟨g, 0, none⟩) m (m + 1), .string ⟨#[44, 32]⟩] (grow (redrawn w d) os) fun e w'' => e = .returned (.string ⟨(upTo S (m + 1) m).toArray⟩) ∧ ∃ p : Regrown, w'' = grow (redrawn w p.d) p.os := by
    intro d os
    have hj := join_any g 0 m (m + 1) S ⟨#[44, 32]⟩ (grow (redrawn w d) os) (fun k hk => cell_later (below_regrown w d os) (ht.c k (by omega))) (Nat.lt_of_lt_of_le hg (below_regrown w d os).size) (by omega) (by omega) (by
      show (Lib.join _ commaL).length ≤ _
      rw [hju]; omega)
    have e1 : Lib.join (((List.range m).map S).map (·.data.toList)) ((⟨#[44, 32]⟩ : ByteArray).data.toList) = upTo S (m + 1) m := hju
    rw [e1] at hj
    exact Calls.regrown_of hj
  have hm1 : ¬ (m : Int) < 1 := by omega
  have hm2 : (m : Int) < (m : Int) + 1 := by omega
  have hm3 : (0 : Int) ≤ (m : Int) := by omega
  clear hju
  generalize hU : upTo S (m + 1) m = U at cJ hsz hle
  have hU' : Hid (upTo S (m + 1) m = U) := hU
  clear hU
  go_enter Try.func14, Try.ntmps14
  go_wp2
  refine wp_region_quiet_below (by kernel_rfl) (by kernel_rfl) ?_
  repeat (first | go_big_quiet_step (exact cJ _ _) | quiet_step (exact cJ _ _))
  refine wpQuiet_nil ?_
  intro _ hw'
  obtain ⟨⟨dq, osq⟩, hw''⟩ := hw'
  subst hw''
  have hbq := below_regrown w dq osq
  clear q0 cJ
  generalize grow (redrawn w dq) osq = w3 at hbq ⊢
  go_wp2
  go_ret
  refine ⟨_, rfl, ?_, hbq⟩
  rw [app_list, app_list, toL_mk]
  show U ++ orL ++ (S m).data.toList = upTo S (m + 1) m ++ sepL (m + 1) m ++ (S m).data.toList
  rw [hU'.out]
  unfold sepL
  rw [if_neg (by omega), if_pos rfl]

set_option maxHeartbeats 400000 in
/-- one text -/
theorem oneOf_one (g : Nat) (S : Nat → ByteArray) (w : World) (ht : Texts w g 0 1 S) (hs : sumS S 1 ≤ 1048576) :
    Calls Try.prog 14 #[.slice (some ⟨g, 0, none⟩) 1 1] w fun e w' => ∃ s : ByteArray, e = .returned (.string s) ∧ s.data.toList = upTo S 1 1 ∧ Below w.heap.size w w' := by
  have hg : g < w.heap.size := World.block_lt_of_cell? _ _ (ht.c 0 (by omega))
  have h0 : (S 0).data.toList.length ≤ 1048576 := by have : 0 + (S 0).size ≤ 1048576 := hs; simpa using this
  have hj := join_any g 0 1 1 S ⟨#[]⟩ w (fun k hk => ht.c k hk) hg (by omega) (by omega) (by
    simp only [List.range_succ, List.range_zero, List.nil_append, List.map_cons, List.map_nil, Lib.join_one]; omega)
  have e1 : Lib.join (((List.range 1).map S).map (·.data.toList)) ((⟨#[]⟩ : ByteArray).data.toList) = (S 0).data.toList := by
    simp only [List.range_succ, List.range_zero, List.nil_append, List.map_cons, List.map_nil, Lib.join_one]
  rw [e1] at hj
  go_enter Try.func14, Try.ntmps14
  go_wp2_with (go_at_call 21; refine hj.mono ?_; rintro e w' ⟨rfl, hb⟩)
  go_ret
  exact ⟨_, rfl, by rw [toL_mk]; simp [upTo, sepL], hb⟩

set_option maxHeartbeats 400000 in
/-- no text -/
theorem oneOf_none (a : Option Addr) (c : Nat) (S : Nat → ByteArray) (w : World) :
    Calls Try.prog 14 #[.slice a 0 c] w fun e w' => ∃ s : ByteArray, e = .returned (.string s) ∧ s.data.toList = upTo S 0 0 ∧ Below w.heap.size w w' := by
  go_enter Try.func14, Try.ntmps14
  go_wp2_with (go_at_call 21; refine (Try.strings_Join_none _ _ _ _).mono ?_; rintro e w' ⟨rfl, rfl⟩)
  go_ret
  exact ⟨_, rfl, rfl, Below.refl _ _⟩

end Go.Proofs.Qxb6604238a
