/-
  Seat b6604238a: b1ReadChoice reads "A, B or C" back.
-/
import Derived.Test.Qxb6604238aSplit
import Derived.Deep.AppendLies
namespace Go.Proofs.Qxb6604238a
open Go.RowKit

/-- no comma, no space -/
def plainT (a : ByteArray) : Prop := ∀ i, (h : i < a.size) → ((a[i]).toNat : Int) ≠ 44 ∧ ((a[i]).toNat : Int) ≠ 32

/-- the texts as values -/
def vals (S : Nat → ByteArray) (m : Nat) : List Value := (List.range m).map fun k => .string (S k)
theorem vals_succ (S : Nat → ByteArray) (m : Nat) : vals S (m + 1) = vals S m ++ [.string (S m)] := by
  unfold vals
  rw [List.range_succ, List.map_append]
  rfl

/-- what the head of a round knows: m texts are read, t bytes of the next passed -/
structure Head (s : ByteArray) (S : Nat → ByteArray) (n m t : Nat) : Prop where
  hm : m < n
  ht : t ≤ (S m).size
  hs : s.data.toList = upTo S n n

theorem Head.inText {s : ByteArray} {S : Nat → ByteArray} {n m t : Nat} (h : Head s S n m t) (hp : ∀ k, k < n → plainT (S k)) (ht : t < (S m).size) :
    ∃ hi : posT S n m + t < s.size, ((s[posT S n m + t]).toNat : Int) ≠ 44 ∧ ((s[posT S n m + t]).toNat : Int) ≠ 32 := by
  have h1 := at_text S n m t h.hm ht
  have h2 : (S m).data.toList[t]? = some (S m)[t] := by
    rw [List.getElem?_eq_getElem (by rw [len_text]; exact ht)]
    simp
    rfl
  rw [h2, ← h.hs] at h1
  obtain ⟨hi, e⟩ := byte_at h1
  refine ⟨hi, ?_⟩
  rw [e]
  exact hp m h.hm t ht

theorem Head.sep {s : ByteArray} {S : Nat → ByteArray} {n m : Nat} (h : Head s S n m (S m).size) (hn : m + 1 < n) (j : Nat) {c : UInt8} (hj : (sepL n (m + 1))[j]? = some c) :
    ∃ hi : posT S n m + (S m).size + j < s.size, s[posT S n m + (S m).size + j] = c := by
  have hj' : j < (sepL n (m + 1)).length := by
    rcases Nat.lt_or_ge j (sepL n (m + 1)).length with h' | h'
    · exact h'
    · rw [List.getElem?_eq_none h'] at hj; cases hj
  have h1 := at_sep S n m j hn hj'
  rw [hj, ← h.hs] at h1
  exact byte_at h1

theorem Head.size {s : ByteArray} {S : Nat → ByteArray} {n m t : Nat} (h : Head s S n m t) : posT S n m + (S m).size ≤ s.size := by
  have := pos_le S n m h.hm
  rw [← h.hs, len_text] at this
  exact this
theorem Head.last {s : ByteArray} {S : Nat → ByteArray} {n m t : Nat} (h : Head s S n m t) (hn : m + 1 = n) : s.size = posT S n m + (S m).size := by
  have := pos_last S n m hn
  rw [← h.hs, len_text] at this
  exact this

theorem Try.info9b : (Try.prog.info? 9).map (fun i => (i.zero, i.size, i.bytes)) = some (some (.string ByteArray.empty), 1, 16) := by kernel_rfl

/-- what a value that owns a row looks like -/
theorem own_form {w : World} {base : Nat} {e : TypeId} {size : Nat} {v : Value} {n : Nat} {xs : List Value} (h : w.ownsRow base e size v n xs) : ∃ a c, v = .slice a n c := by
  rcases h.2 with ⟨rfl, rfl⟩ | ⟨g, cap, cur, rfl, _⟩
  · exact ⟨none, 0, rfl⟩
  · exact ⟨_, _, rfl⟩

theorem one_new (w : World) (x : Value) (t : TypeId) (H : Nat) (hH : w.heap.size = H) : ∀ j u, [x][j]? = some u → (w.alloc (.cells #[x] t)).cell? ((⟨H, 0, none⟩ : Addr).add j) = some u := by
  subst hH
  exact cell_one_new w x t

/-- a cell that a row owns -/
theorem own_cell {w : World} {base : Nat} {e : TypeId} {size : Nat} {g n cap : Nat} {xs : List Value} (h : w.ownsRow base e size (.slice (some ⟨g, 0, none⟩) n cap) n xs) {i : Nat} {u : Value} (hi : xs[i]? = some u) : w.cell? ⟨g, i, none⟩ = some u := by
  rcases h.2 with ⟨e0, _⟩ | ⟨g', cap', cur, e1, _, hg, _, _, _, hx⟩
  · cases e0
  · simp at e1
    obtain ⟨rfl, _⟩ := e1
    have hcur : cur[i]? = some u := by
      rw [← hx, List.getElem?_take] at hi
      split at hi
      · simpa using hi
      · cases hi
    simp [World.cell?, hg, hcur]

/-- a byte that equals a number -/
theorem byte_num {s : ByteArray} {i : Nat} {c : UInt8} (h : ∃ hi : i < s.size, s[i] = c) (x : Int) (hx : (c.toNat : Int) = x) : ∃ hi : i < s.size, ((s[i]).toNat : Int) = x := by
  obtain ⟨hi, e⟩ := h
  exact ⟨hi, by rw [e]; exact hx⟩

theorem comma_bytes {s : ByteArray} {S : Nat → ByteArray} {n m t P : Nat} (h : Head s S n m t) (hP : P = posT S n m) (ht : t = (S m).size) (hc : m + 2 < n) :
    ∃ (h0 : P + t < s.size) (h1 : P + t + 1 < s.size), ((s[P + t]).toNat : Int) = 44 ∧ ((s[P + t + 1]).toNat : Int) = 32 := by
  subst ht hP
  have hsep := sep_comma n m hc
  obtain ⟨a0, e0⟩ := byte_num (h.sep (m := m) (by omega) 0 (c := 44) (by rw [hsep]; rfl)) 44 rfl
  obtain ⟨a1, e1⟩ := byte_num (h.sep (m := m) (by omega) 1 (c := 32) (by rw [hsep]; rfl)) 32 rfl
  exact ⟨a0, a1, e0, e1⟩

theorem or_bytes {s : ByteArray} {S : Nat → ByteArray} {n m t P : Nat} (h : Head s S n m t) (hP : P = posT S n m) (ht : t = (S m).size) (hc : m + 2 = n) :
    ∃ (h0 : P + t < s.size) (h1 : P + t + 1 < s.size) (h2 : P + t + 2 < s.size) (h3 : P + t + 3 < s.size), ((s[P + t]).toNat : Int) = 32 ∧ ((s[P + t + 1]).toNat : Int) = 111 ∧ ((s[P + t + 2]).toNat : Int) = 114 ∧ ((s[P + t + 3]).toNat : Int) = 32 := by
  subst ht hP
  have hsep := sep_or n m hc
  obtain ⟨a0, e0⟩ := byte_num (h.sep (m := m) (by omega) 0 (c := 32) (by rw [hsep]; rfl)) 32 rfl
  obtain ⟨a1, e1⟩ := byte_num (h.sep (m := m) (by omega) 1 (c := 111) (by rw [hsep]; rfl)) 111 rfl
  obtain ⟨a2, e2⟩ := byte_num (h.sep (m := m) (by omega) 2 (c := 114) (by rw [hsep]; rfl)) 114 rfl
  obtain ⟨a3, e3⟩ := byte_num (h.sep (m := m) (by omega) 3 (c := 32) (by rw [hsep]; rfl)) 32 rfl
  exact ⟨a0, a1, a2, a3, e0, e1, e2, e3⟩

theorem next_comma {S : Nat → ByteArray} {n m t P : Nat} (hP : P = posT S n m) (ht : t = (S m).size) (hc : m + 2 < n) : P + t + 2 = posT S n (m + 1) := by
  rw [pos_succ, sep_comma n m hc, hP, ht]
  rfl
theorem next_or {S : Nat → ByteArray} {n m t P : Nat} (hP : P = posT S n m) (ht : t = (S m).size) (hc : m + 2 = n) : P + t + 4 = posT S n (m + 1) := by
  rw [pos_succ, sep_or n m hc, hP, ht]
  rfl

set_option maxRecDepth 100000 in
set_option maxHeartbeats 2000000 in
theorem read_any (s : ByteArray) (S : Nat → ByteArray) (n : Nat) (w : World) (hn : n ≤ 65536) (h2 : 2 ≤ n) (hs : Hid (s.data.toList = upTo S n n)) (hz : s.size ≤ 2097152) (hp : Hid (∀ k, k < n → plainT (S k))) :
    Calls Try.prog 18 #[.string s] w fun e w' => ∃ g cap, e = .returned (.tuple #[.slice (some ⟨g, 0, none⟩) n cap, .bool true]) ∧ (∀ k, k < n → w'.cell? ⟨g, k, none⟩ = some (.string (S k))) ∧ Below w.heap.size w w' := by
  obtain ⟨i0, hi, hz0, hz1, hz2⟩ := info_parts Try.info9b
  go_enter Try.func18, Try.ntmps18
  go_wp2
  go_loopw [4, 5, 6, 7] (fun v c o i wr => ∃ m t P : Nat, Hid (Head s S n m t ∧ P = posT S n m) ∧ m < n ∧ c = .int .i64 (P : Int) ∧ o = .bool (decide (m + 1 = n)) ∧ i = .int .i64 ((P : Int) + t) ∧ wr.ownsRow w.heap.size 9 1 v m (vals S m) ∧ Below w.heap.size w wr) (fun _ _ _ i _ => s.size - (intOf i).toNat)
  case atStart =>
    have h0 : posT S n 0 = 0 := by simp [posT, upTo, sepL]
    refine ⟨0, 0, 0, ⟨⟨by omega, Nat.zero_le _, hs.out⟩, h0.symm⟩, by omega, rfl, ?_, rfl, World.ownsRow_nil _ _ _ _, Below.refl _ _⟩
    rw [decide_eq_false (by omega)]
  case round =>
    obtain ⟨m, t, P, hh, hm, rfl, rfl, rfl, hown, hbe⟩ := hrel
    obtain ⟨av, cv, rfl⟩ := own_form hown
    have hsz : P + (S m).size ≤ s.size := by have := hh.out.1.size; rw [← hh.out.2] at this; exact this
    by_cases ht : t < (S m).size
    · have hlt : P + t < s.size := by omega
      have hb : ((s[P + t]).toNat : Int) ≠ 44 ∧ ((s[P + t]).toNat : Int) ≠ 32 := by
        obtain ⟨hlt, b⟩ := hh.out.1.inText hp.out ht
        have := hh.out.2
        subst this
        exact b
      obtain ⟨b1, b2⟩ := hb
      have b1' : (((s[P + t]).toNat : Int) == 44) = false := by simpa using b1
      have b2' : (((s[P + t]).toNat : Int) == 32) = false := by simpa using b2
      clear b1 b2
      go_wp2
      go_roundw
      case rel => exact ⟨m, t + 1, P, ⟨⟨hm, by omega, hs.out⟩, hh.out.2⟩, hm, rfl, rfl, by go_num, hown, hbe⟩
      case measure => simp [intOf]; omega
    · have htt : t = (S m).size := by have := hh.out.1.ht; omega
      have hE : s.extract P (P + t) = S m := by
        have h1 := extract_text hs.out hm
        rw [← hh.out.2, ← htt] at h1
        exact h1
      by_cases hc : m + 2 < n
      · obtain ⟨a0, a1, e0, e1⟩ := comma_bytes hh.out.1 hh.out.2 htt hc
        have e1' : (((s[P + t + 1]).toNat : Int) != 32) = false := by simp [e1]
        have hne : decide (m + 1 = n) = false := by simp; omega
        have hnx := next_comma hh.out.2 htt hc
        have hnx' : Hid (P + t + 2 = posT S n (m + 1)) := hnx
        clear hnx ht htt
        go_wp2_with (at_builtin; go_must (refine wpList_append_lies _ rfl _ _ 28 rfl w.heap.size 9 i0 (.string ByteArray.empty) 1 16 Try.underlying28 hi hz0 hz1 hz2 rfl (by omega) _ m (vals S m) (by rfl) (hown.alloc _) ⟨wr.heap.size, 0, none⟩ 1 1 [.string (S m)] (by rfl) rfl (one_new _ _ _ _ rfl) (by simp [Value.oneCell']) (by omega) (by unfold maxLen; omega) (by omega) (by have := hbe.size; simp; omega) (wr.heap.size + 1) (by simp) ?_); intro g cap w1 hown1 hgrow hat hlt1)
        go_roundw
        case rel => exact ⟨m + 1, 0, P + t + 2, ⟨⟨by omega, Nat.zero_le _, hs.out⟩, hnx'.out⟩, by omega, by go_num, by rw [decide_eq_false (by omega)], by go_num, by rw [vals_succ]; exact hown1, (hbe.alloc hbe.size _).grown hgrow (by have := hbe.size; simp; omega) (fun k e => (hown.lt k e).1)⟩
        case measure => simp [intOf]; omega
      · by_cases hd : m + 2 = n
        · obtain ⟨a0, a1, a2, a3, e0, e1, e2, e3⟩ := or_bytes hh.out.1 hh.out.2 htt hd
          have e1' : (((s[P + t + 1]).toNat : Int) != 111) = false := by simp [e1]
          have e2' : (((s[P + t + 2]).toNat : Int) != 114) = false := by simp [e2]
          have e3' : (((s[P + t + 3]).toNat : Int) != 32) = false := by simp [e3]
          have hne : decide (m + 1 = n) = false := by simp; omega
          have hnx := next_or hh.out.2 htt hd
          have hnx' : Hid (P + t + 4 = posT S n (m + 1)) := hnx
          have hd' : Hid (m + 2 = n) := hd
          have hmn : m + 1 < n := by omega
          clear hnx ht htt hd hc
          go_wp2_with (at_builtin; go_must (refine wpList_append_lies _ rfl _ _ 28 rfl w.heap.size 9 i0 (.string ByteArray.empty) 1 16 Try.underlying28 hi hz0 hz1 hz2 rfl (by omega) _ m (vals S m) (by rfl) (hown.alloc _) ⟨wr.heap.size, 0, none⟩ 1 1 [.string (S m)] (by rfl) rfl (one_new _ _ _ _ rfl) (by simp [Value.oneCell']) (by omega) (by unfold maxLen; omega) (by omega) (by have := hbe.size; simp; omega) (wr.heap.size + 1) (by simp) ?_); intro g cap w1 hown1 hgrow hat hlt1)
          go_roundw
          case rel => exact ⟨m + 1, 0, P + t + 4, ⟨⟨by omega, Nat.zero_le _, hs.out⟩, hnx'.out⟩, by omega, by go_num, by rw [decide_eq_true hd'.out], by go_num, by rw [vals_succ]; exact hown1, (hbe.alloc hbe.size _).grown hgrow (by have := hbe.size; simp; omega) (fun k e => (hown.lt k e).1)⟩
          case measure => simp [intOf]; omega
        · have hl : m + 1 = n := by omega
          have hend : s.size = P + t := by
            have := hh.out.1.last hl
            rw [← hh.out.2, ← htt] at this
            exact this
          have hE2 : s.extract P s.size = S m := by rw [hend]; exact hE
          have hlt : ¬ P + t < s.size := by omega
          have hPs : P ≤ s.size := by omega
          have hne : decide (m + 1 = n) = true := by simp; omega
          have hl' : Hid (m + 1 = n) := hl
          clear hend hl hc hd htt ht hE
          go_wp2_with (at_builtin; go_must (refine wpList_append_lies _ rfl _ _ 28 rfl w.heap.size 9 i0 (.string ByteArray.empty) 1 16 Try.underlying28 hi hz0 hz1 hz2 rfl (by omega) _ m (vals S m) (by rfl) (hown.alloc _) ⟨wr.heap.size, 0, none⟩ 1 1 [.string (S m)] (by rfl) rfl (one_new _ _ _ _ rfl) (by simp [Value.oneCell']) (by omega) (by unfold maxLen; omega) (by omega) (by have := hbe.size; simp; omega) (wr.heap.size + 1) (by simp) ?_); intro g cap w1 hown1 hgrow hat hlt1)
          go_ret2
          have hl := hl'.out
          subst hl
          exact ⟨g, cap, rfl, fun k hk => own_cell hown1 (by rw [← vals_succ]; simp [vals, hk]), (hbe.alloc hbe.size _).grown hgrow (by have := hbe.size; simp; omega) (fun k e => (hown.lt k e).1)⟩

end Go.Proofs.Qxb6604238a
