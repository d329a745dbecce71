/-
  Seat b6604238a: b1Decimal and b1ZeroRun.
-/
import Derived.Test.Qxb6604238aAut
import Derived.Deep.OwnRows
namespace Go.Proofs.Qxb6604238a
open Go.RowKit Json

/-- the string of the bytes D i, .., D (i + n - 1) -/
def strOf (D : Nat → Int) (i n : Nat) : ByteArray := ((List.range n).map fun j => D (i + j)).foldl (fun r m => r.push (UInt8.ofNat m.toNat)) ByteArray.empty

theorem conv_str (w : World) (g i n c : Nat) (D : Nat → Int) (h : ∀ j, j < n → w.cell? ⟨g, i + j, none⟩ = some (.int .u8 (D (i + j)))) :
    (convert 32 9 (.slice (some ⟨g, i, none⟩) n c)).run Try.prog w = .ok (.string (strOf D i n)) w := by
  rw [run_convert_bytes_string w 32 9 5 _ n c Try.underlying32 Try.underlying5 Try.underlying9]
  refine run_bytesToString w ⟨g, i, none⟩ n c ((List.range n).map fun j => D (i + j)) ?_
  have := run_loadCells_list (P := Try.prog) w ⟨g, i, none⟩ (((List.range n).map fun j => D (i + j)).map (Value.int .u8)) (fun j v hv => by
    rw [WideShapes.add_plain]
    by_cases hj : j < n
    · simp [hj] at hv
      rw [h j hj, ← hv]
    · simp [hj] at hv)
  simpa using this

theorem fold_push (ns : List Int) (s : ByteArray) : (ns.foldl (fun r m => r.push (UInt8.ofNat m.toNat)) s).data.toList = s.data.toList ++ ns.map (fun m => UInt8.ofNat m.toNat) := by
  induction ns generalizing s with
  | nil => simp
  | cons n ns ih => rw [List.foldl_cons, ih]; simp [ByteArray.push]

theorem strOf_list (D : Nat → Int) (i n : Nat) : (strOf D i n).data.toList = (List.range n).map fun j => UInt8.ofNat (D (i + j)).toNat := by
  unfold strOf
  rw [fold_push]
  simp

theorem strOf_size (D : Nat → Int) (i n : Nat) : (strOf D i n).size = n := by
  have := congrArg List.length (strOf_list D i n)
  simpa using this

def isDig (c : UInt8) : Prop := 48 ≤ (c.toNat : Int) ∧ (c.toNat : Int) ≤ 57

/-- a number written in decimal, with no leading zero -/
def decL (l : List UInt8) : Prop := ∃ c r, l = c :: r ∧ isDig c ∧ (c.toNat = 48 → r = []) ∧ ∀ x ∈ r, isDig x

theorem dig_of {x : Int} (h : 48 ≤ x) (h' : x ≤ 57) : isDig (UInt8.ofNat x.toNat) ∧ ((UInt8.ofNat x.toNat).toNat : Int) = x := by
  have e : ((UInt8.ofNat x.toNat).toNat : Int) = x := by
    rw [UInt8.toNat_ofNat']
    omega
  exact ⟨⟨by rw [e]; exact h, by rw [e]; exact h'⟩, e⟩

theorem decL_strOf (D : Nat → Int) (i n : Nat) (hn : 0 < n) (hd : ∀ j, i ≤ j → j < i + n → 48 ≤ D j ∧ D j ≤ 57) (h0 : 49 ≤ D i) : decL (strOf D i n).data.toList := by
  obtain ⟨m, rfl⟩ : ∃ m, n = m + 1 := ⟨n - 1, by omega⟩
  rw [strOf_list, List.range_succ_eq_map]
  have hi := hd i (Nat.le_refl _) (by omega)
  refine ⟨_, _, rfl, ?_, ?_, ?_⟩
  · exact (dig_of hi.1 hi.2).1
  · intro h
    have := (dig_of hi.1 hi.2).2
    simp only [Nat.add_zero] at h
    omega
  · intro x hx
    simp only [List.mem_map, List.mem_range, List.map_map] at hx
    obtain ⟨j, hj, rfl⟩ := hx
    have := hd (i + (j + 1)) (by omega) (by omega)
    exact (dig_of this.1 this.2).1

theorem pow_lt (v i : Nat) (h : v < 10 ^ (i + 1)) : v / 10 < 10 ^ i := by
  rw [Nat.pow_succ] at h
  omega

set_option maxHeartbeats 400000 in
theorem dec_pos (u : Nat) (w : World) (h0 : 0 < u) (h1 : u < 18446744073709551616) :
    Calls Try.prog 10 #[.int .u64 (u : Int)] w fun e w' => ∃ d : ByteArray, e = .returned (.string d) ∧ (d.size ≤ 20 ∧ decL d.data.toList) ∧ Below w.heap.size w w' := by
  have hu0 : ((u : Int) == 0) = false := by simp; omega
  go_enter Try.func10, Try.ntmps10
  go_wp2
  clear hu0
  go_loopw [0, 4] (fun t i wr => ∃ (k v : Nat) (D : Nat → Int), k ≤ 20 ∧ (v : Int) ≤ 18446744073709551615 ∧ t = .int .u64 v ∧ i = .int .i64 k ∧ Hid (v < 10 ^ k) ∧ wr.rowIs w.heap.size 38 20 (fun j => .int .u8 (D j)) ∧
      Hid ((∀ j, k ≤ j → j < 20 → 48 ≤ D j ∧ D j ≤ 57) ∧ (v = 0 → k < 20 ∧ 49 ≤ D k)) ∧ Below w.heap.size w wr) (fun t _ _ => (intOf t).toNat)
  case atStart =>
    refine ⟨20, u, fun _ => 0, Nat.le_refl _, by omega, rfl, rfl, ?_, ⟨_, Deep.blk_alloc_new _ _, rfl, ?_⟩, ⟨fun j a b => absurd b (by omega), fun h => absurd h (by omega)⟩, (Below.refl _ _).alloc (Nat.le_refl _) _⟩
    · show u < 10 ^ 20
      omega
    · intro i hi
      have hi' : i = 0 ∨ i = 1 ∨ i = 2 ∨ i = 3 ∨ i = 4 ∨ i = 5 ∨ i = 6 ∨ i = 7 ∨ i = 8 ∨ i = 9 ∨ i = 10 ∨ i = 11 ∨ i = 12 ∨ i = 13 ∨ i = 14 ∨ i = 15 ∨ i = 16 ∨ i = 17 ∨ i = 18 ∨ i = 19 := by have : i < 20 := hi; omega
      rcases hi' with rfl | rfl | rfl | rfl | rfl | rfl | rfl | rfl | rfl | rfl | rfl | rfl | rfl | rfl | rfl | rfl | rfl | rfl | rfl | rfl <;> rfl
  case round =>
    obtain ⟨k, v, D, hk, hv, rfl, rfl, hpow, hrow, hd, hbe⟩ := hrel
    by_cases hz : 0 < v
    · obtain ⟨p, rfl⟩ : ∃ p, k = p + 1 := by
        rcases Nat.eq_zero_or_pos k with h | h
        · subst h; have := hpow.out; simp at this; omega
        · exact ⟨k - 1, by omega⟩
      have r0 := hrow.cell (i := p) (by omega)
      have r1 := hrow.frozen p
      have hp : (0 : Int) ≤ (p : Int) := by omega
      have hp' : (p : Int) < 20 := by omega
      have hz' : (0 : Int) < (v : Int) := by omega
      go_wp2
      go_roundw
      case rel =>
        refine ⟨p, v / 10, fun j => if j = p then 48 + (v : Int) % 10 else D j, by omega, by omega, by go_num, rfl, pow_lt v p hpow.out, (hrow.set p _).congr (fun i _ => by simp only []; split <;> rfl), ⟨fun j a b => ?_, fun h => ⟨by omega, ?_⟩⟩, hbe.setCell (Nat.le_refl _) _⟩
        · simp only []
          split
          · omega
          · exact hd.out.1 j (by omega) b
        · simp only [if_pos]
          omega
      case measure => simp [intOf]; omega
    · have hz' : v = 0 := by omega
      subst hz'
      have hk' := (hd.out.2 rfl).1
      have hD : Hid ((∀ j, k ≤ j → j < 20 → 48 ≤ D j ∧ D j ≤ 57) ∧ 49 ≤ D k) := ⟨hd.out.1, (hd.out.2 rfl).2⟩
      clear hd
      have hcv := conv_str wr w.heap.size k (20 - k) (20 - k) D (fun j hj => hrow.cell (i := k + j) (by omega))
      have hp : (0 : Int) ≤ (k : Int) := by omega
      have hp' : (k : Int) ≤ 20 := by omega
      go_wp2
      go_ret
      exact ⟨_, rfl, ⟨by rw [strOf_size]; omega, decL_strOf D k (20 - k) (by omega) (fun j a b => hD.out.1 j a (by omega)) hD.out.2⟩, hbe⟩

/-- n zeros -/
def zeros (n : Nat) : ByteArray := strOf (fun _ => 48) 0 n

theorem Try.info5 : (Try.prog.info? 5).map (fun i => (i.zero, i.size, i.bytes)) = some (some (.int .u8 0), 1, 1) := by kernel_rfl

set_option maxHeartbeats 400000 in
theorem zrun_any (n : Nat) (w : World) (h : n ≤ 64) :
    Calls Try.prog 11 #[.int .i64 (n : Int)] w fun e w' => e = .returned (.string (zeros n)) ∧ Below w.heap.size w w' := by
  by_cases h0 : n = 0
  · subst h0
    go_enter Try.func11, Try.ntmps11
    go_wp2
    go_ret
    exact ⟨rfl, Below.refl _ _⟩
  · have hn : ¬ (n : Int) ≤ 0 := by omega
    have hmk := run_make_row' (P := Try.prog) 32 5 (.int .u8 0) 1 Try.underlying32 Try.info5 rfl .i64 .i64 n (by omega) (by omega)
    go_enter Try.func11, Try.ntmps11
    go_wp2
    clear hmk
    go_loopw [4] (fun i wr => ∃ k : Nat, k ≤ n ∧ i = .int .i64 k ∧ wr.rowIs w.heap.size 5 n (fun j => .int .u8 (if j < k then 48 else 0)) ∧ Below w.heap.size w wr) (fun i _ => n - (intOf i).toNat)
    case atStart => exact ⟨0, Nat.zero_le _, rfl, (World.rowIs_made w (.int .u8 0) n 5).congr (fun i _ => by simp), (Below.refl _ _).alloc (Nat.le_refl _) _⟩
    case round =>
      obtain ⟨k, hk, rfl, hrow, hbe⟩ := hrel
      by_cases hlt : k < n
      · have r0 := hrow.cell (i := k) hlt
        have r1 := hrow.frozen k
        go_wp2
        go_roundw
        case rel => exact ⟨k + 1, by omega, by go_num, (hrow.set k _).congr (fun i _ => by
          by_cases e : i = k
          · subst e; simp
          · have : (i < k + 1) = (i < k) := by simp; omega
            simp [e, this]), hbe.setCell (Nat.le_refl _) _⟩
        case measure => simp [intOf]; omega
      · have hcv := conv_str wr w.heap.size 0 n n (fun _ => 48) (fun j hj => by
          rw [Nat.zero_add, hrow.cell hj, if_pos (by omega)])
        go_wp2
        go_ret
        exact ⟨rfl, hbe⟩

set_option maxHeartbeats 400000 in
theorem dec_zero (w : World) :
    Calls Try.prog 10 #[.int .u64 0] w fun e w' => e = .returned (.string ⟨#[48]⟩) ∧ w' = w := by
  go_enter Try.func10, Try.ntmps10
  go_wp2
  go_ret
  exact ⟨rfl, rfl⟩

/-- b1Decimal -/
theorem dec_any (u : Int) (w : World) (h0 : 0 ≤ u) (h1 : u < 18446744073709551616) :
    Calls Try.prog 10 #[.int .u64 u] w fun e w' => ∃ d : ByteArray, e = .returned (.string d) ∧ (d.size ≤ 20 ∧ decL d.data.toList) ∧ Below w.heap.size w w' := by
  by_cases hz : u = 0
  · subst hz
    refine (dec_zero w).mono ?_
    rintro e w' ⟨rfl, rfl⟩
    exact ⟨_, rfl, ⟨by decide, 48, [], rfl, ⟨by decide, by decide⟩, fun _ => rfl, fun x hx => by cases hx⟩, Below.refl _ _⟩
  · obtain ⟨n, rfl⟩ : ∃ n : Nat, u = (n : Int) := ⟨u.toNat, by omega⟩
    exact dec_pos n w (by omega) (by omega)

end Go.Proofs.Qxb6604238a
