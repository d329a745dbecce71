/-
  Seat b6604238a: what a written number is to the automaton. No walk here.
-/
import Derived.Test.Qxb6604238aDec
namespace Go.Proofs.Qxb6604238a
open Json

theorem toL_append (a b : ByteArray) : (a ++ b).data.toList = a.data.toList ++ b.data.toList := by simp

/-- digits, from a state that they keep -/
theorem run_digs (q : Int) (hq : ∀ c, 48 ≤ c → c ≤ 57 → stepJ q c = q) (l : List UInt8) (h : ∀ x ∈ l, isDig x) : runJ q l = q := by
  induction l with
  | nil => rfl
  | cons c l ih =>
    have hc := h c (by simp)
    show runJ (stepJ q (c.toNat : Int)) l = q
    rw [hq _ hc.1 hc.2]
    exact ih (fun x hx => h x (by simp [hx]))

theorem k3 (c : Int) (h : 48 ≤ c) (h' : c ≤ 57) : stepJ 3 c = 3 := by unfold stepJ; simp [h, h']
theorem k5 (c : Int) (h : 48 ≤ c) (h' : c ≤ 57) : stepJ 5 c = 5 := by unfold stepJ; simp [h, h']
theorem k8 (c : Int) (h : 48 ≤ c) (h' : c ≤ 57) : stepJ 8 c = 8 := by unfold stepJ; simp [h, h']

theorem run_body {q : Int} (hq : q = 0 ∨ q = 1) {l : List UInt8} (h : decL l) : runJ q l = 2 ∨ runJ q l = 3 := by
  obtain ⟨c, r, rfl, hc, hz, hr⟩ := h
  by_cases h48 : c.toNat = 48
  · rw [hz h48]
    left
    show stepJ q (c.toNat : Int) = 2
    rw [h48]
    rcases hq with rfl | rfl <;> rfl
  · right
    show runJ (stepJ q (c.toNat : Int)) r = 3
    have : stepJ q (c.toNat : Int) = 3 := by
      obtain ⟨h1, h2⟩ := hc
      rcases hq with rfl | rfl <;> (unfold stepJ; simp; omega)
    rw [this]
    exact run_digs 3 k3 r hr

/-- digits, at least one, from a state that a digit leads out of into one that digits keep -/
theorem run_some (p q : Int) (hp : ∀ c, 48 ≤ c → c ≤ 57 → stepJ p c = q) (hq : ∀ c, 48 ≤ c → c ≤ 57 → stepJ q c = q) {l : List UInt8} (hl : l ≠ []) (h : ∀ x ∈ l, isDig x) : runJ p l = q := by
  cases l with
  | nil => exact absurd rfl hl
  | cons c l =>
    have hc := h c (by simp)
    show runJ (stepJ p (c.toNat : Int)) l = q
    rw [hp _ hc.1 hc.2]
    exact run_digs q hq l (fun x hx => h x (by simp [hx]))

theorem decL_digs {l : List UInt8} (h : decL l) : l ≠ [] ∧ ∀ x ∈ l, isDig x := by
  obtain ⟨c, r, rfl, hc, _, hr⟩ := h
  refine ⟨by simp, fun x hx => ?_⟩
  rcases List.mem_cons.1 hx with rfl | hx
  · exact hc
  · exact hr x hx

theorem zeros_digs (n : Nat) : ∀ x ∈ (zeros n).data.toList, isDig x := by
  intro x hx
  unfold zeros at hx
  rw [strOf_list] at hx
  simp only [List.mem_map, List.mem_range] at hx
  obtain ⟨j, _, rfl⟩ := hx
  exact (dig_of (by omega) (by omega)).1
theorem zeros_size (n : Nat) : (zeros n).size = n := strOf_size _ _ _

theorem s4 (c : Int) (h : 48 ≤ c) (h' : c ≤ 57) : stepJ 4 c = 5 := by unfold stepJ; simp [h, h']
theorem s6 (c : Int) (h : 48 ≤ c) (h' : c ≤ 57) : stepJ 6 c = 8 := by unfold stepJ; simp; omega
theorem s7 (c : Int) (h : 48 ≤ c) (h' : c ≤ 57) : stepJ 7 c = 8 := by unfold stepJ; simp [h, h']

/-- what the optional fraction does -/
def fracL (l : List UInt8) : Prop := ∀ q : Int, q = 2 ∨ q = 3 → runJ q l = 2 ∨ runJ q l = 3 ∨ runJ q l = 5
/-- what the optional fraction and the optional exponent do -/
def restL (l : List UInt8) : Prop := ∀ q : Int, q = 2 ∨ q = 3 → runJ q l = 2 ∨ runJ q l = 3 ∨ runJ q l = 5 ∨ runJ q l = 8

theorem frac_none : fracL [] := fun q h => by rcases h with rfl | rfl <;> simp [runJ]
theorem frac_some {z d : List UInt8} (hz : ∀ x ∈ z, isDig x) (hd : decL d) : fracL ([46] ++ z ++ d) := by
  intro q hq
  right; right
  obtain ⟨hn, hd'⟩ := decL_digs hd
  rw [List.append_assoc, run_append]
  have : runJ q [46] = 4 := by rcases hq with rfl | rfl <;> rfl
  rw [this]
  exact run_some 4 5 s4 k5 (by simp [hn]) (fun x hx => by
    rcases List.mem_append.1 hx with h | h
    · exact hz x h
    · exact hd' x h)

theorem rest_frac {l : List UInt8} (h : fracL l) : restL l := fun q hq => by
  rcases h q hq with h | h | h <;> simp [h]

theorem rest_exp {l : List UInt8} (h : fracL l) (e : UInt8) (he : e.toNat = 101 ∨ e.toNat = 69) {g d : List UInt8} (hg : g = [] ∨ g = [45] ∨ g = [43]) (hd : decL d) : restL (l ++ [e] ++ g ++ d) := by
  intro q hq
  right; right; right
  obtain ⟨hn, hd'⟩ := decL_digs hd
  rw [run_append, run_append, run_append]
  have h6 : runJ (runJ q l) [e] = 6 := by
    show stepJ (runJ q l) (e.toNat : Int) = 6
    rcases h q hq with h | h | h <;> rw [h] <;> rcases he with he | he <;> rw [he] <;> rfl
  rw [h6]
  rcases hg with rfl | rfl | rfl
  · exact run_some 6 8 s6 k8 hn hd'
  · exact run_some 7 8 s7 k8 hn hd'
  · exact run_some 7 8 s7 k8 hn hd'

def signL (l : List UInt8) : Prop := l = [] ∨ l = [45]
theorem run_sign {l : List UInt8} (h : signL l) : runJ 0 l = 0 ∨ runJ 0 l = 1 := by rcases h with rfl | rfl <;> simp [runJ, stepJ]

/-- the state behind the whole -/
theorem run_written {g b r : List UInt8} (hg : signL g) (hb : decL b) (hr : restL r) : runJ 0 (g ++ b ++ r) = 2 ∨ runJ 0 (g ++ b ++ r) = 3 ∨ runJ 0 (g ++ b ++ r) = 5 ∨ runJ 0 (g ++ b ++ r) = 8 := by
  rw [run_append, run_append]
  exact hr _ (run_body (run_sign hg) hb)

theorem jn_written {g b r : ByteArray} (hg : signL g.data.toList) (hb : decL b.data.toList) (hr : restL r.data.toList) : jn (g ++ b ++ r) = true := by
  unfold jn
  rw [toL_append, toL_append]
  rcases run_written hg hb hr with h | h | h | h <;> rw [h] <;> rfl

theorem jn_zero {g b r : ByteArray} (hg : signL g.data.toList) (hb : decL b.data.toList) : jn (g ++ ⟨#[48]⟩ ++ b ++ r) = false := by
  unfold jn
  rw [toL_append, toL_append, toL_append]
  obtain ⟨c, t, hc, hd, _, _⟩ := hb
  rw [hc, run_append, run_append, run_append]
  have h2 : runJ (runJ 0 g.data.toList) ((⟨#[48]⟩ : ByteArray).data.toList) = 2 := by rcases run_sign hg with h | h <;> rw [h] <;> rfl
  rw [h2]
  have h3 : runJ 2 (c :: t) = -1 := by
    show runJ (stepJ 2 (c.toNat : Int)) t = -1
    have : stepJ 2 (c.toNat : Int) = -1 := by obtain ⟨h1, h2⟩ := hd; unfold stepJ; simp; omega
    rw [this]
    exact run_dead t
  rw [h3, run_dead]
  rfl

theorem jn_plus (s : ByteArray) : jn (⟨#[43]⟩ ++ s) = false := by
  unfold jn
  rw [toL_append, run_append]
  have : runJ 0 ((⟨#[43]⟩ : ByteArray).data.toList) = -1 := rfl
  rw [this, run_dead]
  rfl

theorem jn_dot {g b r : ByteArray} (hg : signL g.data.toList) (hb : decL b.data.toList) (hr : restL r.data.toList) : jn (g ++ b ++ r ++ ⟨#[46]⟩) = false := by
  unfold jn
  rw [toL_append, toL_append, toL_append, run_append]
  rcases run_written hg hb hr with h | h | h | h <;> rw [h] <;> rfl
theorem jn_e {g b r : ByteArray} (hg : signL g.data.toList) (hb : decL b.data.toList) (hr : restL r.data.toList) : jn (g ++ b ++ r ++ ⟨#[101]⟩) = false := by
  unfold jn
  rw [toL_append, toL_append, toL_append, run_append]
  rcases run_written hg hb hr with h | h | h | h <;> rw [h] <;> rfl

end Go.Proofs.Qxb6604238a
