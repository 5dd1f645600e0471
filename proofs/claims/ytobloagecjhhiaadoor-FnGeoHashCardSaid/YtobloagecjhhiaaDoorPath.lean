/-
  The path of a place through the cells of its geohash: plain laws.
-/
import Derived.Test.YtobloagecjhhiaaDoorGeo
namespace Go.Proofs.YtobloagecjhhiaaDoor
open Go.RowKit Fl

def turnV (s : St) (x y : Nat) : Nat := if s.ev then x else y
def midOf (s : St) : Nat := if s.ev then mid s.x0 s.x1 else mid s.y0 s.y1
/-- Is the place beyond the middle? -/
def beyond (s : St) (x y : Nat) : Bool := gtB (turnV s x y) (midOf s)
/-- The cell behind t halvings. -/
def path (x y : Nat) : Nat → St
  | 0 => St.start
  | t + 1 => half (path x y t) (beyond (path x y t) x y)
def pbit (x y t : Nat) : Bool := beyond (path x y t) x y
/-- The first j bits of letter i. -/
def kv (x y i : Nat) : Nat → Nat
  | 0 => 0
  | j + 1 => 2 * kv x y i j + (pbit x y (5 * i + j)).toNat

theorem kv_lt (x y i j : Nat) : kv x y i j < 2^j := by
  induction j with
  | zero => exact Nat.one_pos
  | succ j ih =>
    show 2 * kv x y i j + _ < 2^(j + 1)
    have := Bool.toNat_le (pbit x y (5 * i + j))
    rw [Nat.pow_succ]
    omega

theorem five_bits (b0 b1 b2 b3 b4 : Bool) : let k := 2 * (2 * (2 * (2 * (2 * 0 + b0.toNat) + b1.toNat) + b2.toNat) + b3.toNat) + b4.toNat
    k.testBit 4 = b0 ∧ k.testBit 3 = b1 ∧ k.testBit 2 = b2 ∧ k.testBit 1 = b3 ∧ k.testBit 0 = b4 := by
  cases b0 <;> cases b1 <;> cases b2 <;> cases b3 <;> cases b4 <;> decide

theorem kv_bit (x y i j : Nat) (hj : j < 5) : (kv x y i 5).testBit (4 - j) = pbit x y (5 * i + j) := by
  have h := five_bits (pbit x y (5 * i + 0)) (pbit x y (5 * i + 1)) (pbit x y (5 * i + 2)) (pbit x y (5 * i + 3)) (pbit x y (5 * i + 4))
  have : j = 0 ∨ j = 1 ∨ j = 2 ∨ j = 3 ∨ j = 4 := by omega
  rcases this with e | e | e | e | e <;> subst e
  · exact h.1
  · exact h.2.1
  · exact h.2.2.1
  · exact h.2.2.2.1
  · exact h.2.2.2.2

theorem path_five (x y i j : Nat) (hj : j ≤ 5) : five (kv x y i 5) (path x y (5 * i)) j = path x y (5 * i + j) := by
  induction j with
  | zero => rfl
  | succ j ih =>
    show half (five _ _ j) _ = half (path x y (5 * i + j)) _
    rw [ih (by omega), kv_bit x y i j (by omega)]
    rfl

theorem path_after (x y i : Nat) : after (fun i => kv x y i 5) i = path x y (5 * i) := by
  induction i with
  | zero => rfl
  | succ i ih =>
    show five (kv x y i 5) (after (fun i => kv x y i 5) i) 5 = _
    rw [ih, path_five x y i 5 (by omega)]
    rfl

theorem good_path (x y t : Nat) : Good (path x y t) := by
  induction t with
  | zero => exact good_start
  | succ t ih => exact good_half ih _

theorem path_ev (x y t : Nat) : (path x y t).ev = decide (t % 2 = 0) := by
  induction t with
  | zero => rfl
  | succ t ih =>
    show (half (path x y t) _).ev = _
    unfold half
    rw [ih]
    by_cases h : t % 2 = 0
    · rw [if_pos (decide_eq_true h)]
      show false = _
      rw [decide_eq_false (by omega)]
    · rw [if_neg (by rw [decide_eq_false h]; decide)]
      show true = _
      rw [decide_eq_true (by omega)]

/-! The cell's width, and that the place lies in it. -/
theorem pw (L : Nat) (h : 1 ≤ L) : 2^L = 2 * 2^(L - 1) := by
  obtain ⟨k, rfl⟩ : ∃ k, L = k + 1 := ⟨L - 1, by omega⟩
  rw [Nat.add_sub_cancel, Nat.pow_succ, Nat.mul_comm]

theorem bound_180b (L : Nat) (hL : L = 1082) : V 4640537203540230144 ≤ ((2^L : Nat) : Int) := by
  have h := c_at (L - 80) 27 6333186975989760 4640537203540230144 (by omega) (by omega) (by omega) (by omega) (by omega)
  have e : 2^L = 2^80 * 2^(L - 80) := by rw [← Nat.pow_add, show 80 + (L - 80) = L by omega]
  rw [h.1, e]
  exact Int.ofNat_le.2 (Nat.mul_le_mul_right _ (by decide))

theorem mid_close {a b : Nat} (h : Ends a b) (L : Nat) (hL : L = 1032) : (2 * V (mid a b) - (V a + V b)).natAbs ≤ 2^L := by
  obtain ⟨s, q1, q2, h1, h2⟩ := mid_law h
  have hb := bound_180b (L + 50) (by omega)
  have e51 : 2^(L + 50) = 2^50 * 2^L := by rw [Nat.pow_add, Nat.mul_comm]
  have e1 : 2^L = 2 * 2^(L - 1) := pw L (by omega)
  have e2 : 2^(L - 1) = 2 * 2^(L - 2) := pw (L - 1) (by omega)
  have ht : 2^200 * 2^(L - 2) ≤ top := by rw [← Nat.pow_add]; exact top_ge _ (by omega)
  have hW := W_eq
  have hi1 : L - 1 ≤ 2000 := by omega
  have hi2 : L - 2 ≤ 2000 := by omega
  obtain ⟨vt, ft⟩ := two_V W rfl
  have vt := Lib.hid vt
  clear hL
  rw [e51, e1, e2] at hb
  rw [e1, e2]
  have e1' : 2^(L - 1) = 2 * 2^(L - 2) := e2
  clear e51 e1 e2
  obtain ⟨A, hA⟩ : ∃ A, A = 2^(L - 2) := ⟨_, rfl⟩
  have hA0 : 0 < 2^(L - 2) := pow_pos2 _
  rw [← hA] at hb ht hA0 ⊢
  have l1 := h.lo
  have l2 := h.le
  have l3 := h.hi
  obtain ⟨s', p1, p2⟩ := add_rnd h.fa h.fb (by omega)
  rw [q1] at p1
  obtain rfl := Option.some.inj p1
  have r1 := p2.err (L - 1) hi1 (by omega) (by rw [e1', ← hA]; omega)
  rw [e1', ← hA] at r1
  obtain ⟨m', p3, p4⟩ := div_const (k := W) (e := 0) p2.fin ft (by decide) vt.out (by omega) (by
    rw [Nat.pow_zero, Nat.mul_one]; omega)
  rw [q2] at p3
  have hm := Option.some.inj p3
  rw [← hm, Nat.pow_zero] at p4
  have r2 := p4.err (L - 2) hi2 (by omega) (by rw [← hA]; omega)
  rw [← hA] at r2
  omega

/-- The place within the ends, and how wide they are behind p halvings. -/
structure Held (a b v p : Nat) (W0 E : Int) : Prop where
  lo : V a ≤ V v
  hi : V v ≤ V b
  wide : ((2^p : Nat) : Int) * (V b - V a) ≤ W0 + ((2^p : Nat) : Int) * E

theorem Held.left {a b v p : Nat} {W0 E : Int} (h : Held a b v p W0 E) (m : Nat) (hm : V v ≤ V m) (hc : (2 * V m - (V a + V b)).natAbs ≤ E) : Held a m v (p + 1) W0 E := by
  refine ⟨h.lo, hm, ?_⟩
  have e : ((2^(p + 1) : Nat) : Int) = 2 * ((2^p : Nat) : Int) := by rw [Nat.pow_succ']; rfl
  have h2 : 2 * (V m - V a) ≤ (V b - V a) + E := by omega
  have h3 := Int.mul_le_mul_of_nonneg_left h2 (Int.natCast_nonneg (2^p))
  have h4 := h.wide
  rw [e]
  rw [Int.mul_add] at h3
  have e1 : ((2^p : Nat) : Int) * (2 * (V m - V a)) = 2 * ((2^p : Nat) : Int) * (V m - V a) := by rw [← Int.mul_assoc, Int.mul_comm _ 2]
  have e2 : 2 * ((2^p : Nat) : Int) * E = ((2^p : Nat) : Int) * E + ((2^p : Nat) : Int) * E := by rw [Int.mul_assoc]; omega
  rw [e1] at h3
  rw [e2]
  omega

theorem Held.right {a b v p : Nat} {W0 E : Int} (h : Held a b v p W0 E) (m : Nat) (hm : V m ≤ V v) (hc : (2 * V m - (V a + V b)).natAbs ≤ E) : Held m b v (p + 1) W0 E := by
  refine ⟨hm, h.hi, ?_⟩
  have e : ((2^(p + 1) : Nat) : Int) = 2 * ((2^p : Nat) : Int) := by rw [Nat.pow_succ']; rfl
  have h2 : 2 * (V b - V m) ≤ (V b - V a) + E := by omega
  have h3 := Int.mul_le_mul_of_nonneg_left h2 (Int.natCast_nonneg (2^p))
  have h4 := h.wide
  rw [e]
  rw [Int.mul_add] at h3
  have e1 : ((2^p : Nat) : Int) * (2 * (V b - V m)) = 2 * ((2^p : Nat) : Int) * (V b - V m) := by rw [← Int.mul_assoc, Int.mul_comm _ 2]
  have e2 : 2 * ((2^p : Nat) : Int) * E = ((2^p : Nat) : Int) * E + ((2^p : Nat) : Int) * E := by rw [Int.mul_assoc]; omega
  rw [e1] at h3
  rw [e2]
  omega
end Go.Proofs.YtobloagecjhhiaaDoor
