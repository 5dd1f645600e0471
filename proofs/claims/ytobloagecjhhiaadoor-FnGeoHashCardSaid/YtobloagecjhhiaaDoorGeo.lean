/-
  A geohash's cell: its ends are halved in turn, a bit a time: plain laws on doubles.
-/
import Derived.Test.YtobloagecjhhiaaDoorMortL
import Derived.Test.YtobloagecjhhiaaDoorEnc
namespace Go.Proofs.YtobloagecjhhiaaDoor
open Go.RowKit Fl

/-- The rounded middle. -/
def mid (a b : Nat) : Nat := ((Ieee.double.add a b).bind fun s => Ieee.double.div s 4611686018427387904).getD 0

/-- Two ends within 180 degrees. -/
structure Ends (a b : Nat) : Prop where
  fa : Fin64 a
  fb : Fin64 b
  lo : - V 4640537203540230144 ≤ V a
  le : V a ≤ V b
  hi : V b ≤ V 4640537203540230144

theorem double_rep {a : Nat} (L : Nat) (hL : L ≤ 1100) (fa : Fin64 a) (h : (V a).natAbs ≤ 2^L) : ∃ c, Fin64 c ∧ V c = 2 * V a := by
  obtain ⟨m, i, _, hv, hm⟩ := read_V a fa
  by_cases h0 : m = 0
  · have : V a = 0 := by rw [hv, h0]; unfold nv; simp
    exact ⟨0, fin_zero, by rw [V_zero, this]; rfl⟩
  · have hi : i ≤ L := by
      rw [hv, nv_natAbs] at h
      have h1 : 1 * 2^i ≤ m * 2^i := Nat.mul_le_mul_right _ (by omega)
      rcases Nat.lt_or_ge L i with h2 | h2
      · have h3 : 2^L < 2^i := Nat.pow_lt_pow_right (by omega) h2
        omega
      · exact h2
    obtain ⟨c, fc, hc⟩ := rep m (i + 1) (by omega) (by omega)
    have e : m * 2^(i + 1) = 2 * (m * 2^i) := by rw [Nat.pow_succ, ← Nat.mul_assoc, Nat.mul_comm]
    rw [e] at hc
    unfold nv at hv
    cases hs : (a / 2^63 % 2 == 1)
    · rw [hs] at hv
      simp only [Bool.false_eq_true, if_false] at hv
      exact ⟨c, fc, by rw [hc, hv, Int.natCast_mul]; rfl⟩
    · rw [hs] at hv
      simp only [if_true] at hv
      obtain ⟨d, fd, hd⟩ := rep_neg fc
      refine ⟨d, fd, ?_⟩
      rw [hd, hc, hv, Int.natCast_mul, Int.mul_neg]; rfl

theorem two_V (L : Nat) (hL : L = 1074) : V 4611686018427387904 = ((2 * 2^L : Nat) : Int) ∧ Fin64 4611686018427387904 := by
  have h := V_const (L - 51) (2^52) (by omega) (Or.inr (by omega)) (by omega)
  have e : (L - 51) * 2^52 + 2^52 = 4611686018427387904 := by omega
  have e2 : 2^52 * 2^(L - 51) = 2 * 2^L := by rw [← Nat.pow_add, ← Nat.pow_succ', show 52 + (L - 51) = L + 1 by omega]
  rw [e, e2] at h
  exact h

theorem bound_180 (L : Nat) (hL : L = 1083) : V 4640537203540230144 ≤ ((2^L : Nat) : Int) := by
  have h := c_at (L - 81) 27 6333186975989760 4640537203540230144 (by omega) (by omega) (by omega) (by omega) (by omega)
  have e : 2^L = 2^81 * 2^(L - 81) := by rw [← Nat.pow_add]; congr 1; omega
  rw [h.1, e]
  exact Int.ofNat_le.2 (Nat.mul_le_mul_right _ (by decide))

theorem mid_law {a b : Nat} (h : Ends a b) : ∃ s, Ieee.double.add a b = some s ∧ Ieee.double.div s 4611686018427387904 = some (mid a b) ∧ Ends a (mid a b) ∧ Ends (mid a b) b := by
  obtain ⟨fa, fb, lo, le, hi⟩ := h
  have hb := bound_180 _ rfl
  obtain ⟨K, hK⟩ : ∃ K, K = 1083 := ⟨_, rfl⟩
  rw [← hK] at hb
  have ht : 2^200 * 2^K ≤ top := by rw [← Nat.pow_add]; exact top_ge _ (by omega)
  have hW := W_eq
  have ha2 : (V a).natAbs ≤ 2^K := by omega
  have hb2 : (V b).natAbs ≤ 2^K := by omega
  obtain ⟨c, fc, hc⟩ := double_rep K (by omega) fa ha2
  obtain ⟨d, fd, hd⟩ := double_rep K (by omega) fb hb2
  obtain ⟨s, s1, s2⟩ := add_rnd fa fb (by omega)
  have g1 := s2.ge (by omega) fc (by omega)
  have g2 := s2.le (by omega) fd (by omega)
  have hsb : (V s).natAbs ≤ 2 * 2^K := by omega
  obtain ⟨m, m1, m2⟩ := div_const (k := W) (e := 0) s2.fin (two_V W rfl).2 (by decide) (two_V W rfl).1 (by omega) (by
    rw [Nat.pow_zero, Nat.mul_one]; omega)
  rw [Nat.pow_zero] at m2
  have k1 := m2.ge (by omega) fa (by omega)
  have k2 := m2.le (by omega) fb (by omega)
  have hm : mid a b = m := by unfold mid; rw [s1]; show (Ieee.double.div s _).getD 0 = m; rw [m1]; rfl
  rw [hm]
  exact ⟨s, s1, m1, ⟨fa, m2.fin, lo, k1, by omega⟩, ⟨m2.fin, fb, by omega, k2, hi⟩⟩

/-- A cell, and whose turn it is: the longitude's ends x, the latitude's ends y. -/
structure St where
  ev : Bool
  x0 : Nat
  x1 : Nat
  y0 : Nat
  y1 : Nat

def St.start : St := ⟨true, 13863909240395005952, 4640537203540230144, 13859405640767635456, 4636033603912859648⟩
def half (s : St) (b : Bool) : St :=
  if s.ev then ⟨false, if b then mid s.x0 s.x1 else s.x0, if b then s.x1 else mid s.x0 s.x1, s.y0, s.y1⟩
  else ⟨true, s.x0, s.x1, if b then mid s.y0 s.y1 else s.y0, if b then s.y1 else mid s.y0 s.y1⟩
/-- Behind j of letter k's five bits. -/
def five (k : Nat) (s : St) : Nat → St
  | 0 => s
  | j + 1 => half (five k s j) (k.testBit (4 - j))
/-- Behind i letters. -/
def after (v : Nat → Nat) : Nat → St
  | 0 => St.start
  | i + 1 => five (v i) (after v i) 5

structure Good (s : St) : Prop where
  x : Ends s.x0 s.x1
  y : Ends s.y0 s.y1

theorem good_start : Good St.start := by
  have n1 : V 13863909240395005952 = - V 4640537203540230144 := V_neg 4640537203540230144 (by decide)
  have n2 : V 13859405640767635456 = - V 4636033603912859648 := V_neg 4636033603912859648 (by decide)
  have h1 : 0 ≤ V 4636033603912859648 := by have := G_le (Nat.zero_le 4636033603912859648); unfold V; rw [if_neg (by decide)]; omega
  have h2 : V 4636033603912859648 ≤ V 4640537203540230144 := by
    unfold V
    rw [if_neg (by decide), if_neg (by decide)]
    exact Int.ofNat_le.2 (G_le (by decide))
  refine ⟨⟨⟨by decide, by decide⟩, ⟨by decide, by decide⟩, ?_, ?_, ?_⟩, ⟨⟨by decide, by decide⟩, ⟨by decide, by decide⟩, ?_, ?_, ?_⟩⟩ <;> simp only [St.start] <;> omega

theorem good_half {s : St} (h : Good s) (b : Bool) : Good (half s b) := by
  obtain ⟨_, _, _, hx1, hx2⟩ := mid_law h.x
  obtain ⟨_, _, _, hy1, hy2⟩ := mid_law h.y
  unfold half
  cases s.ev <;> cases b
  · exact ⟨h.x, hy1⟩
  · exact ⟨h.x, hy2⟩
  · exact ⟨hx1, h.y⟩
  · exact ⟨hx2, h.y⟩

theorem good_five {s : St} (h : Good s) (k j : Nat) : Good (five k s j) := by
  induction j with
  | zero => exact h
  | succ j ih => exact good_half ih _
theorem good_after (v : Nat → Nat) (i : Nat) : Good (after v i) := by
  induction i with
  | zero => exact good_start
  | succ i ih => exact good_five ih _ _

theorem after_congr {v v' : Nat → Nat} (i : Nat) (h : ∀ j, j < i → v j = v' j) : after v i = after v' i := by
  induction i with
  | zero => rfl
  | succ i ih =>
    show five (v i) (after v i) 5 = five (v' i) (after v' i) 5
    rw [h i (by omega), ih (fun j hj => h j (by omega))]

/-- The letter's place in the alphabet, sought from the front: the last that fits; -1: none. -/
def idx : Nat → Nat → Int
  | 0, _ => -1
  | j + 1, c => if c = lt j then (j : Int) else idx j c

theorem idx_dec (n c : Nat) : (idx n c = -1 ∧ decT n c = 255) ∨ ∃ k : Nat, k < n ∧ idx n c = k ∧ decT n c = k := by
  induction n with
  | zero => exact Or.inl ⟨rfl, rfl⟩
  | succ n ih =>
    by_cases h : c = lt n
    · right
      exact ⟨n, by omega, by show (if c = lt n then _ else _) = _; rw [if_pos h], by show (if c = lt n then _ else _) = _; rw [if_pos h]⟩
    · have e1 : idx (n + 1) c = idx n c := by show (if c = lt n then _ else _) = _; rw [if_neg h]
      have e2 : decT (n + 1) c = decT n c := by show (if c = lt n then _ else _) = _; rw [if_neg h]
      rw [e1, e2]
      rcases ih with h1 | ⟨k, h1, h2⟩
      · exact Or.inl h1
      · exact Or.inr ⟨k, by omega, h2⟩
end Go.Proofs.YtobloagecjhhiaaDoor
