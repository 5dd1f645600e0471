/-
  Doubles as whole numbers of units of 2^-1074; what the operations of IEEE 754 give. Plain Lean; no program in sight.
-/
import Ieee.Arith
import Derived.Laws.FloatBits
import Derived.Laws.FloatArith
namespace Fl
open Ieee

/-- The magnitude of a rung, in units of 2^-1074. -/
def G (r : Nat) : Nat := if r < 2^52 then r else (2^52 + r % 2^52) * 2^(r / 2^52 - 1)

theorem G_form (L k : Nat) (hk : k ≤ 2^53) (h : L = 0 ∨ 2^52 ≤ k) : G (L * 2^52 + k) = k * 2^L := by
  unfold G
  by_cases h1 : L * 2^52 + k < 2^52
  · rw [if_pos h1]
    have : L = 0 := by omega
    subst this; simp
  · rw [if_neg h1]
    have h52 : 2^52 ≤ k := by omega
    by_cases hk2 : k = 2^53
    · subst hk2
      have e1 : (L * 2^52 + 2^53) % 2^52 = 0 := by omega
      have e2 : (L * 2^52 + 2^53) / 2^52 - 1 = L + 1 := by omega
      rw [e1, e2, Nat.pow_succ 2 L, Nat.add_zero, Nat.mul_comm (2^L) 2, ← Nat.mul_assoc]
    · have e1 : (L * 2^52 + k) % 2^52 = k - 2^52 := by omega
      have e2 : (L * 2^52 + k) / 2^52 - 1 = L := by omega
      rw [e1, e2, show 2^52 + (k - 2^52) = k by omega]

theorem pow_pos2 (n : Nat) : 0 < 2^n := Nat.two_pow_pos n

theorem rung_form (r : Nat) : ∃ L k, r = L * 2^52 + k ∧ k < 2^53 ∧ (L = 0 ∨ 2^52 ≤ k) := by
  by_cases h : r < 2^52
  · exact ⟨0, r, by omega, by omega, Or.inl rfl⟩
  · exact ⟨r / 2^52 - 1, r % 2^52 + 2^52, by omega, by omega, Or.inr (by omega)⟩

theorem G_succ (r : Nat) : G r < G (r + 1) := by
  obtain ⟨L, k, rfl, hk, h⟩ := rung_form r
  rw [G_form L k (by omega) h, Nat.add_assoc, G_form L (k + 1) (by omega) (by omega), Nat.succ_mul]
  have := pow_pos2 L
  omega

theorem G_lt {r s : Nat} (h : r < s) : G r < G s := by
  induction s with
  | zero => omega
  | succ s ih =>
    by_cases e : r = s
    · subst e; exact G_succ r
    · exact Nat.lt_trans (ih (by omega)) (G_succ s)

theorem G_le {r s : Nat} (h : r ≤ s) : G r ≤ G s := by
  by_cases e : r = s
  · subst e; exact Nat.le_refl _
  · exact Nat.le_of_lt (G_lt (by omega))

theorem G_inj {r s : Nat} (h : G r = G s) : r = s := by
  rcases Nat.lt_trichotomy r s with h1 | h1 | h1
  · have := G_lt h1; omega
  · exact h1
  · have := G_lt h1; omega

theorem lt_of_G {r s : Nat} (h : G r < G s) : r < s := by
  rcases Nat.lt_or_ge r s with h1 | h1
  · exact h1
  · have := G_le h1; omega

/-- The rung of a significand that is nearest to A/B is the nearest rung. -/
theorem core (L kept A B : Nat) (hB : 0 < B) (near1 : 2 * (kept * 2^L * B) ≤ 2 * A + 2^L * B) (near2 : 2 * A ≤ 2 * (kept * 2^L * B) + 2^L * B)
    (h1 : L = 0 ∨ 2^52 * 2^L * B ≤ A) (hk : kept ≤ 2^53) (hk2 : L = 0 ∨ 2^52 ≤ kept) (r : Nat) :
    ((G (L * 2^52 + kept) * B : Nat) - A : Int).natAbs ≤ ((G r * B : Nat) - A : Int).natAbs := by
  have hX := G_form L kept hk hk2
  rw [hX]
  rcases Nat.lt_trichotomy r (L * 2^52 + kept) with h | h | h
  · by_cases hb : L = 0 ∨ 2^52 < kept
    · have hle := G_le (show r ≤ L * 2^52 + (kept - 1) by omega)
      rw [G_form L (kept - 1) (by omega) (by omega)] at hle
      have h2 := Nat.mul_le_mul_right B hle
      have hk1 : 1 ≤ kept := by omega
      have e : (kept - 1) * 2^L * B + 2^L * B = kept * 2^L * B := by
        rw [← Nat.add_mul, ← Nat.succ_mul]; congr 2; omega
      omega
    · have e : kept = 2^52 := by omega
      subst e
      have hlt := G_lt h
      rw [hX] at hlt
      have h2 := Nat.mul_lt_mul_of_pos_right hlt hB
      omega
  · rw [h, hX]; exact Nat.le_refl _
  · have hle : kept * 2^L + 2^L ≤ G r := by
      by_cases hb : kept < 2^53
      · have hle := G_le (show L * 2^52 + (kept + 1) ≤ r by omega)
        rw [G_form L (kept + 1) (by omega) (by omega), Nat.succ_mul] at hle
        exact hle
      · have hle := G_le (show (L + 1) * 2^52 + (2^52 + 1) ≤ r by omega)
        rw [G_form (L + 1) (2^52 + 1) (by omega) (by omega), Nat.pow_succ] at hle
        have := pow_pos2 L
        have e : kept = 2^53 := by omega
        subst e; omega
    have h2 := Nat.mul_le_mul_right B hle
    rw [Nat.add_mul] at h2
    omega

theorem cut_near (neg : Bool) (n drop : Nat) :
    2 * (Toward.even.cut neg n drop * 2^drop) ≤ 2 * n + 2^drop ∧ 2 * n ≤ 2 * (Toward.even.cut neg n drop * 2^drop) + 2^drop := by
  unfold Toward.cut
  simp only [Nat.one_shiftLeft]
  by_cases hd : drop ≤ n.log2 + 2
  · rw [Nat.min_eq_left hd]
    have hdm := Nat.div_add_mod n (2^drop)
    have hm := Nat.mod_lt n (pow_pos2 drop)
    generalize hg : 2^drop = g at *
    generalize hl : n / g = low at *
    generalize hr : n % g = rest at *
    have e : low * g = g * low := Nat.mul_comm _ _
    by_cases c : (decide (g < 2 * rest) || (g == 2 * rest && low % 2 == 1)) = true
    · simp only [c, Bool.toNat_true, Nat.add_mul]
      simp only [Bool.or_eq_true, decide_eq_true_eq, Bool.and_eq_true, beq_iff_eq] at c
      omega
    · simp only [Bool.not_eq_true] at c
      simp only [c, Bool.toNat_false, Nat.add_zero]
      simp only [Bool.or_eq_false_iff, decide_eq_false_iff_not] at c
      omega
  · rw [Nat.min_eq_right (by omega)]
    have hlt : n < 2^(n.log2 + 1) := Nat.lt_log2_self
    have e2 : 2^(n.log2 + 2) = 2 * 2^(n.log2 + 1) := by rw [Nat.pow_succ 2 (n.log2 + 1)]; omega
    have hlow : n / 2^(n.log2 + 2) = 0 := Nat.div_eq_of_lt (by omega)
    have hrest : n % 2^(n.log2 + 2) = n := Nat.mod_eq_of_lt (by omega)
    have hpow : 2^(n.log2 + 2) ≤ 2^drop := Nat.pow_le_pow_right (by omega) (by omega)
    rw [hlow, hrest]
    have c : (decide (2^(n.log2 + 2) < 2 * n) || (2^(n.log2 + 2) == 2 * n && 0 % 2 == 1)) = false := by
      simp; omega
    rw [c]
    simp; omega


/-- A finite word of the double format. -/
def Fin64 (w : Nat) : Prop := w % 2^63 < 2047 * 2^52 ∧ w < 2^64

/-- Its value, in units of 2^-1074. -/
def V (w : Nat) : Int := if w / 2^63 % 2 = 1 then -(G (w % 2^63) : Int) else (G (w % 2^63) : Int)

/-- r is a double that is nearest to N/D (in units of 2^-1074). -/
structure Rnd (N : Int) (D : Nat) (r : Nat) : Prop where
  fin : Fin64 r
  near : ∀ c, Fin64 c → (V r * D - N).natAbs ≤ (V c * D - N).natAbs

theorem double_word (neg : Bool) (rung : Nat) : double.word neg rung = if neg then 2^63 + rung else rung := rfl

theorem word_fin (neg : Bool) (rung : Nat) (h : rung < 2047 * 2^52) : Fin64 (double.word neg rung) := by
  rw [double_word]; unfold Fin64; cases neg <;> simp <;> omega

theorem word_V (neg : Bool) (rung : Nat) (h : rung < 2047 * 2^52) : V (double.word neg rung) = if neg then -(G rung : Int) else (G rung : Int) := by
  rw [double_word]; unfold V
  cases neg
  · have e1 : rung / 2^63 % 2 = 0 := by omega
    have e2 : rung % 2^63 = rung := by omega
    simp only [Bool.false_eq_true, if_false, e1, e2]; simp
  · have e1 : (2^63 + rung) / 2^63 % 2 = 1 := by omega
    have e2 : (2^63 + rung) % 2^63 = rung := by omega
    simp only [if_true, e1, e2]

theorem V_abs (w : Nat) : (V w).natAbs = G (w % 2^63) := by
  unfold V; split <;> omega

/-- Nearest among the magnitudes is nearest among the words. -/
theorem rnd_of_rung {neg : Bool} {rung A B : Nat} (h : rung < 2047 * 2^52)
    (near : ∀ r, ((G rung * B : Nat) - A : Int).natAbs ≤ ((G r * B : Nat) - A : Int).natAbs) :
    Rnd (if neg then -(A : Int) else A) B (double.word neg rung) := by
  refine ⟨word_fin neg rung h, fun c _ => ?_⟩
  rw [word_V neg rung h]
  have h1 := near (c % 2^63)
  have h0 := near 0
  have g0 : G 0 = 0 := by decide
  rw [g0] at h0
  have ex : ((G rung : Int) * B) = ((G rung * B : Nat) : Int) := by push_cast; rfl
  have ec : ((G (c % 2^63) : Int) * B) = ((G (c % 2^63) * B : Nat) : Int) := by push_cast; rfl
  unfold V
  generalize (G rung * B : Nat) = x at *
  generalize (G (c % 2^63) * B : Nat) = y at *
  cases neg
  · simp only [Bool.false_eq_true, if_false]
    split
    · rw [Int.neg_mul, ex, ec]; omega
    · rw [ex, ec]; omega
  · simp only [if_true]
    split
    · rw [Int.neg_mul, Int.neg_mul, ex, ec]; omega
    · rw [Int.neg_mul, ex, ec]; omega

/-- The greatest finite magnitude. -/
def top : Nat := G (2047 * 2^52 - 1)

/-- Where the greatest finite magnitude is not exceeded, the rung is finite. -/
theorem rung_lt_of_near {rung A B : Nat} (hB : 0 < B) (hmax : A ≤ top * B)
    (near : ∀ r, ((G rung * B : Nat) - A : Int).natAbs ≤ ((G r * B : Nat) - A : Int).natAbs) : rung < 2047 * 2^52 := by
  rcases Nat.lt_or_ge rung (2047 * 2^52) with h | h
  · exact h
  · exfalso
    unfold top at hmax
    have h1 := near (2047 * 2^52 - 1)
    have h2 := G_lt (show 2047 * 2^52 - 1 < rung by omega)
    have h3 := Nat.mul_lt_mul_of_pos_right h2 hB
    generalize G (2047 * 2^52 - 1) * B = y at *
    generalize G rung * B = x at *
    omega

/-- The rung that 'nearest' comes to, written out. -/
def lastOf (mag : Nat) (place : Int) : Int := max (place + mag.log2 - 52) (-1074)
def keptOf (neg : Bool) (mag : Nat) (place : Int) : Nat :=
  Toward.even.cut neg (mag <<< (place - lastOf mag place).toNat) (lastOf mag place - place).toNat

theorem double_nearest (neg : Bool) (mag : Nat) (place : Int) (h : mag ≠ 0) :
    double.nearest neg mag place = double.word neg (min ((lastOf mag place + 1074).toNat * 2^52 + keptOf neg mag place) (2047 * 2^52)) := by
  unfold Format.nearest
  rw [if_neg h]
  have e1 : double.leastPlace = -1074 := by decide
  have e2 : double.fractionBits = 52 := rfl
  have e3 : double.binade = 2^52 := rfl
  have e4 : double.infRung = 2047 * 2^52 := by decide
  simp only [e1, e2, e3, e4]
  rw [show ((52 : Nat) : Int) = 52 from rfl]
  unfold keptOf lastOf
  congr 3

theorem kept_near (neg : Bool) (mag : Nat) (place : Int) (K : Nat) (hK : 0 ≤ place + 1074 + K) :
    2 * (keptOf neg mag place * 2^(lastOf mag place + 1074).toNat * 2^K) ≤ 2 * (mag * 2^(place + 1074 + K).toNat) + 2^(lastOf mag place + 1074).toNat * 2^K ∧
    2 * (mag * 2^(place + 1074 + K).toNat) ≤ 2 * (keptOf neg mag place * 2^(lastOf mag place + 1074).toNat * 2^K) + 2^(lastOf mag place + 1074).toNat * 2^K := by
  unfold keptOf
  have hl : -1074 ≤ lastOf mag place := Int.le_max_right _ _
  generalize lastOf mag place = last at *
  have h := cut_near neg (mag <<< (place - last).toNat) (last - place).toNat
  generalize Toward.even.cut neg (mag <<< (place - last).toNat) (last - place).toNat = k at *
  rw [Nat.shiftLeft_eq] at h
  by_cases hp : place ≤ last
  · -- digits are dropped
    have e0 : (place - last).toNat = 0 := by omega
    rw [e0, Nat.pow_zero, Nat.mul_one] at h
    obtain ⟨d, hd⟩ : ∃ d : Nat, last - place = d := ⟨(last - place).toNat, by omega⟩
    rw [hd, Int.toNat_natCast] at h
    obtain ⟨s, hs⟩ : ∃ s : Nat, place + 1074 + K = s := ⟨(place + 1074 + K).toNat, by omega⟩
    rw [hs, Int.toNat_natCast]
    have e1 : 2^(last + 1074).toNat * 2^K = 2^d * 2^s := by
      rw [← Nat.pow_add, ← Nat.pow_add]; congr 1; omega
    rw [Nat.mul_assoc k, e1]
    have h1 := Nat.mul_le_mul_right (2^s) h.1
    have h2 := Nat.mul_le_mul_right (2^s) h.2
    simp only [Nat.add_mul, Nat.mul_assoc] at h1 h2
    exact ⟨h1, h2⟩
  · obtain ⟨d, hd⟩ : ∃ d : Nat, place - last = d := ⟨(place - last).toNat, by omega⟩
    have e0 : (last - place).toNat = 0 := by omega
    rw [e0, hd, Int.toNat_natCast, Nat.pow_zero, Nat.mul_one] at h
    have hk : k = mag * 2^d := by omega
    subst hk
    have e1 : mag * 2^d * 2^(last + 1074).toNat * 2^K = mag * 2^(place + 1074 + K).toNat := by
      rw [Nat.mul_assoc, Nat.mul_assoc, ← Nat.pow_add, ← Nat.pow_add]; congr 2; omega
    rw [e1]
    omega

theorem kept_le (neg : Bool) (mag : Nat) (place : Int) (h : mag ≠ 0) : keptOf neg mag place ≤ 2^53 ∧ (lastOf mag place = -1074 ∨ 2^52 ≤ keptOf neg mag place) := by
  unfold keptOf
  have hl : lastOf mag place = max (place + mag.log2 - 52) (-1074) := rfl
  generalize lastOf mag place = last at *
  have hc := cut_near neg (mag <<< (place - last).toNat) (last - place).toNat
  generalize Toward.even.cut neg (mag <<< (place - last).toNat) (last - place).toNat = k at *
  rw [Nat.shiftLeft_eq] at hc
  have hm1 : 2^mag.log2 ≤ mag := Nat.log2_self_le h
  have hm2 : mag < 2^(mag.log2 + 1) := Nat.lt_log2_self
  by_cases hp : place ≤ last
  · have e0 : (place - last).toNat = 0 := by omega
    rw [e0, Nat.pow_zero, Nat.mul_one] at hc
    obtain ⟨d, hd⟩ : ∃ d : Nat, last - place = d := ⟨(last - place).toNat, by omega⟩
    rw [hd, Int.toNat_natCast] at hc
    have hdp := pow_pos2 d
    constructor
    · have hle : 2^(mag.log2 + 1) ≤ 2^(53 + d) := Nat.pow_le_pow_right (by omega) (by omega)
      rw [Nat.pow_add 2 53 d] at hle
      rcases Nat.lt_or_ge (2^53) k with hk | hk
      · exfalso
        have := Nat.mul_le_mul_right (2^d) (show 2^53 + 1 ≤ k from hk)
        rw [Nat.add_mul] at this
        omega
      · exact hk
    · by_cases e : last = -1074
      · exact Or.inl e
      · right
        have hge : 2^(52 + d) ≤ 2^mag.log2 := Nat.pow_le_pow_right (by omega) (by omega)
        rw [Nat.pow_add 2 52 d] at hge
        rcases Nat.lt_or_ge k (2^52) with hk | hk
        · exfalso
          have := Nat.mul_le_mul_right (2^d) (show k + 1 ≤ 2^52 from hk)
          rw [Nat.add_mul] at this
          omega
        · exact hk
  · obtain ⟨d, hd⟩ : ∃ d : Nat, place - last = d := ⟨(place - last).toNat, by omega⟩
    have e0 : (last - place).toNat = 0 := by omega
    rw [e0, hd, Int.toNat_natCast, Nat.pow_zero, Nat.mul_one] at hc
    have hk : k = mag * 2^d := by omega
    subst hk
    have h1 := Nat.mul_le_mul_right (2^d) hm1
    have h2 : mag * 2^d < 2^(mag.log2 + 1 + d) := by
      rw [Nat.pow_add 2 (mag.log2 + 1) d]; exact Nat.mul_lt_mul_of_pos_right hm2 (pow_pos2 d)
    rw [← Nat.pow_add] at h1
    constructor
    · have hle : 2^(mag.log2 + 1 + d) ≤ 2^53 := Nat.pow_le_pow_right (by omega) (by omega)
      omega
    · by_cases e : last = -1074
      · exact Or.inl e
      · right
        have hge : 2^52 ≤ 2^(mag.log2 + d) := Nat.pow_le_pow_right (by omega) (by omega)
        omega

/-- What is kept of a value A/B near 'mag * 2^place' is nearest to it: the rung is the nearest one. -/
theorem near_of (neg : Bool) (mag : Nat) (place : Int) (h : mag ≠ 0) (A B : Nat) (hB : 0 < B)
    (near1 : 2 * (keptOf neg mag place * 2^(lastOf mag place + 1074).toNat * B) ≤ 2 * A + 2^(lastOf mag place + 1074).toNat * B)
    (near2 : 2 * A ≤ 2 * (keptOf neg mag place * 2^(lastOf mag place + 1074).toNat * B) + 2^(lastOf mag place + 1074).toNat * B)
    (hlow : lastOf mag place = -1074 ∨ 2^52 * 2^(lastOf mag place + 1074).toNat * B ≤ A)
    (hmax : A ≤ top * B) :
    Rnd (if neg then -(A : Int) else A) B (double.nearest neg mag place) := by
  have hk := kept_le neg mag place h
  have hn := core (lastOf mag place + 1074).toNat (keptOf neg mag place) A B hB near1 near2 (by omega) hk.1 (by omega)
  have hr := rung_lt_of_near hB hmax hn
  rw [double_nearest neg mag place h, Nat.min_eq_left (by omega)]
  exact rnd_of_rung hr hn

theorem nearest_rnd (neg : Bool) (mag : Nat) (place : Int) (K : Nat) (hK : 0 ≤ place + 1074 + K)
    (hmax : mag * 2^(place + 1074 + K).toNat ≤ top * 2^K) :
    Rnd (if neg then -((mag * 2^(place + 1074 + K).toNat : Nat) : Int) else (mag * 2^(place + 1074 + K).toNat : Nat)) (2^K) (double.nearest neg mag place) := by
  by_cases h : mag = 0
  · subst h
    have e : double.nearest neg 0 place = double.word neg 0 := by unfold Format.nearest; rw [if_pos rfl]
    rw [e]
    refine rnd_of_rung (by omega) fun r => ?_
    have : G 0 = 0 := by decide
    rw [this]; simp
  · have hn := kept_near neg mag place K hK
    refine near_of neg mag place h _ _ (pow_pos2 K) hn.1 hn.2 ?_ hmax
    by_cases hl : lastOf mag place = -1074
    · exact Or.inl hl
    · right
      have hl2 : lastOf mag place = place + mag.log2 - 52 := by unfold lastOf at *; omega
      have hl3 : -1074 ≤ lastOf mag place := Int.le_max_right _ _
      have hm1 : 2^mag.log2 ≤ mag := Nat.log2_self_le h
      have h1 := Nat.mul_le_mul_right (2^(place + 1074 + K).toNat) hm1
      refine Nat.le_trans (Nat.le_of_eq ?_) h1
      rw [← Nat.pow_add, ← Nat.pow_add, ← Nat.pow_add]
      congr 1; omega


theorem read_fin (w : Nat) (h : Fin64 w) : ∃ m i : Nat, double.read w = .number (w / 2^63 % 2 == 1) m ((i : Int) - 1074) ∧ G (w % 2^63) = m * 2^i ∧ m < 2^53 := by
  unfold Format.read
  have e1 : double.signWeight = 2^63 := by decide
  have e2 : double.binade = 2^52 := rfl
  have e3 : double.infRung = 2047 * 2^52 := by decide
  have e4 : double.leastPlace = -1074 := by decide
  simp only [e1, e2, e3, e4]
  obtain ⟨h1, _⟩ := h
  by_cases hs : w % 2^63 < 2^52
  · rw [if_pos hs]
    refine ⟨w % 2^63, 0, by simp, ?_, by omega⟩
    unfold G; rw [if_pos hs]; simp
  · rw [if_neg hs, if_pos h1]
    refine ⟨2^52 + w % 2^63 % 2^52, w % 2^63 / 2^52 - 1, ?_, ?_, by omega⟩
    · congr 1
    · unfold G; rw [if_neg hs]

/-- The value of a number, in units of 2^-1074. -/
def nv (s : Bool) (m i : Nat) : Int := if s then -((m * 2^i : Nat) : Int) else ((m * 2^i : Nat) : Int)

theorem read_V (w : Nat) (h : Fin64 w) : ∃ m i : Nat, double.read w = .number (w / 2^63 % 2 == 1) m ((i : Int) - 1074) ∧ V w = nv (w / 2^63 % 2 == 1) m i ∧ m < 2^53 := by
  obtain ⟨m, i, hr, hg, hm⟩ := read_fin w h
  refine ⟨m, i, hr, ?_, hm⟩
  unfold V nv
  rw [hg]
  by_cases e : w / 2^63 % 2 = 1
  · simp [e]
  · have : (w / 2^63 % 2 == 1) = false := by simp [e]
    rw [if_neg e, this]; simp

theorem signed_eq (s : Bool) (m u : Nat) : signed s m u = nv s m u := by
  unfold signed nv; rw [Nat.shiftLeft_eq]

theorem nv_split (s : Bool) (m i b : Nat) (h : b ≤ i) : nv s m i = nv s m (i - b) * ((2^b : Nat) : Int) := by
  have e : 2^i = 2^(i - b) * 2^b := by rw [← Nat.pow_add]; congr 1; omega
  unfold nv
  rw [e]
  cases s
  · simp only [Bool.false_eq_true, if_false]; rw [← Nat.mul_assoc]; push_cast; rfl
  · simp only [if_true]; rw [← Nat.mul_assoc, Int.neg_mul]; push_cast; rfl

theorem natAbs_mul_pow (t : Int) (b : Nat) : ((t.natAbs * 2^b : Nat) : Int) = if t < 0 then -(t * ((2^b : Nat) : Int)) else t * ((2^b : Nat) : Int) := by
  split
  · have : (t.natAbs : Int) = -t := by omega
    push_cast; rw [this, Int.neg_mul]
  · have : (t.natAbs : Int) = t := by omega
    push_cast; rw [this]

/-- 2^1074, behind a name. -/
def W : Nat := 1074
theorem W_eq : W = 1074 := rfl
def U : Nat := 2^W
theorem U_eq : U = 2^W := rfl
theorem U_pos : 0 < U := Nat.two_pow_pos W

theorem sum_rnd (s t : Bool) (m i n j : Nat) (hb : (nv s m i + nv t n j).natAbs ≤ top) :
    ∃ r, ((Datum.number s m ((i : Int) - 1074)).sum (.number t n ((j : Int) - 1074))).map double.write = some r ∧ Rnd (nv s m i + nv t n j) 1 r := by
  obtain ⟨b, hbi, hbj, hmin⟩ : ∃ b : Nat, b ≤ i ∧ b ≤ j ∧ min ((i : Int) - 1074) ((j : Int) - 1074) = (b : Int) - 1074 :=
    ⟨min i j, Nat.min_le_left _ _, Nat.min_le_right _ _, by omega⟩
  have ei : ((i : Int) - 1074 - ((b : Int) - 1074)).toNat = i - b := by omega
  have ej : ((j : Int) - 1074 - ((b : Int) - 1074)).toNat = j - b := by omega
  simp only [Datum.sum, hmin, ei, ej, signed_eq, Option.map_some]
  have hv : nv s m i + nv t n j = (nv s m (i - b) + nv t n (j - b)) * ((2^b : Nat) : Int) := by
    rw [nv_split s m i b hbi, nv_split t n j b hbj, Int.add_mul]
  rw [hv] at hb ⊢
  generalize nv s m (i - b) + nv t n (j - b) = T at *
  refine ⟨_, rfl, ?_⟩
  have ha := natAbs_mul_pow T b
  have he : ((b : Int) - 1074 + 1074 + (0 : Nat)).toNat = b := by omega
  have hbd : T.natAbs * 2^((b : Int) - 1074 + 1074 + (0 : Nat)).toNat ≤ top * 2^0 := by
    rw [he, Nat.pow_zero, Nat.mul_one]
    split at ha <;> omega
  have key := nearest_rnd (if T = 0 then s && t else decide (T < 0)) T.natAbs ((b : Int) - 1074) 0 (by omega) hbd
  rw [he] at key
  have hN : (if (if T = 0 then s && t else decide (T < 0)) = true then -((T.natAbs * 2^b : Nat) : Int) else ((T.natAbs * 2^b : Nat) : Int)) = T * ((2^b : Nat) : Int) := by
    rw [ha]
    by_cases h0 : T = 0
    · subst h0; simp
    · rw [if_neg h0]
      by_cases hn : T < 0
      · simp [hn]
      · simp [hn]
  rw [hN] at key
  exact key

theorem nv_opp (s : Bool) (m i : Nat) : nv (!s) m i = - nv s m i := by
  unfold nv; cases s <;> simp

theorem add_rnd {x y : Nat} (hx : Fin64 x) (hy : Fin64 y) (hb : (V x + V y).natAbs ≤ top) : ∃ r, double.add x y = some r ∧ Rnd (V x + V y) 1 r := by
  obtain ⟨m, i, hr, hv, _⟩ := read_V x hx
  obtain ⟨n, j, hr2, hv2, _⟩ := read_V y hy
  rw [hv, hv2] at hb ⊢
  unfold Format.add
  rw [hr, hr2]
  exact sum_rnd _ _ _ _ _ _ hb

theorem sub_rnd {x y : Nat} (hx : Fin64 x) (hy : Fin64 y) (hb : (V x - V y).natAbs ≤ top) : ∃ r, double.sub x y = some r ∧ Rnd (V x - V y) 1 r := by
  obtain ⟨m, i, hr, hv, _⟩ := read_V x hx
  obtain ⟨n, j, hr2, hv2, _⟩ := read_V y hy
  rw [hv, hv2, Int.sub_eq_add_neg, ← nv_opp] at hb ⊢
  unfold Format.sub
  rw [hr, hr2]
  exact sum_rnd _ _ _ _ _ _ hb

theorem nv_mul (s t : Bool) (m i n j : Nat) : nv (s ^^ t) (m * n) (i + j) = nv s m i * nv t n j := by
  have e : m * n * 2^(i + j) = m * 2^i * (n * 2^j) := by
    rw [Nat.pow_add]
    rw [Nat.mul_assoc m n, ← Nat.mul_assoc n, Nat.mul_comm n, Nat.mul_assoc (2^i), ← Nat.mul_assoc m]
  unfold nv
  rw [e]
  cases s <;> cases t <;> simp [Int.neg_mul, Int.mul_neg]

theorem nv_natAbs (s : Bool) (m i : Nat) : (nv s m i).natAbs = m * 2^i := by
  unfold nv; cases s
  · rw [if_neg (by simp)]; omega
  · rw [if_pos rfl]; omega

theorem mul_rnd {x y : Nat} (hx : Fin64 x) (hy : Fin64 y) (hb : (V x * V y).natAbs ≤ top * U) : ∃ r, double.mul x y = some r ∧ Rnd (V x * V y) U r := by
  obtain ⟨m, i, hr, hv, _⟩ := read_V x hx
  obtain ⟨n, j, hr2, hv2, _⟩ := read_V y hy
  rw [hv, hv2, ← nv_mul] at hb ⊢
  unfold Format.mul
  rw [hr, hr2]
  simp only [Datum.product, Option.map_some]
  refine ⟨_, rfl, ?_⟩
  rw [nv_natAbs] at hb
  have he : ((i : Int) - 1074 + ((j : Int) - 1074) + 1074 + (W : Nat)).toNat = i + j := by have := W_eq; omega
  have key := nearest_rnd ((x / 2^63 % 2 == 1) ^^ (y / 2^63 % 2 == 1)) (m * n) ((i : Int) - 1074 + ((j : Int) - 1074)) W (by have := W_eq; omega) (by rw [he, ← U_eq]; exact hb)
  rw [he, ← U_eq] at key
  exact key


theorem low_part (κ D a s n rest : Nat) (hc : 2 * (κ * (4 * D)) ≤ 2 * (2 * a + s) + 4 * D) (hs : s ≤ 1) :
    2 * (n * (κ * (4 * D))) ≤ 4 * (n * a + rest) + n * (4 * D) := by
  obtain ⟨k, hk⟩ : ∃ k, κ * (4 * D) = 4 * k := ⟨κ * D, by rw [Nat.mul_left_comm]⟩
  rw [hk] at hc ⊢
  have h4 : 2 * (4 * k) ≤ 4 * a + 4 * D := by omega
  have h5 := Nat.mul_le_mul_left n h4
  rw [Nat.mul_left_comm n 2, Nat.mul_add, Nat.mul_left_comm n 4 a] at h5
  omega

theorem high_part (κ D a s n rest : Nat) (hc : 2 * (2 * a + s) ≤ 2 * (κ * (4 * D)) + 4 * D) (hs : (s = 0 ∧ rest = 0) ∨ (s = 1 ∧ 0 < rest)) (hr : rest < n) :
    4 * (n * a + rest) ≤ 2 * (n * (κ * (4 * D))) + n * (4 * D) := by
  obtain ⟨k, hk⟩ : ∃ k, κ * (4 * D) = 4 * k := ⟨κ * D, by rw [Nat.mul_left_comm]⟩
  rw [hk] at hc ⊢
  rcases hs with ⟨h, h'⟩ | ⟨h, h'⟩
  · have h4 : 4 * a ≤ 2 * (4 * k) + 4 * D := by omega
    have h5 := Nat.mul_le_mul_left n h4
    rw [Nat.mul_left_comm n 4 a, Nat.mul_add, Nat.mul_left_comm n 2] at h5
    omega
  · have h4 : 4 * (a + 1) ≤ 2 * (4 * k) + 4 * D := by omega
    have h5 := Nat.mul_le_mul_left n h4
    rw [Nat.mul_left_comm n 4 (a + 1), Nat.mul_add n a 1, Nat.mul_one, Nat.mul_add n _ (4 * D), Nat.mul_left_comm n 2] at h5
    omega

theorem lin1 (I X Y Z : Nat) (h : 2 * X ≤ 4 * Y + Z) : 2 * (I * X) ≤ 2 * (2 * (I * Y)) + I * Z := by
  have h1 := Nat.mul_le_mul_left I h
  rw [Nat.mul_add, Nat.mul_left_comm I 2 X, Nat.mul_left_comm I 4 Y] at h1
  omega
theorem lin2 (I X Y Z : Nat) (h : 4 * Y ≤ 2 * X + Z) : 2 * (2 * (I * Y)) ≤ 2 * (I * X) + I * Z := by
  have h1 := Nat.mul_le_mul_left I h
  rw [Nat.mul_add, Nat.mul_left_comm I 2 X, Nat.mul_left_comm I 4 Y] at h1
  omega
theorem lin3 (I D n a rest : Nat) (h : 2^52 * (4 * D) ≤ 2 * a) : 2^52 * (I * (n * (4 * D))) ≤ 2 * (I * (n * a + rest)) := by
  have h1 := Nat.mul_le_mul_left I (Nat.mul_le_mul_left n h)
  rw [Nat.mul_left_comm n (2^52), Nat.mul_left_comm I (2^52), Nat.mul_left_comm n 2 a, Nat.mul_left_comm I 2] at h1
  rw [Nat.mul_add]
  omega

/-- The quotient of two magnitudes: its sticky digit does not part it from its true value. -/
theorem quot_rnd (neg : Bool) (m i n j : Nat) (hm : m < 2^53) (hn : n ≠ 0) (hb : m * 2^i * U ≤ top * (n * 2^j)) :
    Rnd (if neg then -((m * 2^i * U : Nat) : Int) else ((m * 2^i * U : Nat) : Int)) (n * 2^j)
      (double.nearest neg (2 * (m <<< (54 + n.log2 - m.log2) / n) + (m <<< (54 + n.log2 - m.log2) % n != 0).toNat)
        ((i : Int) - 1074 - ((j : Int) - 1074) - ((54 + n.log2 - m.log2 : Nat) : Int) - 1)) := by
  have hnp : 0 < n := Nat.pos_of_ne_zero hn
  have hB : 0 < n * 2^j := Nat.mul_pos hnp (pow_pos2 j)
  rw [Nat.shiftLeft_eq]
  by_cases hm0 : m = 0
  · subst hm0
    have e : 2 * (0 * 2^(54 + n.log2 - (0:Nat).log2) / n) + (0 * 2^(54 + n.log2 - (0:Nat).log2) % n != 0).toNat = 0 := by simp
    rw [e]
    have e2 : ∀ p, double.nearest neg 0 p = double.word neg 0 := by intro p; unfold Format.nearest; rw [if_pos rfl]
    rw [e2]
    refine rnd_of_rung (by omega) fun r => ?_
    have : G 0 = 0 := by decide
    rw [this]; simp
  · have hl1 : 2^m.log2 ≤ m := Nat.log2_self_le hm0
    have hl3 : n < 2^(n.log2 + 1) := Nat.lt_log2_self
    have hl5 : m.log2 < 53 := (Nat.log2_lt hm0).2 hm
    obtain ⟨M, hM⟩ : ∃ M, 54 + n.log2 - m.log2 = M := ⟨_, rfl⟩
    have hM2 : m.log2 + M = 54 + n.log2 := by omega
    rw [hM]
    -- the dividend has 54 digits more than the divisor
    have hdiv : 2^53 ≤ m * 2^M / n := by
      rw [Nat.le_div_iff_mul_le hnp]
      have h1 : 2^53 * n ≤ 2^53 * 2^(n.log2 + 1) := Nat.mul_le_mul_left _ (Nat.le_of_lt hl3)
      have h2 : 2^m.log2 * 2^M ≤ m * 2^M := Nat.mul_le_mul_right _ hl1
      rw [← Nat.pow_add, hM2] at h2
      rw [← Nat.pow_add] at h1
      refine Nat.le_trans h1 (Nat.le_trans (Nat.le_of_eq ?_) h2)
      congr 1; omega
    have hdm := Nat.div_add_mod (m * 2^M) n
    have hmod := Nat.mod_lt (m * 2^M) hnp
    generalize ha : m * 2^M / n = a at *
    generalize hs : m * 2^M % n = rest at *
    obtain ⟨s, hsd, hs1⟩ : ∃ s : Nat, (rest != 0).toNat = s ∧ ((s = 0 ∧ rest = 0) ∨ (s = 1 ∧ 0 < rest)) := by
      by_cases h0 : rest = 0
      · exact ⟨0, by simp [h0], Or.inl ⟨rfl, h0⟩⟩
      · exact ⟨1, by simp [h0], Or.inr ⟨rfl, by omega⟩⟩
    rw [hsd]
    have hmag : 2 * a + s ≠ 0 := by omega
    obtain ⟨P, hP⟩ : ∃ P : Int, (i : Int) - 1074 - ((j : Int) - 1074) - ((M : Nat) : Int) - 1 = P := ⟨_, rfl⟩
    rw [hP]
    have hlog : 54 ≤ (2 * a + s).log2 := by
      rcases Nat.lt_or_ge (2 * a + s).log2 54 with h | h
      · have := (Nat.log2_lt hmag).1 h
        omega
      · exact h
    have hlast : lastOf (2 * a + s) P = max (P + (2 * a + s).log2 - 52) (-1074) := rfl
    have hc := cut_near neg ((2 * a + s) <<< (P - lastOf (2 * a + s) P).toNat) (lastOf (2 * a + s) P - P).toNat
    have hk : keptOf neg (2 * a + s) P = Toward.even.cut neg ((2 * a + s) <<< (P - lastOf (2 * a + s) P).toNat) (lastOf (2 * a + s) P - P).toNat := rfl
    rw [← hk] at hc
    obtain ⟨d, hd⟩ : ∃ d : Nat, lastOf (2 * a + s) P - P = (d + 2 : Nat) := ⟨(lastOf (2 * a + s) P - P - 2).toNat, by omega⟩
    rw [hd, Int.toNat_natCast] at hc
    have e0 : (P - lastOf (2 * a + s) P).toNat = 0 := by omega
    rw [e0, Nat.shiftLeft_zero] at hc
    have key := near_of neg (2 * a + s) P hmag (m * 2^i * U) (n * 2^j) hB
    obtain ⟨L, hL⟩ : ∃ L, (lastOf (2 * a + s) P + 1074).toNat = L := ⟨_, rfl⟩
    have hLge : -1074 ≤ lastOf (2 * a + s) P := Int.le_max_right _ _
    rw [hL] at key
    -- the common factor
    have hpow : 2^L * 2^j * 2^(M + 1) = 2^i * U * 2^(d + 2) := by
      rw [U_eq, ← Nat.pow_add, ← Nat.pow_add, ← Nat.pow_add, ← Nat.pow_add]
      congr 1; have := W_eq; omega
    have hd4 : 2^(d + 2) = 4 * 2^d := by rw [Nat.pow_add, Nat.mul_comm]
    have hMp : 0 < 2^(M + 1) := pow_pos2 _
    have hIp : 0 < 2^i * U := Nat.mul_pos (pow_pos2 i) U_pos
    generalize hK : keptOf neg (2 * a + s) P = κ at *
    have hA : m * 2^i * U * 2^(M + 1) = 2 * (2^i * U * (m * 2^M)) := by
      rw [Nat.pow_succ]
      rw [Nat.mul_comm m (2^i), Nat.mul_assoc (2^i) m U, Nat.mul_comm m U, ← Nat.mul_assoc (2^i) U m, Nat.mul_assoc (2^i * U) m, ← Nat.mul_assoc m, Nat.mul_comm (m * 2^M) 2, Nat.mul_left_comm]
    have hT : 2^L * (n * 2^j) * 2^(M + 1) = 2^i * U * (n * 2^(d + 2)) := by
      rw [Nat.mul_left_comm (2^L) n, Nat.mul_assoc n, hpow, Nat.mul_left_comm]
    have hKT : κ * 2^L * (n * 2^j) * 2^(M + 1) = 2^i * U * (n * (κ * 2^(d + 2))) := by
      rw [Nat.mul_assoc κ, Nat.mul_assoc κ, hT, Nat.mul_left_comm κ, Nat.mul_left_comm κ]
    generalize hI : 2^i * U = I at *
    rw [hd4] at hc hT hKT
    have hD : m * 2^M = n * a + rest := hdm.symm
    refine key ?_ ?_ ?_ hb
    · refine Nat.le_of_mul_le_mul_right ?_ hMp
      rw [Nat.add_mul, Nat.mul_assoc 2 (κ * 2^L * (n * 2^j)), hKT, Nat.mul_assoc 2 (m * 2^i * U), hA, hT, hD]
      exact lin1 _ _ _ _ (low_part _ _ _ _ _ _ hc.1 (by omega))
    · refine Nat.le_of_mul_le_mul_right ?_ hMp
      rw [Nat.add_mul, Nat.mul_assoc 2 (κ * 2^L * (n * 2^j)), hKT, Nat.mul_assoc 2 (m * 2^i * U), hA, hT, hD]
      exact lin2 _ _ _ _ (high_part _ _ _ _ _ _ hc.2 hs1 hmod)
    · by_cases hl : lastOf (2 * a + s) P = -1074
      · exact Or.inl hl
      · right
        have hdd : d + 2 = (2 * a + s).log2 - 52 := by omega
        have h8 : 2^(2 * a + s).log2 ≤ 2 * a + s := Nat.log2_self_le hmag
        have h9 : 2^(2 * a + s).log2 = 2^52 * (4 * 2^d) := by
          have hlg : (2 * a + s).log2 = 52 + (d + 2) := by omega
          rw [hlg, Nat.pow_add 2 52 (d + 2), hd4]
        refine Nat.le_of_mul_le_mul_right ?_ hMp
        rw [Nat.mul_assoc (2^52), Nat.mul_assoc (2^52), hT, hA, hD]
        exact lin3 _ _ _ _ _ (by omega)

theorem div_rnd {x y : Nat} (hx : Fin64 x) (hy : Fin64 y) (hpos : 0 < V y) (hb : (V x).natAbs * U ≤ top * (V y).toNat) :
    ∃ r, double.div x y = some r ∧ Rnd (V x * U) (V y).toNat r := by
  obtain ⟨m, i, hr, hv, hm⟩ := read_V x hx
  obtain ⟨n, j, hr2, hv2, _⟩ := read_V y hy
  have ht : (y / 2^63 % 2 == 1) = false := by
    cases h : (y / 2^63 % 2 == 1)
    · rfl
    · rw [h] at hv2; unfold nv at hv2; rw [if_pos rfl] at hv2; omega
  rw [ht] at hv2 hr2
  have hvy : V y = ((n * 2^j : Nat) : Int) := by rw [hv2]; unfold nv; rw [if_neg (by simp)]
  have hn : n ≠ 0 := by
    intro h; subst h; simp at hvy; omega
  rw [hv, nv_natAbs, hvy, Int.toNat_natCast] at hb
  rw [hv, hvy, Int.toNat_natCast]
  unfold Format.div
  rw [hr, hr2]
  simp only [Datum.quotient]
  rw [if_neg hn]
  simp only [Option.map_some]
  refine ⟨_, rfl, ?_⟩
  have key := quot_rnd ((x / 2^63 % 2 == 1) ^^ false) m i n j hm hn hb
  have hN : (if ((x / 2^63 % 2 == 1) ^^ false) = true then -((m * 2^i * U : Nat) : Int) else ((m * 2^i * U : Nat) : Int)) = nv (x / 2^63 % 2 == 1) m i * U := by
    rw [Bool.xor_false]
    unfold nv
    split
    · rw [Int.neg_mul]; push_cast; rfl
    · push_cast; rfl
  rw [hN] at key
  exact key


theorem cmp_scale (a b : Int) (p : Nat) (hp : 0 < p) : compare (a * p) (b * p) = compare a b := by
  have hp' : (0 : Int) < p := by omega
  rcases Int.lt_trichotomy a b with h | h | h
  · have h1 : a * p < b * p := Int.mul_lt_mul_of_pos_right h hp'
    rw [Int.compare_eq_lt.2 h, Int.compare_eq_lt.2 h1]
  · rw [h]; simp
  · have h1 : b * p < a * p := Int.mul_lt_mul_of_pos_right h hp'
    rw [Int.compare_eq_gt.2 h, Int.compare_eq_gt.2 h1]

theorem order_V {x y : Nat} (hx : Fin64 x) (hy : Fin64 y) : double.order x y = some (compare (V x) (V y)) := by
  obtain ⟨m, i, hr, hv, _⟩ := read_V x hx
  obtain ⟨n, j, hr2, hv2, _⟩ := read_V y hy
  unfold Format.order
  rw [hr, hr2]
  obtain ⟨b, hbi, hbj, hmin⟩ : ∃ b : Nat, b ≤ i ∧ b ≤ j ∧ min ((i : Int) - 1074) ((j : Int) - 1074) = (b : Int) - 1074 :=
    ⟨min i j, Nat.min_le_left _ _, Nat.min_le_right _ _, by omega⟩
  have ei : ((i : Int) - 1074 - ((b : Int) - 1074)).toNat = i - b := by omega
  have ej : ((j : Int) - 1074 - ((b : Int) - 1074)).toNat = j - b := by omega
  simp only [Datum.order, hmin, ei, ej, signed_eq]
  rw [hv, hv2, nv_split _ m i b hbi, nv_split _ n j b hbj, cmp_scale _ _ _ (pow_pos2 b)]

theorem lss_V {x y : Nat} (hx : Fin64 x) (hy : Fin64 y) : (double.order x y == some .lt) = decide (V x < V y) := by
  rw [order_V hx hy]
  by_cases h : V x < V y
  · rw [Int.compare_eq_lt.2 h]; simp [h]
  · have : compare (V x) (V y) ≠ .lt := fun e => h (Int.compare_eq_lt.1 e)
    simp [h, this]
theorem gtr_V {x y : Nat} (hx : Fin64 x) (hy : Fin64 y) : (double.order x y == some .gt) = decide (V y < V x) := by
  rw [order_V hx hy]
  by_cases h : V y < V x
  · rw [Int.compare_eq_gt.2 h]; simp [h]
  · have : compare (V x) (V y) ≠ .gt := fun e => h (Int.compare_eq_gt.1 e)
    simp [h, this]
theorem eql_V {x y : Nat} (hx : Fin64 x) (hy : Fin64 y) : (double.order x y == some .eq) = decide (V x = V y) := by
  rw [order_V hx hy]
  by_cases h : V x = V y
  · rw [Int.compare_eq_eq.2 h]; simp [h]
  · have : compare (V x) (V y) ≠ .eq := fun e => h (Int.compare_eq_eq.1 e)
    simp [h, this]
theorem leq_V {x y : Nat} (hx : Fin64 x) (hy : Fin64 y) : (double.order x y == some .lt || double.order x y == some .eq) = decide (V x ≤ V y) := by
  rw [lss_V hx hy, eql_V hx hy, Bool.eq_iff_iff]
  simp only [Bool.or_eq_true, decide_eq_true_eq]; omega
theorem geq_V {x y : Nat} (hx : Fin64 x) (hy : Fin64 y) : (double.order x y == some .gt || double.order x y == some .eq) = decide (V y ≤ V x) := by
  rw [gtr_V hx hy, eql_V hx hy, Bool.eq_iff_iff]
  simp only [Bool.or_eq_true, decide_eq_true_eq]; omega

/-! What a nearest double does. -/

theorem Rnd.ge {N : Int} {D r c : Nat} (h : Rnd N D r) (hD : 0 < D) (hc : Fin64 c) (hle : V c * D ≤ N) : V c ≤ V r := by
  rcases Int.lt_or_le (V r) (V c) with h1 | h1
  · exfalso
    have h2 := h.near c hc
    have h3 : V r * D < V c * D := Int.mul_lt_mul_of_pos_right h1 (by omega)
    omega
  · exact h1

theorem Rnd.le {N : Int} {D r c : Nat} (h : Rnd N D r) (hD : 0 < D) (hc : Fin64 c) (hle : N ≤ V c * D) : V r ≤ V c := by
  rcases Int.lt_or_le (V c) (V r) with h1 | h1
  · exfalso
    have h2 := h.near c hc
    have h3 : V c * D < V r * D := Int.mul_lt_mul_of_pos_right h1 (by omega)
    omega
  · exact h1

/-- A value that a double has is met. -/
theorem Rnd.exact {N : Int} {D r c : Nat} (h : Rnd N D r) (hD : 0 < D) (hc : Fin64 c) (he : V c * D = N) : V r = V c := by
  have h1 := h.ge hD hc (by omega)
  have h2 := h.le hD hc (by omega)
  omega

/-- Of two values over one divisor the greater one has no lesser double. -/
theorem Rnd.mono {N N' : Int} {D r r' : Nat} (h : Rnd N D r) (h' : Rnd N' D r') (hD : 0 < D) (hlt : N < N') : V r ≤ V r' := by
  rcases Int.lt_or_le (V r') (V r) with h1 | h1
  · exfalso
    have h2 := h.near r' h'.fin
    have h3 := h'.near r h.fin
    have h4 : V r' * D < V r * D := Int.mul_lt_mul_of_pos_right h1 (by omega)
    omega
  · exact h1

/-- Doubles of one value: one word, but for the two zeros. -/
theorem V_inj {x y : Nat} (hx : Fin64 x) (hy : Fin64 y) (h : V x = V y) (h0 : V x ≠ 0) : x = y := by
  have hx2 := hx.2
  have hy2 := hy.2
  have g0 : G 0 = 0 := by decide
  unfold V at h h0
  by_cases sx : x / 2^63 % 2 = 1 <;> by_cases sy : y / 2^63 % 2 = 1
  · rw [if_pos sx, if_pos sy] at h
    have := G_inj (r := x % 2^63) (s := y % 2^63) (by omega)
    omega
  · rw [if_pos sx] at h h0
    rw [if_neg sy] at h
    omega
  · rw [if_neg sx] at h h0
    rw [if_pos sy] at h
    omega
  · rw [if_neg sx, if_neg sy] at h
    have := G_inj (r := x % 2^63) (s := y % 2^63) (by omega)
    omega

/-- k * 2^i is a double's value, for k to 2^53 and i to 2000. -/
theorem rep (k i : Nat) (hk : k ≤ 2^53) (hi : i ≤ 2000) : ∃ c, Fin64 c ∧ V c = ((k * 2^i : Nat) : Int) := by
  obtain ⟨L, m, hm, hm2, he⟩ : ∃ L m : Nat, m ≤ 2^53 ∧ (L = 0 ∨ 2^52 ≤ m) ∧ m * 2^L = k * 2^i ∧ L ≤ 2000 := by
    induction i generalizing k with
    | zero => exact ⟨0, k, hk, Or.inl rfl, by simp, by omega⟩
    | succ i ih =>
      by_cases h : k < 2^52
      · obtain ⟨L, m, h1, h2, h3, h4⟩ := ih (2 * k) (by omega) (by omega)
        exact ⟨L, m, h1, h2, by rw [h3, Nat.pow_succ, Nat.mul_comm 2 k, Nat.mul_assoc, Nat.mul_comm 2], h4⟩
      · exact ⟨i + 1, k, hk, Or.inr (by omega), rfl, hi⟩
  have hr : L * 2^52 + m < 2047 * 2^52 := by omega
  refine ⟨L * 2^52 + m, ⟨by omega, by omega⟩, ?_⟩
  have e1 : (L * 2^52 + m) / 2^63 % 2 = 0 := by omega
  have e2 : (L * 2^52 + m) % 2^63 = L * 2^52 + m := by omega
  unfold V
  rw [e1, e2, G_form L m hm hm2, he.1]
  simp

/-- Its negative is one, too. -/
theorem rep_neg {c : Nat} (h : Fin64 c) : ∃ d, Fin64 d ∧ V d = - V c := by
  by_cases s : c / 2^63 % 2 = 1
  · refine ⟨c % 2^63, ⟨?_, ?_⟩, ?_⟩
    · have := h.1; omega
    · omega
    · unfold V
      rw [if_pos s, if_neg (by omega), Nat.mod_mod]; omega
  · refine ⟨2^63 + c % 2^63, ⟨?_, ?_⟩, ?_⟩
    · have := h.1; omega
    · omega
    · have e : (2^63 + c % 2^63) % 2^63 = c % 2^63 := by omega
      unfold V
      rw [if_neg s, if_pos (by omega), e]

theorem rep_int (k : Int) (i : Nat) (hk : k.natAbs ≤ 2^53) (hi : i ≤ 2000) : ∃ c, Fin64 c ∧ V c = k * ((2^i : Nat) : Int) := by
  obtain ⟨c, hc, hv⟩ := rep k.natAbs i hk hi
  by_cases h : 0 ≤ k
  · refine ⟨c, hc, ?_⟩
    rw [hv]; push_cast; rw [show (k.natAbs : Int) = k by omega]
  · obtain ⟨d, hd, hdv⟩ := rep_neg hc
    refine ⟨d, hd, ?_⟩
    rw [hdv, hv]; push_cast; rw [show (k.natAbs : Int) = -k by omega, Int.neg_mul, Int.neg_neg]


theorem V_const (L k : Nat) (hk : k ≤ 2^53) (h : L = 0 ∨ 2^52 ≤ k) (hL : L ≤ 2000) : V (L * 2^52 + k) = ((k * 2^L : Nat) : Int) ∧ Fin64 (L * 2^52 + k) := by
  have e1 : (L * 2^52 + k) / 2^63 % 2 = 0 := by omega
  have e2 : (L * 2^52 + k) % 2^63 = L * 2^52 + k := by omega
  refine ⟨?_, by omega, by omega⟩
  unfold V
  rw [e1, e2, G_form L k hk h]
  simp

theorem V_abs_word (w : Nat) : V (w % 2^63) = ((V w).natAbs : Int) := by
  rw [V_abs]
  unfold V
  rw [if_neg (by omega), Nat.mod_mod]

theorem Fin64.abs {w : Nat} (h : Fin64 w) : Fin64 (w % 2^63) := ⟨by rw [Nat.mod_mod]; exact h.1, by have := h.1; omega⟩

theorem read_not_fin (w : Nat) (hw : w < 2^64) (h : ¬ Fin64 w) : double.read w = .infinity (w / 2^63 % 2 == 1) ∨ ∃ t, double.read w = .nan (w / 2^63 % 2 == 1) t := by
  have h1 : 2047 * 2^52 ≤ w % 2^63 := by
    rcases Nat.lt_or_ge (w % 2^63) (2047 * 2^52) with h2 | h2
    · exact absurd ⟨h2, hw⟩ h
    · exact h2
  unfold Format.read
  have e1 : double.signWeight = 2^63 := by decide
  have e2 : double.binade = 2^52 := rfl
  have e3 : double.infRung = 2047 * 2^52 := by decide
  simp only [e1, e2, e3]
  rw [if_neg (by omega), if_neg (by omega)]
  split
  · exact Or.inl rfl
  · exact Or.inr ⟨_, rfl⟩

/-- What is at most a finite double and at least another one is finite. -/
theorem fin_of_between {w c d : Nat} (hw : w < 2^64) (hc : Fin64 c) (hd : Fin64 d)
    (h1 : (double.order w c == some .lt || double.order w c == some .eq) = true) (h2 : (double.order w d == some .gt || double.order w d == some .eq) = true) : Fin64 w := by
  by_cases h : Fin64 w
  · exact h
  · exfalso
    obtain ⟨m, i, hr, _, _⟩ := read_V c hc
    obtain ⟨n, j, hr2, _, _⟩ := read_V d hd
    unfold Format.order at h1 h2
    rw [hr] at h1
    rw [hr2] at h2
    rcases read_not_fin w hw h with e | ⟨t, e⟩
    · rw [e] at h1 h2
      simp only [Datum.order] at h1 h2
      generalize (w / 2^63 % 2 == 1) = sg at h1 h2
      cases sg
      · exact absurd h1 (by decide)
      · exact absurd h2 (by decide)
    · rw [e] at h1
      simp [Datum.order] at h1

theorem fin_of_abs_le {w c : Nat} (hw : w < 2^64) (hc : Fin64 c) (h1 : (double.order (w % 2^63) c == some .lt || double.order (w % 2^63) c == some .eq) = true) : Fin64 w := by
  have h : Fin64 (w % 2^63) := by
    by_cases h : Fin64 (w % 2^63)
    · exact h
    · exfalso
      obtain ⟨m, i, hr, _, _⟩ := read_V c hc
      unfold Format.order at h1
      rw [hr] at h1
      have e0 : (w % 2^63 / 2^63 % 2 == 1) = false := by
        have : w % 2^63 / 2^63 % 2 = 0 := by omega
        rw [this]; rfl
      rcases read_not_fin (w % 2^63) (by omega) h with e | ⟨t, e⟩
      · rw [e, e0] at h1
        simp [Datum.order] at h1
      · rw [e] at h1
        simp [Datum.order] at h1
  exact ⟨by have := h.1; omega, hw⟩

theorem cut_zero (neg : Bool) (n drop : Nat) : Toward.zero.cut neg n drop = n / 2^drop := by
  unfold Toward.cut
  simp only [Nat.one_shiftLeft, Bool.toNat_false, Nat.add_zero]
  by_cases hd : drop ≤ n.log2 + 2
  · rw [Nat.min_eq_left hd]
  · rw [Nat.min_eq_right (by omega)]
    have hlt : n < 2^(n.log2 + 1) := Nat.lt_log2_self
    have h2 : 2^(n.log2 + 1) ≤ 2^(n.log2 + 2) := Nat.pow_le_pow_right (by omega) (by omega)
    have h3 : 2^(n.log2 + 2) ≤ 2^drop := Nat.pow_le_pow_right (by omega) (by omega)
    rw [Nat.div_eq_of_lt (by omega), Nat.div_eq_of_lt (by omega)]

/-- 'uint64(x)' of a double that is not negative. -/
theorem toInt_V {x : Nat} (hx : Fin64 x) (h0 : 0 ≤ V x) : (double.read x).toInt .zero = some (((V x).toNat / U : Nat) : Int) := by
  obtain ⟨m, i, hr, hv, _⟩ := read_V x hx
  rw [hr]
  unfold Datum.toInt Datum.integral
  simp only [cut_zero, Nat.shiftLeft_eq]
  have hW := W_eq
  have e : m * 2^((i : Int) - 1074).toNat / 2^(-((i : Int) - 1074)).toNat = m * 2^i / U := by
    rw [U_eq]
    by_cases h : W ≤ i
    · have e1 : (-((i : Int) - 1074)).toNat = 0 := by omega
      have e2 : 2^i = 2^((i : Int) - 1074).toNat * 2^W := by rw [← Nat.pow_add]; congr 1; omega
      rw [e1, e2, Nat.pow_zero, Nat.div_one, ← Nat.mul_assoc, Nat.mul_div_cancel _ (pow_pos2 W)]
    · have e1 : ((i : Int) - 1074).toNat = 0 := by omega
      have e2 : 2^W = 2^(-((i : Int) - 1074)).toNat * 2^i := by rw [← Nat.pow_add]; congr 1; omega
      rw [e1, e2, Nat.pow_zero, Nat.mul_one, Nat.mul_div_mul_right _ _ (pow_pos2 i)]
  rw [e, signed_eq]
  rw [hv] at h0 ⊢
  unfold nv at h0 ⊢
  cases hs : (x / 2^63 % 2 == 1)
  · simp only [Bool.false_eq_true, if_false, Nat.pow_zero, Nat.mul_one]
    rw [Int.toNat_natCast]
  · rw [hs] at h0
    simp only [if_true] at h0
    have : m * 2^i = 0 := by omega
    simp only [if_true, this, Nat.zero_div]
    simp

/-- 'float64(n)' of a number up to 2^53 is exact. -/
theorem ofInt_V (n : Int) (h0 : 0 ≤ n) (h : n ≤ 2^53) : Fin64 (Go.floatOfInt .f64 n) ∧ V (Go.floatOfInt .f64 n) = n * U := by
  obtain ⟨c, hc, hv⟩ := rep n.toNat W (by omega) (by rw [W_eq]; omega)
  obtain ⟨m, hm⟩ : ∃ m : Nat, n = m := ⟨n.toNat, by omega⟩
  subst hm
  have hneg : decide ((m : Int) < 0) = false := by simp
  have e : Go.floatOfInt .f64 (m : Int) = double.nearest false m 0 := by
    show double.write (.number (decide ((m : Int) < 0)) ((m : Int).natAbs) 0) = _
    rw [hneg, Int.natAbs_natCast]; rfl
  have hW := W_eq
  have he : ((0 : Int) + 1074 + (0 : Nat)).toNat = W := by omega
  have htop : m * 2^W ≤ top * 2^0 := by
    rw [Nat.pow_zero, Nat.mul_one]
    have h3 := V_abs c
    rw [hv] at h3
    have h4 : G (c % 2^63) ≤ top := G_le (by have := hc.1; omega)
    rw [Int.toNat_natCast] at h3
    rw [Int.natAbs_natCast] at h3
    omega
  have key := nearest_rnd false m 0 0 (by omega) (by rw [he]; exact htop)
  rw [he] at key
  rw [e]
  refine ⟨key.fin, ?_⟩
  have hx := key.exact (c := c) (by omega) hc (by rw [hv, Int.toNat_natCast]; simp)
  rw [hx, hv, Int.toNat_natCast, U_eq]; push_cast; rfl

end Fl
