/-
  The scales of the Morton hash: a place's number, and the place that the number leads back to: plain laws on doubles.
-/
import Derived.Test.YtobloagecjhhiaaDoorMortB
import Derived.Test.YtobloagecjhhiaaDoorNear
namespace Go.Proofs.YtobloagecjhhiaaDoor
open Go.RowKit Fl

theorem aux_lon (A T tp : Nat) (h1 : 2^200 * A ≤ tp) (h2 : T ≤ 4294967295 * A) : T * 2^72 * 2^29 ≤ tp * 6405119468546731 := by
  have h3 : T * 2^72 * 2^29 ≤ 2^200 * A := by omega
  have h4 : tp * 1 ≤ tp * 6405119468546731 := Nat.mul_le_mul_left _ (by omega)
  exact Nat.le_trans h3 (Nat.le_trans h1 (by rw [Nat.mul_one] at h4; exact h4))
theorem aux_lat (A T tp : Nat) (h1 : 2^200 * A ≤ tp) (h2 : T ≤ 4294967295 * A) : T * 2^72 * 2^28 ≤ tp * 6405119468546731 := by
  have h3 : T * 2^72 * 2^28 ≤ 2^200 * A := by omega
  have h4 : tp * 1 ≤ tp * 6405119468546731 := Nat.mul_le_mul_left _ (by omega)
  exact Nat.le_trans h3 (Nat.le_trans h1 (by rw [Nat.mul_one] at h4; exact h4))

theorem V_neg (w : Nat) (h : w < 2^63) : V (2^63 + w) = - V w := by
  unfold V
  rw [if_pos (by omega), if_neg (by omega), Nat.mod_eq_of_lt h, Nat.add_mod_left, Nat.mod_eq_of_lt h]

theorem c_at (L j k w : Nat) (hL : L = 1002) (hk : k ≤ 2^53) (h : 2^52 ≤ k) (hj : j ≤ 900) (e : (L + j) * 2^52 + k = w) : V w = ((k * 2^j * 2^L : Nat) : Int) ∧ Fin64 w := by
  rw [← e]; exact V_const' L j k hk h (by omega)

theorem m_180 (L : Nat) (hL : L = 1002) : V 13863909240395005952 = -((6333186975989760 * 2^27 * 2^L : Nat) : Int) ∧ Fin64 13863909240395005952 := by
  have h := c_at L 27 6333186975989760 4640537203540230144 hL (by omega) (by omega) (by omega) (by omega)
  have h2 := V_neg 4640537203540230144 (by decide)
  refine ⟨?_, by decide, by decide⟩
  rw [← h.1]; exact h2
theorem m_90 (L : Nat) (hL : L = 1002) : V 13859405640767635456 = -((6333186975989760 * 2^26 * 2^L : Nat) : Int) ∧ Fin64 13859405640767635456 := by
  have h := c_at L 26 6333186975989760 4636033603912859648 hL (by omega) (by omega) (by omega) (by omega)
  have h2 := V_neg 4636033603912859648 (by decide)
  refine ⟨?_, by decide, by decide⟩
  rw [← h.1]; exact h2

theorem pos_mul_le {a b c : Nat} (h : a ≤ b) : a * c ≤ b * c := Nat.mul_le_mul_right c h

/-- What the scale of a longitude (a latitude) gives. -/
structure Scaled (m sc : Nat) (P : Int) (D x s p n : Nat) : Prop where
  sub : Ieee.double.sub x m = some s
  mul : Ieee.double.mul s sc = some p
  fs : Fin64 s
  fp : Fin64 p
  p0 : 0 ≤ V p
  hn : (V p).toNat / U = n
  lt : n < 4294967296
  rs : Rnd (V x - V m) 1 s
  rp : Rnd (V s * P) D p

theorem Scaled.mono {m sc D x s p n x' s' p' n' : Nat} {P : Int} (hP : 0 < P) (hD : 0 < D) (h : Scaled m sc P D x s p n) (h' : Scaled m sc P D x' s' p' n') (hx : V x < V x') : n ≤ n' := by
  have h1 : V s ≤ V s' := h.rs.mono h'.rs (by omega) (by omega)
  have h2 : V p ≤ V p' := by
    by_cases e : V s < V s'
    · exact h.rp.mono h'.rp hD (Int.mul_lt_mul_of_pos_right e hP)
    · have e2 : V s = V s' := by omega
      by_cases z : V s = 0
      · have q := h.rp.exact (c := 0) hD fin_zero (by rw [V_zero, z, Int.zero_mul, Int.zero_mul])
        have q' := h'.rp.exact (c := 0) hD fin_zero (by rw [V_zero, ← e2, z, Int.zero_mul, Int.zero_mul])
        omega
      · have e3 := V_inj h.fs h'.fs e2 z
        have h3 := h.mul
        have h4 := h'.mul
        rw [e3] at h3
        rw [h3] at h4
        have := Option.some.inj h4
        rw [this]; exact Int.le_refl _
  rw [← h.hn, ← h'.hn]
  exact Nat.div_le_div_right (by omega)

theorem scale_lon {x : Nat} (fx : Fin64 x) (h1 : V 13863909240395005952 ≤ V x) (h2 : V x ≤ - V 13863909240395005952) :
    (∃ s p n, Scaled 13863909240395005952 4712666730070715051 6405119468546731 (2^29) x s p n ∧
      ∃ q r, Ieee.double.div (floatOfInt .f64 (n : Int)) 4712666730070715051 = some q ∧ Ieee.double.add q 13863909240395005952 = some r ∧ Fin64 r ∧ ((V r - V x).natAbs : Int) ≤ V 4517329193108106637) := by
  have hW := W_eq
  obtain ⟨L, hL⟩ : ∃ L, L = 1002 := ⟨_, rfl⟩
  have eU : U = 2^72 * 2^L := by rw [U_eq, ← Nat.pow_add, show W = 72 + L by omega]
  obtain ⟨vm, fm⟩ := m_180 L hL
  obtain ⟨vt, ft⟩ := c_at L 0 4722366482869645 4517329193108106637 hL (by omega) (by omega) (by omega) (by omega)
  have fsc : V 4712666730070715051 = ((6405119468546731 * 2^1045 : Nat) : Int) ∧ Fin64 4712666730070715051 := V_const 1045 6405119468546731 (by omega) (Or.inr (by omega)) (by omega)
  obtain ⟨vsc0, gsc⟩ := fsc
  have vsc := Lib.hid vsc0
  clear vsc0
  obtain ⟨c2, fc2, vc2⟩ := rep 6333186975989760 (27 + 1 + L) (by omega) (by omega)
  obtain ⟨c3, fc3, vc3⟩ := rep (2^53 - 1) (51 + L) (by omega) (by omega)
  have e29 : 2^(29 + L) = 2^29 * 2^L := Nat.pow_add 2 29 L
  have e52 : 2^(52 + L) = 2^52 * 2^L := Nat.pow_add 2 52 L
  have ec2 : 6333186975989760 * 2^(27 + 1 + L) = 1700051933833072276930560 * 2^L := by rw [Nat.pow_add, ← Nat.mul_assoc]
  have ec3 : (2^53 - 1) * 2^(51 + L) = 20282409603651668172147437600768 * 2^L := by rw [Nat.pow_add, ← Nat.mul_assoc]
  have etop : 2^200 * 2^L ≤ top := by rw [← Nat.pow_add]; exact top_ge _ (by omega)
  have hA : 0 < 2^L := pow_pos2 L
  have eB : 6333186975989760 * 2^27 * 2^L = 850025966916536138465280 * 2^L := by congr 1
  have et : 4722366482869645 * 2^0 * 2^L = 4722366482869645 * 2^L := by congr 1
  rw [ec2] at vc2
  rw [ec3] at vc3
  rw [eB] at vm
  rw [et] at vt
  have hi29 : 29 + L ≤ 2000 := by omega
  have hi52 : 52 + L ≤ 2000 := by omega
  have hk : 1045 + 29 = W := by omega
  generalize hAA : 2^L = A at *
  clear hAA
  -- s
  obtain ⟨s, s1, s2⟩ := sub_rnd fx fm (by omega)
  have s3 := s2.ge (c := 0) (by omega) fin_zero (by rw [V_zero]; omega)
  have s4 := s2.le (by omega) fc2 (by omega)
  rw [V_zero] at s3
  have s5 := s2.err (29 + L) hi29 (by omega) (by rw [e29]; omega)
  rw [e29] at s5
  -- p
  obtain ⟨p, p1, p2⟩ := mul_const s2.fin gsc vsc.out (e := 29) hk (by omega)
  have p3 := p2.ge (c := 0) (by omega) fin_zero (by rw [V_zero]; omega)
  have p4 := p2.le (by omega) fc3 (by omega)
  rw [V_zero] at p3
  have p5 := p2.err (52 + L) hi52 (by omega) (by rw [e52]; omega)
  rw [e52] at p5
  -- n
  obtain ⟨n, hn⟩ : ∃ n, (V p).toNat / U = n := ⟨_, rfl⟩
  have hU : 0 < U := U_pos
  have n1 : n * U ≤ (V p).toNat := by rw [← hn]; exact Nat.div_mul_le_self _ _
  have n2 : (V p).toNat < n * U + U := by
    have := Nat.lt_div_mul_add (a := (V p).toNat) hU
    rw [hn] at this; exact this
  have n3 : n < 4294967296 := by
    rw [← hn]
    exact (Nat.div_lt_iff_lt_mul hU).2 (by omega)
  obtain ⟨ff, vf⟩ := ofInt_V (n : Int) (by omega) (by omega)
  have hT : n * U = n * A * 2^72 := by rw [eU, Nat.mul_comm (2^72) A, Nat.mul_assoc]
  have hTb : n * A ≤ 4294967295 * A := Nat.mul_le_mul_right _ (by omega)
  have vf2 : V (floatOfInt .f64 (n : Int)) = ((n * A * 2^72 : Nat) : Int) := by rw [vf, ← hT, Int.natCast_mul]
  rw [hT] at n1 n2
  have hn' := Lib.hid hn
  have n2' : (V p).toNat < n * A * 2^72 + 2^72 * A := by rw [← eU]; exact n2
  clear n2 hU eU
  clear vf hT hn
  generalize hTT : n * A = T at *
  clear hTT
  have hbq := fun tp (htp : 2^200 * A ≤ tp) => aux_lon A T tp htp hTb
  -- q
  obtain ⟨q, q1, q2⟩ := div_const ff gsc (by omega) vsc.out (e := 29) hk (by rw [vf2, Int.natAbs_natCast]; exact hbq top etop)
  rw [vf2] at q2
  have q5 := q2.err (29 + L) hi29 (by omega) (by rw [e29]; omega)
  rw [e29] at q5
  -- r
  obtain ⟨r, r1, r2⟩ := add_rnd q2.fin fm (by omega)
  have r5 := r2.err (29 + L) hi29 (by omega) (by rw [e29]; omega)
  rw [e29] at r5
  refine ⟨s, p, n, ⟨s1, p1, s2.fin, p2.fin, p3, hn'.out, n3, s2, p2⟩, q, r, q1, r1, r2.fin, ?_⟩
  rw [vt]
  omega

theorem scale_lat {x : Nat} (fx : Fin64 x) (h1 : V 13859405640767635456 ≤ V x) (h2 : V x ≤ - V 13859405640767635456) :
    (∃ s p n, Scaled 13859405640767635456 4717170329698085547 6405119468546731 (2^28) x s p n ∧
      ∃ q r, Ieee.double.div (floatOfInt .f64 (n : Int)) 4717170329698085547 = some q ∧ Ieee.double.add q 13859405640767635456 = some r ∧ Fin64 r ∧ ((V r - V x).natAbs : Int) ≤ V 4517329193108106637) := by
  have hW := W_eq
  obtain ⟨L, hL⟩ : ∃ L, L = 1002 := ⟨_, rfl⟩
  have eU : U = 2^72 * 2^L := by rw [U_eq, ← Nat.pow_add, show W = 72 + L by omega]
  obtain ⟨vm, fm⟩ := m_90 L hL
  obtain ⟨vt, ft⟩ := c_at L 0 4722366482869645 4517329193108106637 hL (by omega) (by omega) (by omega) (by omega)
  have fsc : V 4717170329698085547 = ((6405119468546731 * 2^1046 : Nat) : Int) ∧ Fin64 4717170329698085547 := V_const 1046 6405119468546731 (by omega) (Or.inr (by omega)) (by omega)
  obtain ⟨vsc0, gsc⟩ := fsc
  have vsc := Lib.hid vsc0
  clear vsc0
  obtain ⟨c2, fc2, vc2⟩ := rep 6333186975989760 (26 + 1 + L) (by omega) (by omega)
  obtain ⟨c3, fc3, vc3⟩ := rep (2^53 - 1) (51 + L) (by omega) (by omega)
  have e29 : 2^(29 + L) = 2^29 * 2^L := Nat.pow_add 2 29 L
  have e52 : 2^(52 + L) = 2^52 * 2^L := Nat.pow_add 2 52 L
  have ec2 : 6333186975989760 * 2^(26 + 1 + L) = 850025966916536138465280 * 2^L := by rw [Nat.pow_add, ← Nat.mul_assoc]
  have ec3 : (2^53 - 1) * 2^(51 + L) = 20282409603651668172147437600768 * 2^L := by rw [Nat.pow_add, ← Nat.mul_assoc]
  have etop : 2^200 * 2^L ≤ top := by rw [← Nat.pow_add]; exact top_ge _ (by omega)
  have hA : 0 < 2^L := pow_pos2 L
  have eB : 6333186975989760 * 2^26 * 2^L = 425012983458268069232640 * 2^L := by congr 1
  have et : 4722366482869645 * 2^0 * 2^L = 4722366482869645 * 2^L := by congr 1
  rw [ec2] at vc2
  rw [ec3] at vc3
  rw [eB] at vm
  rw [et] at vt
  have hi29 : 29 + L ≤ 2000 := by omega
  have hi52 : 52 + L ≤ 2000 := by omega
  have hk : 1046 + 28 = W := by omega
  generalize hAA : 2^L = A at *
  clear hAA
  -- s
  obtain ⟨s, s1, s2⟩ := sub_rnd fx fm (by omega)
  have s3 := s2.ge (c := 0) (by omega) fin_zero (by rw [V_zero]; omega)
  have s4 := s2.le (by omega) fc2 (by omega)
  rw [V_zero] at s3
  have s5 := s2.err (29 + L) hi29 (by omega) (by rw [e29]; omega)
  rw [e29] at s5
  -- p
  obtain ⟨p, p1, p2⟩ := mul_const s2.fin gsc vsc.out (e := 28) hk (by omega)
  have p3 := p2.ge (c := 0) (by omega) fin_zero (by rw [V_zero]; omega)
  have p4 := p2.le (by omega) fc3 (by omega)
  rw [V_zero] at p3
  have p5 := p2.err (52 + L) hi52 (by omega) (by rw [e52]; omega)
  rw [e52] at p5
  -- n
  obtain ⟨n, hn⟩ : ∃ n, (V p).toNat / U = n := ⟨_, rfl⟩
  have hU : 0 < U := U_pos
  have n1 : n * U ≤ (V p).toNat := by rw [← hn]; exact Nat.div_mul_le_self _ _
  have n2 : (V p).toNat < n * U + U := by
    have := Nat.lt_div_mul_add (a := (V p).toNat) hU
    rw [hn] at this; exact this
  have n3 : n < 4294967296 := by
    rw [← hn]
    exact (Nat.div_lt_iff_lt_mul hU).2 (by omega)
  obtain ⟨ff, vf⟩ := ofInt_V (n : Int) (by omega) (by omega)
  have hT : n * U = n * A * 2^72 := by rw [eU, Nat.mul_comm (2^72) A, Nat.mul_assoc]
  have hTb : n * A ≤ 4294967295 * A := Nat.mul_le_mul_right _ (by omega)
  have vf2 : V (floatOfInt .f64 (n : Int)) = ((n * A * 2^72 : Nat) : Int) := by rw [vf, ← hT, Int.natCast_mul]
  rw [hT] at n1 n2
  have hn' := Lib.hid hn
  have n2' : (V p).toNat < n * A * 2^72 + 2^72 * A := by rw [← eU]; exact n2
  clear n2 hU eU
  clear vf hT hn
  generalize hTT : n * A = T at *
  clear hTT
  have hbq := fun tp (htp : 2^200 * A ≤ tp) => aux_lat A T tp htp hTb
  -- q
  obtain ⟨q, q1, q2⟩ := div_const ff gsc (by omega) vsc.out (e := 28) hk (by rw [vf2, Int.natAbs_natCast]; exact hbq top etop)
  rw [vf2] at q2
  have q5 := q2.err (29 + L) hi29 (by omega) (by rw [e29]; omega)
  rw [e29] at q5
  -- r
  obtain ⟨r, r1, r2⟩ := add_rnd q2.fin fm (by omega)
  have r5 := r2.err (29 + L) hi29 (by omega) (by rw [e29]; omega)
  rw [e29] at r5
  refine ⟨s, p, n, ⟨s1, p1, s2.fin, p2.fin, p3, hn'.out, n3, s2, p2⟩, q, r, q1, r1, r2.fin, ?_⟩
  rw [vt]
  omega
end Go.Proofs.YtobloagecjhhiaaDoor
