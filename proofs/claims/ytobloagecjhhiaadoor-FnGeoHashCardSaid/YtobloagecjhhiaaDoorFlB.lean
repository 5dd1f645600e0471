/-
  More on doubles as whole numbers of units: errors of the operations, constants, what 'near' and 'compareGeo' come to. Plain Lean; no program in sight.
-/
import Derived.Test.YtobloagecjhhiaaDoorFl
namespace Fl
open Ieee

/-- A common factor goes. -/
theorem Rnd.descale {N : Int} {D q r : Nat} (hq : 0 < q) (h : Rnd (N * q) (D * q) r) : Rnd N D r := by
  refine ⟨h.fin, fun c hc => ?_⟩
  have h1 := h.near c hc
  have e : ∀ v : Int, v * ((D * q : Nat) : Int) - N * q = (v * D - N) * q := by
    intro v; push_cast; rw [Int.sub_mul, Int.mul_assoc]
  rw [e, e, Int.natAbs_mul, Int.natAbs_mul, Int.natAbs_natCast] at h1
  exact Nat.le_of_mul_le_mul_right h1 hq

/-- How far a nearest double lies: less than 2^i, where the value is less than 2^53 such steps. -/
theorem Rnd.err {N : Int} {D r : Nat} (h : Rnd N D r) (i : Nat) (hi : i ≤ 2000) (hD : 0 < D) (hx : N.natAbs + 2^i * D ≤ 2^53 * (2^i * D)) : (V r * D - N).natAbs < 2^i * D := by
  have hS : 0 < 2^i * D := Nat.mul_pos (pow_pos2 i) hD
  obtain ⟨k, h1, h2⟩ : ∃ k : Int, k * ((2^i * D : Nat) : Int) ≤ N ∧ N < k * ((2^i * D : Nat) : Int) + ((2^i * D : Nat) : Int) := by
    refine ⟨N / ((2^i * D : Nat) : Int), Int.ediv_mul_le N (by omega), ?_⟩
    have := Int.lt_ediv_add_one_mul_self N (show (0 : Int) < ((2^i * D : Nat) : Int) by omega)
    rw [Int.add_mul, Int.one_mul] at this
    exact this
  have hk : k.natAbs ≤ 2^53 := by
    have a1 : k * ((2^i * D : Nat) : Int) < ((2^53 : Nat) : Int) * ((2^i * D : Nat) : Int) + 1 := by
      have : ((2^53 * (2^i * D) : Nat) : Int) = ((2^53 : Nat) : Int) * ((2^i * D : Nat) : Int) := Int.natCast_mul _ _
      omega
    have a2 : -(((2^53 : Nat) : Int) * ((2^i * D : Nat) : Int)) ≤ k * ((2^i * D : Nat) : Int) := by
      have : ((2^53 * (2^i * D) : Nat) : Int) = ((2^53 : Nat) : Int) * ((2^i * D : Nat) : Int) := Int.natCast_mul _ _
      omega
    have a3 : k ≤ ((2^53 : Nat) : Int) := by
      rcases Int.lt_or_le ((2^53 : Nat) : Int) k with hlt | hle
      · exfalso
        have := Int.mul_le_mul_of_nonneg_right (show ((2^53 : Nat) : Int) + 1 ≤ k from hlt) (show (0 : Int) ≤ ((2^i * D : Nat) : Int) by omega)
        rw [Int.add_mul, Int.one_mul] at this
        omega
      · exact hle
    have a4 : -((2^53 : Nat) : Int) ≤ k := by
      rcases Int.lt_or_le k (-((2^53 : Nat) : Int)) with hlt | hle
      · exfalso
        have := Int.mul_lt_mul_of_pos_right hlt (show (0 : Int) < ((2^i * D : Nat) : Int) by omega)
        rw [Int.neg_mul] at this
        omega
      · exact hle
    omega
  obtain ⟨c, hc, hv⟩ := rep_int k i hk hi
  have h3 := h.near c hc
  have e : V c * D = k * ((2^i * D : Nat) : Int) := by rw [hv]; push_cast; rw [Int.mul_assoc]
  rw [e] at h3
  omega

/-- Relative: within two parts of 2^53 - 1, and one unit. -/
theorem Rnd.rel {N : Int} {D r : Nat} (h : Rnd N D r) (hD : 0 < D) (m : Nat) (hm : m ≤ 2000) (hb : N.natAbs ≤ 2^m * D) :
    (V r * D - N).natAbs * (2^53 - 1) ≤ 2 * N.natAbs + (2^53 - 1) * D := by
  have hex : N.natAbs + 2^m * D ≤ 2^53 * (2^m * D) := by
    generalize 2^m * D = z at *
    omega
  -- the least such i
  have hmin : ∃ i, i ≤ 2000 ∧ N.natAbs + 2^i * D ≤ 2^53 * (2^i * D) ∧ (i = 0 ∨ 2^53 * (2^(i-1) * D) < N.natAbs + 2^(i-1) * D) := by
    have : ∀ n, n ≤ 2000 → N.natAbs + 2^n * D ≤ 2^53 * (2^n * D) → ∃ i, i ≤ 2000 ∧ N.natAbs + 2^i * D ≤ 2^53 * (2^i * D) ∧ (i = 0 ∨ 2^53 * (2^(i-1) * D) < N.natAbs + 2^(i-1) * D) := by
      intro n
      induction n with
      | zero => intro _ h0; exact ⟨0, by omega, h0, Or.inl rfl⟩
      | succ n ih =>
        intro hn h1
        by_cases h2 : N.natAbs + 2^n * D ≤ 2^53 * (2^n * D)
        · exact ih (by omega) h2
        · exact ⟨n + 1, hn, h1, Or.inr (by rw [Nat.add_sub_cancel]; omega)⟩
    exact this m hm hex
  obtain ⟨i, hi, h1, h2⟩ := hmin
  have he := h.err i (by omega) hD h1
  rcases h2 with h2 | h2
  · subst h2
    rw [Nat.pow_zero, Nat.one_mul] at he
    have := Nat.mul_le_mul_right (2^53 - 1) (Nat.le_of_lt he)
    rw [Nat.mul_comm D] at this
    omega
  · rcases Nat.eq_zero_or_pos i with h0 | h0
    · subst h0
      rw [Nat.pow_zero, Nat.one_mul] at he
      have := Nat.mul_le_mul_right (2^53 - 1) (Nat.le_of_lt he)
      rw [Nat.mul_comm D] at this
      omega
    · have e : 2^i * D = 2 * (2^(i-1) * D) := by
        obtain ⟨j, rfl⟩ : ∃ j, i = j + 1 := ⟨i - 1, by omega⟩
        rw [Nat.add_sub_cancel, Nat.pow_succ, Nat.mul_comm (2^j) 2, Nat.mul_assoc]
      rw [e] at he
      generalize 2^(i-1) * D = z at *
      omega

/-- A product with a constant P * 2^k. -/
theorem mul_const {x y P k e : Nat} (hx : Fin64 x) (hy : Fin64 y) (hv : V y = ((P * 2^k : Nat) : Int)) (hk : k + e = W) (hb : (V x).natAbs * P ≤ top * 2^e) :
    ∃ r, Ieee.double.mul x y = some r ∧ Rnd (V x * P) (2^e) r := by
  have hU : U = 2^e * 2^k := by rw [U_eq, ← Nat.pow_add]; congr 1; omega
  have hb2 : (V x * V y).natAbs ≤ top * U := by
    rw [hv, Int.natAbs_mul, Int.natAbs_natCast, hU, ← Nat.mul_assoc, ← Nat.mul_assoc]
    exact Nat.mul_le_mul_right _ hb
  obtain ⟨r, hr, h⟩ := mul_rnd hx hy hb2
  refine ⟨r, hr, Rnd.descale (pow_pos2 k) ?_⟩
  rw [← hU]
  have : V x * V y = V x * (P : Int) * ((2^k : Nat) : Int) := by rw [hv]; push_cast; rw [Int.mul_assoc]
  rw [← this]
  exact h

/-- A quotient by a constant P * 2^k, k + e = 1074. -/
theorem div_const {x y P k e : Nat} (hx : Fin64 x) (hy : Fin64 y) (hP : 0 < P) (hv : V y = ((P * 2^k : Nat) : Int)) (hk : k + e = W) (hb : (V x).natAbs * 2^e ≤ top * P) :
    ∃ r, Ieee.double.div x y = some r ∧ Rnd (V x * ((2^e : Nat) : Int)) P r := by
  have hU : U = 2^e * 2^k := by rw [U_eq, ← Nat.pow_add]; congr 1; omega
  have hpos : 0 < V y := by rw [hv]; have := Nat.mul_pos hP (pow_pos2 k); omega
  have hb2 : (V x).natAbs * U ≤ top * (V y).toNat := by
    rw [hv, Int.toNat_natCast, hU, ← Nat.mul_assoc, ← Nat.mul_assoc]
    exact Nat.mul_le_mul_right _ hb
  obtain ⟨r, hr, h⟩ := div_rnd hx hy hpos hb2
  refine ⟨r, hr, Rnd.descale (pow_pos2 k) ?_⟩
  rw [hv, Int.toNat_natCast] at h
  have : V x * (U : Int) = V x * ((2^e : Nat) : Int) * ((2^k : Nat) : Int) := by rw [hU]; push_cast; rw [Int.mul_assoc]
  rw [← this]
  exact h

/-- The greatest finite double is more than 2^n for n to 2045, in units. -/
theorem top_ge (n : Nat) (hn : n ≤ 2045) : 2^n ≤ top := by
  obtain ⟨m, hm⟩ : ∃ m : Nat, m = 2045 := ⟨_, rfl⟩
  unfold top
  have h := G_form m (2^53 - 1) (by omega) (Or.inr (by omega))
  have e : m * 2^52 + (2^53 - 1) = 2047 * 2^52 - 1 := by omega
  rw [e] at h
  rw [h]
  have h1 : 2^n ≤ 2^m := Nat.pow_le_pow_right (by omega) (by omega)
  have h2 : 1 * 2^m ≤ (2^53 - 1) * 2^m := Nat.mul_le_mul_right _ (by omega)
  rw [Nat.one_mul] at h2
  exact Nat.le_trans h1 h2

theorem mul_const' {x y P k e : Nat} (hx : Fin64 x) (hy : Fin64 y) (hv : V x = ((P * 2^k : Nat) : Int)) (hk : k + e = W) (hb : (V y).natAbs * P ≤ top * 2^e) :
    ∃ r, Ieee.double.mul x y = some r ∧ Rnd (V y * P) (2^e) r := by
  have hU : U = 2^e * 2^k := by rw [U_eq, ← Nat.pow_add]; congr 1; omega
  have hb2 : (V x * V y).natAbs ≤ top * U := by
    rw [Int.mul_comm, hv, Int.natAbs_mul, Int.natAbs_natCast, hU, ← Nat.mul_assoc, ← Nat.mul_assoc]
    exact Nat.mul_le_mul_right _ hb
  obtain ⟨r, hr, h⟩ := mul_rnd hx hy hb2
  refine ⟨r, hr, Rnd.descale (pow_pos2 k) ?_⟩
  rw [← hU]
  have : V x * V y = V y * (P : Int) * ((2^k : Nat) : Int) := by rw [hv, Int.mul_comm]; push_cast; rw [Int.mul_assoc]
  rw [← this]
  exact h

theorem fin_zero : Fin64 0 := ⟨by decide, by decide⟩
theorem V_zero : V 0 = 0 := by decide

/-- 1e-12, 1e-300, 1e-6, 1e-5. -/
theorem c_part : V 4427486594234968593 = ((4951760157141521 * 2^982 : Nat) : Int) ∧ Fin64 4427486594234968593 := V_const 982 4951760157141521 (by omega) (Or.inr (by omega)) (by omega)
theorem c_little : V 118622047889322841 = ((6032057205060441 * 2^25 : Nat) : Int) ∧ Fin64 118622047889322841 := V_const 25 6032057205060441 (by omega) (Or.inr (by omega)) (by omega)
theorem c_tol : V 4517329193108106637 = ((4722366482869645 * 2^1002 : Nat) : Int) ∧ Fin64 4517329193108106637 := V_const 1002 4722366482869645 (by omega) (Or.inr (by omega)) (by omega)
theorem c_edge : V 4532020583610935537 = ((5902958103587057 * 2^1005 : Nat) : Int) ∧ Fin64 4532020583610935537 := V_const 1005 5902958103587057 (by omega) (Or.inr (by omega)) (by omega)
theorem c_rad : V 4580687790476533049 = ((5030569068109113 * 2^1016 : Nat) : Int) ∧ Fin64 4580687790476533049 := V_const 1016 5030569068109113 (by omega) (Or.inr (by omega)) (by omega)
theorem c_pi : V 4614256656552045848 = ((7074237752028440 * 2^1023 : Nat) : Int) ∧ Fin64 4614256656552045848 := V_const 1023 7074237752028440 (by omega) (Or.inr (by omega)) (by omega)
theorem c_180 : V 4640537203540230144 = ((6333186975989760 * 2^1029 : Nat) : Int) ∧ Fin64 4640537203540230144 := V_const 1029 6333186975989760 (by omega) (Or.inr (by omega)) (by omega)
theorem c_deg : V 4633260481411531256 = ((8063664102031864 * 2^1027 : Nat) : Int) ∧ Fin64 4633260481411531256 := V_const 1027 8063664102031864 (by omega) (Or.inr (by omega)) (by omega)
theorem c_mill : V 4696837146684686336 = ((8589934592000000 * 2^1041 : Nat) : Int) ∧ Fin64 4696837146684686336 := V_const 1041 8589934592000000 (by omega) (Or.inr (by omega)) (by omega)

/-- Two doubles (of at most 2^n units, n to 1200, M the greater magnitude) whose difference is at most M / 2^48 + 2^20 units are near. -/
theorem near_rel {x y m : Nat} (hx : Fin64 x) (hy : Fin64 y) (hm : Fin64 m) (hM : V m = max ((V x).natAbs : Int) ((V y).natAbs : Int)) (n : Nat) (hn1 : 200 ≤ n) (hn2 : n ≤ 1200) (hb : V m ≤ ((2^n : Nat) : Int))
    (hd : ((V x - V y).natAbs : Int) * 2^48 ≤ V m + 2^68) :
    ∃ d p s, double.sub x y = some d ∧ double.mul 4427486594234968593 m = some p ∧ double.add p 118622047889322841 = some s ∧ Fin64 d ∧ Fin64 s ∧ ((V d).natAbs : Int) ≤ V s := by
  obtain ⟨B, hB⟩ : ∃ B : Nat, 2^n = B := ⟨_, rfl⟩
  have hW := W_eq
  have ht : B * 2^200 ≤ top := by
    rw [← hB, ← Nat.pow_add]; exact top_ge _ (by omega)
  have hB1 : 2^200 ≤ B := by rw [← hB]; exact Nat.pow_le_pow_right (by omega) (by omega)
  rw [hB] at hb
  obtain ⟨d, hd1, hd2⟩ := sub_rnd hx hy (by omega)
  obtain ⟨p, hp1, hp2⟩ := mul_const' c_part.2 hm c_part.1 (e := 92) (by omega) (by
    have h1 : (V m).natAbs * 4951760157141521 ≤ B * 2^200 := Nat.mul_le_mul (by omega) (by omega)
    have h2 : top * 1 ≤ top * 2^92 := Nat.mul_le_mul_left _ (by omega)
    rw [Nat.mul_one] at h2
    exact Nat.le_trans h1 (Nat.le_trans ht h2))
  have rp := hp2.rel (pow_pos2 92) (n + 200) (by omega) (by
    have h1 : (V m * ((4951760157141521 : Nat) : Int)).natAbs ≤ B * 2^200 := by
      rw [Int.natAbs_mul, Int.natAbs_natCast]
      exact Nat.mul_le_mul (by omega) (by omega)
    have h2 : B * 2^200 = 2^(n + 200) := by rw [← hB, ← Nat.pow_add]
    have h3 : 2^(n + 200) * 1 ≤ 2^(n + 200) * 2^92 := Nat.mul_le_mul_left _ (by omega)
    rw [h2] at h1
    rw [Nat.mul_one] at h3
    exact Nat.le_trans h1 h3)
  have rd := hd2.rel (by omega) (n + 200) (by omega) (by
    have h2 : B * 2^200 = 2^(n + 200) := by rw [← hB, ← Nat.pow_add]
    rw [Nat.mul_one, ← h2]
    omega)
  have hlit := c_little.1
  have hpb : (V p).natAbs ≤ B * 2 := by omega
  obtain ⟨s, hs1, hs2⟩ := add_rnd hp2.fin c_little.2 (by rw [hlit]; omega)
  have rs := hs2.rel (by omega) (n + 200) (by omega) (by
    have h2 : B * 2^200 = 2^(n + 200) := by rw [← hB, ← Nat.pow_add]
    rw [Nat.mul_one, ← h2, hlit]
    omega)
  refine ⟨d, p, s, hd1, hp1, hs1, hd2.fin, hs2.fin, ?_⟩
  rw [hlit] at rs
  omega

theorem le_pow {x k L a : Nat} {v : Int} (hv : v = ((k * 2^L : Nat) : Int)) (hk : k ≤ 2^a) (h : ((V x).natAbs : Int) ≤ v) : (V x).natAbs ≤ 2^(a + L) := by
  rw [hv] at h
  have h2 : k * 2^L ≤ 2^a * 2^L := Nat.mul_le_mul_right _ hk
  rw [Nat.pow_add]
  omega

/-- Degrees to radians by one product, and by a product and a quotient. -/
theorem turns_law {d : Nat} (hd : Fin64 d) (n : Nat) (hn1 : 200 ≤ n) (hn2 : n ≤ 1100) (hb : (V d).natAbs ≤ 2^n) :
    ∃ r t u, Ieee.double.mul d 4580687790476533049 = some r ∧ Ieee.double.mul d 4614256656552045848 = some t ∧ Ieee.double.div t 4640537203540230144 = some u ∧
      Fin64 r ∧ Fin64 u ∧ (V r).natAbs ≤ 2^n ∧ (V u).natAbs ≤ 2^n ∧ ((V r - V u).natAbs : Int) * 2^48 ≤ ((V r).natAbs : Int) + 2^68 ∧
      ∃ q, Ieee.double.mul r 4633260481411531256 = some q ∧ Fin64 q ∧ (V q).natAbs ≤ 2^(n+1) ∧ ((V q - V d).natAbs : Int) * 2^48 ≤ ((V d).natAbs : Int) + 2^68 := by
  obtain ⟨B, hB⟩ : ∃ B : Nat, 2^n = B := ⟨_, rfl⟩
  have hW := W_eq
  have hpow : B * 2^200 = 2^(n + 200) := by rw [← hB, ← Nat.pow_add]
  have ht : B * 2^200 ≤ top := by rw [hpow]; exact top_ge _ (by omega)
  have hB1 : 2^200 ≤ B := by rw [← hB]; exact Nat.pow_le_pow_right (by omega) (by omega)
  have hB2 : 2^(n + 1) = 2 * B := by rw [Nat.pow_succ, hB, Nat.mul_comm]
  rw [hB2]
  rw [hB] at hb ⊢
  have over : ∀ (x : Nat) (P e : Nat), (V x).natAbs ≤ B * 16 → P ≤ 2^60 → (V x).natAbs * P ≤ top * 2^e := by
    intro x P e h1 h2
    have h3 : (V x).natAbs * P ≤ B * 16 * 2^60 := Nat.mul_le_mul h1 h2
    have h4 : top * 1 ≤ top * 2^e := Nat.mul_le_mul_left _ (pow_pos2 e)
    rw [Nat.mul_one] at h4
    have h5 : B * 16 * 2^60 ≤ B * 2^200 := by rw [Nat.mul_assoc]; exact Nat.mul_le_mul_left _ (by decide)
    exact Nat.le_trans h3 (Nat.le_trans h5 (Nat.le_trans ht h4))
  have size : ∀ (x : Nat) (P e : Nat), (V x).natAbs ≤ B * 16 → P ≤ 2^60 → (V x * (P : Int)).natAbs ≤ 2^(n + 200) * 2^e := by
    intro x P e h1 h2
    rw [Int.natAbs_mul, Int.natAbs_natCast]
    have h3 : (V x).natAbs * P ≤ B * 16 * 2^60 := Nat.mul_le_mul h1 h2
    have h5 : B * 16 * 2^60 ≤ B * 2^200 := by rw [Nat.mul_assoc]; exact Nat.mul_le_mul_left _ (by decide)
    have h4 : 2^(n + 200) * 1 ≤ 2^(n + 200) * 2^e := Nat.mul_le_mul_left _ (pow_pos2 e)
    rw [Nat.mul_one] at h4
    rw [hpow] at h5
    exact Nat.le_trans h3 (Nat.le_trans h5 h4)
  obtain ⟨r, hr1, hr2⟩ := mul_const hd c_rad.2 c_rad.1 (e := 58) (by omega) (over d _ _ (by omega) (by omega))
  have rr := hr2.rel (pow_pos2 58) (n + 200) (by omega) (size d _ _ (by omega) (by omega))
  have hrb : (V r).natAbs ≤ B := by omega
  obtain ⟨t, ht1, ht2⟩ := mul_const hd c_pi.2 c_pi.1 (e := 51) (by omega) (over d _ _ (by omega) (by omega))
  have rt := ht2.rel (pow_pos2 51) (n + 200) (by omega) (size d _ _ (by omega) (by omega))
  have htb : (V t).natAbs ≤ B * 16 := by omega
  obtain ⟨u, hu1, hu2⟩ := div_const ht2.fin c_180.2 (by omega) c_180.1 (e := 45) (by omega) (by
    have h3 : (V t).natAbs * 2^45 ≤ B * 16 * 2^60 := Nat.mul_le_mul htb (by omega)
    have h4 : top * 1 ≤ top * 6333186975989760 := Nat.mul_le_mul_left _ (by omega)
    rw [Nat.mul_one] at h4
    have h5 : B * 16 * 2^60 ≤ B * 2^200 := by rw [Nat.mul_assoc]; exact Nat.mul_le_mul_left _ (by decide)
    exact Nat.le_trans h3 (Nat.le_trans h5 (Nat.le_trans ht h4)))
  have ru := hu2.rel (by omega) (n + 200) (by omega) (by
    have h3 := size t (2^45) 0 htb (by omega)
    rw [Nat.pow_zero, Nat.mul_one] at h3
    have h4 : 2^(n + 200) * 1 ≤ 2^(n + 200) * 6333186975989760 := Nat.mul_le_mul_left _ (by omega)
    rw [Nat.mul_one] at h4
    exact Nat.le_trans h3 h4)
  obtain ⟨q, hq1, hq2⟩ := mul_const hr2.fin c_deg.2 c_deg.1 (e := 47) (by omega) (over r _ _ (by omega) (by omega))
  have rq := hq2.rel (pow_pos2 47) (n + 200) (by omega) (size r _ _ (by omega) (by omega))
  clear over size
  refine ⟨r, t, u, hr1, ht1, hu1, hr2.fin, hu2.fin, hrb, by omega, by omega, q, hq1, hq2.fin, by omega, by omega⟩

theorem V_const' (L j k : Nat) (hk : k ≤ 2^53) (h : 2^52 ≤ k) (hL : L + j ≤ 2000) : V ((L + j) * 2^52 + k) = ((k * 2^j * 2^L : Nat) : Int) ∧ Fin64 ((L + j) * 2^52 + k) := by
  have h1 := V_const (L + j) k hk (Or.inr h) hL
  rw [Nat.pow_add, Nat.mul_comm (2^L), ← Nat.mul_assoc] at h1
  exact h1

/-- 1e-5, 1e-6 and 10^6 over one step, 2^1002 units. -/
theorem b_edge : V 4532020583610935537 = ((5902958103587057 * 2^3 * 2^1002 : Nat) : Int) ∧ Fin64 4532020583610935537 := V_const' 1002 3 5902958103587057 (by omega) (by omega) (by omega)
theorem b_tol : V 4517329193108106637 = ((4722366482869645 * 2^0 * 2^1002 : Nat) : Int) ∧ Fin64 4517329193108106637 := V_const' 1002 0 4722366482869645 (by omega) (by omega) (by omega)
theorem b_mill : V 4696837146684686336 = ((8589934592000000 * 2^39 * 2^1002 : Nat) : Int) ∧ Fin64 4696837146684686336 := V_const' 1002 39 8589934592000000 (by omega) (by omega) (by omega)

/-- What compareGeo gives of a difference. -/
def tame (c : Nat) : Nat := if (double.order (c % 2^63) 4517329193108106637 == some .lt || double.order (c % 2^63) 4517329193108106637 == some .eq) = true then 0 else c

theorem tame_fin {c : Nat} (h : Fin64 c) : Fin64 (tame c) := by
  unfold tame; split
  · exact fin_zero
  · exact h
theorem tame_V {c : Nat} (h : Fin64 c) : V (tame c) = if ((V c).natAbs : Int) ≤ V 4517329193108106637 then 0 else V c := by
  unfold tame
  rw [leq_V h.abs c_tol.2, V_abs_word]
  by_cases e : ((V c).natAbs : Int) ≤ V 4517329193108106637
  · rw [if_pos e, if_pos (decide_eq_true e)]; exact V_zero
  · rw [if_neg e, if_neg (by simpa using e)]

/-- The numbers of the box: all that is asked of two of them. -/
theorem box_law {a b : Nat} (fa : Fin64 a) (fb : Fin64 b) (ha : ((V a).natAbs : Int) ≤ V 4696837146684686336) (hb : ((V b).natAbs : Int) ≤ V 4696837146684686336) :
    ∃ c s t, double.sub a b = some c ∧ double.sub b 4532020583610935537 = some s ∧ double.add b 4532020583610935537 = some t ∧ Fin64 c ∧ Fin64 s ∧ Fin64 t ∧
      (V b ≤ V a → 0 ≤ V (tame c)) ∧ (V a ≤ V b → V (tame c) ≤ 0) ∧ (V a < V s → V (tame c) < 0) ∧ (V t < V a → 0 < V (tame c)) := by
  obtain ⟨L, hL⟩ : ∃ L : Nat, L = 1002 := ⟨_, rfl⟩
  have ce := b_edge.1
  have ct := b_tol.1
  have cm := b_mill.1
  rw [← hL] at ce ct cm
  have p40 : 2^(L + 40) = 2^40 * 2^L := by rw [Nat.pow_add, Nat.mul_comm]
  have p41 : 2^(L + 41) = 2^41 * 2^L := by rw [Nat.pow_add, Nat.mul_comm]
  have htop : 2^100 * 2^L ≤ top := by
    have := top_ge (L + 100) (by omega)
    rw [Nat.pow_add, Nat.mul_comm] at this
    exact this
  have hzp := pow_pos2 L
  obtain ⟨z, hz⟩ : ∃ z : Nat, 2^L = z := ⟨_, rfl⟩
  rw [hz] at ce ct cm p40 p41 htop hzp
  rw [cm] at ha hb
  obtain ⟨c, hc1, hc2⟩ := sub_rnd fa fb (by omega)
  obtain ⟨s, hs1, hs2⟩ := sub_rnd fb c_edge.2 (by rw [ce]; omega)
  obtain ⟨t, ht1, ht2⟩ := add_rnd fb c_edge.2 (by rw [ce]; omega)
  have ec := hc2.err (L + 41) (by omega) (by omega) (by rw [p41]; omega)
  have es := hs2.err (L + 40) (by omega) (by omega) (by rw [p40, ce]; omega)
  have et := ht2.err (L + 40) (by omega) (by omega) (by rw [p40, ce]; omega)
  rw [p41] at ec
  rw [p40, ce] at es et
  refine ⟨c, s, t, hc1, hs1, ht1, hc2.fin, hs2.fin, ht2.fin, ?_⟩
  rw [tame_V hc2.fin, ct]
  refine ⟨fun h => ?_, fun h => ?_, fun h => ?_, fun h => ?_⟩
  · have := hc2.ge (by omega) fin_zero (by rw [V_zero]; omega)
    rw [V_zero] at this
    split <;> omega
  · have := hc2.le (by omega) fin_zero (by rw [V_zero]; omega)
    rw [V_zero] at this
    split <;> omega
  · rw [if_neg (by omega)]; omega
  · rw [if_neg (by omega)]; omega

/-- Two doubles that are one value are near, whatever part; nothing little. -/
theorem near_same {x y m : Nat} (hx : Fin64 x) (hy : Fin64 y) (hm : Fin64 m) (h0 : 0 ≤ V m) (h : V x = V y) (n : Nat) (hn : n ≤ 1200) (hb : V m ≤ ((2^n : Nat) : Int)) :
    ∃ d p s, double.sub x y = some d ∧ double.mul 4427486594234968593 m = some p ∧ double.add p 0 = some s ∧ Fin64 d ∧ Fin64 s ∧ ((V d).natAbs : Int) ≤ V s := by
  have hW := W_eq
  obtain ⟨d, hd1, hd2⟩ := sub_rnd hx hy (by omega)
  have hd0 := hd2.exact (c := 0) (by omega) fin_zero (by rw [V_zero]; omega)
  obtain ⟨B, hB⟩ : ∃ B : Nat, 2^n = B := ⟨_, rfl⟩
  have hpow : B * 2^200 = 2^(n + 200) := by rw [← hB, ← Nat.pow_add]
  have ht : B * 2^200 ≤ top := by rw [hpow]; exact top_ge _ (by omega)
  rw [hB] at hb
  obtain ⟨p, hp1, hp2⟩ := mul_const' c_part.2 hm c_part.1 (e := 92) (by omega) (by
    have h1 : (V m).natAbs * 4951760157141521 ≤ B * 2^200 := Nat.mul_le_mul (by omega) (by omega)
    have h2 : top * 1 ≤ top * 2^92 := Nat.mul_le_mul_left _ (by omega)
    rw [Nat.mul_one] at h2
    exact Nat.le_trans h1 (Nat.le_trans ht h2))
  have hpge := hp2.ge (c := 0) (by omega) fin_zero (by rw [V_zero]; omega)
  have hp3 : (V p).natAbs ≤ top := by
    have := V_abs p
    rw [this]
    exact G_le (by have := hp2.fin.1; omega)
  obtain ⟨s, hs1, hs2⟩ := add_rnd hp2.fin fin_zero (by rw [V_zero]; omega)
  have hsge := hs2.ge (c := 0) (by omega) fin_zero (by rw [V_zero] at hpge ⊢; omega)
  rw [V_zero] at hsge hd0
  exact ⟨d, p, s, hd1, hp1, hs1, hd2.fin, hs2.fin, by omega⟩

/-- Two doubles whose difference is at most 1e-6 are near, without a part. -/
theorem near_abs {x y m : Nat} (hx : Fin64 x) (hy : Fin64 y) (hm : Fin64 m) (h : ((V x - V y).natAbs : Int) ≤ V 4517329193108106637) :
    ∃ d p s, double.sub x y = some d ∧ double.mul 0 m = some p ∧ double.add p 4517329193108106637 = some s ∧ Fin64 d ∧ Fin64 s ∧ ((V d).natAbs : Int) ≤ V s := by
  have ht : (V 4517329193108106637).natAbs ≤ top := by
    rw [V_abs]; exact G_le (by have := c_tol.2.1; omega)
  obtain ⟨d, hd1, hd2⟩ := sub_rnd hx hy (by omega)
  obtain ⟨tn, htn1, htn2⟩ := rep_neg c_tol.2
  have u1 := hd2.le (by omega) c_tol.2 (by omega)
  have u2 := hd2.ge (by omega) htn1 (by omega)
  obtain ⟨p, hp1, hp2⟩ := mul_rnd fin_zero hm (by rw [V_zero, Int.zero_mul]; exact Nat.zero_le _)
  have hp0 := hp2.exact (c := 0) U_pos fin_zero (by rw [V_zero, Int.zero_mul, Int.zero_mul])
  rw [V_zero] at hp0
  obtain ⟨s, hs1, hs2⟩ := add_rnd hp2.fin c_tol.2 (by omega)
  have hs0 := hs2.exact (by omega) c_tol.2 (by omega)
  exact ⟨d, p, s, hd1, hp1, hs1, hd2.fin, hs2.fin, by omega⟩
end Fl
