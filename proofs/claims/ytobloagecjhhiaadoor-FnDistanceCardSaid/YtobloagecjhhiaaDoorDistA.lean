/-
  laws.FnDistance over every input: the walks and the numbers joined. Condition: the listed variables hold what the row lists.
-/
import Derived.Test.YtobloagecjhhiaaDoorDistW
namespace Go.Proofs.YtobloagecjhhiaaDoor
open Go.RowKit Go.PlainAid Fl

theorem dist_all (h u : Int) (junk : ByteArray) (w : World) (h0 : 0 ≤ h) (h1 : h ≤ 4294967295) (u0 : 0 ≤ u) (u1 : u ≤ 255) (hl : LiesD w) :
    Calls Tryd.prog 6 #[.int .u32 h, .int .u8 u, .string junk] w fun e w' => e = .returned (.bool true) ∧ Below w.heap.size w w' := by
  by_cases hj : 2147483647 < junk.size
  · exact dist_long h u junk w hj
  obtain ⟨H, hH⟩ := Int.eq_ofNat_of_zero_le h0
  obtain ⟨r, r1, r2, fr, vr0, vr1⟩ := number_ex H (by omega)
  rw [← hH] at r1
  obtain ⟨K, hK⟩ := Int.eq_ofNat_of_zero_le (Int.emod_nonneg u (show (19 : Int) ≠ 0 by omega))
  by_cases hk : K < 18
  · obtain ⟨fc, vc0, vc1⟩ := cv_fin (K / 2) (by omega)
    obtain ⟨q, q1, fq, vq0, vq1, _⟩ := product_ex fr fc vr0 vr1 vc0 vc1
    exact dist_unitW H K r q h u junk w hH h0 h1 u0 u1 hk hK (by omega) hl r1 r2 q1 (near_eq fc fc rfl 1085 (by omega) vc0 vc1) (near_eq fq fq rfl 1120 (by omega) vq0 vq1)
  · have hk18 : u % 19 = 18 := by
      have := Int.emod_lt_of_pos u (show (0 : Int) < 19 by omega)
      omega
    have le : ∀ a b : Nat, a ≤ b → ((2^a : Nat) : Int) ≤ ((2^b : Nat) : Int) := fun a b h => Int.ofNat_le.2 (Nat.pow_le_pow_right (by decide) h)
    have hj2 : junk.size ≤ 2147483647 := by omega
    obtain ⟨hv, fc⟩ := one_V
    obtain ⟨q, q1, fq, vq0, vq1, hq⟩ := product_ex fr fc vr0 vr1 (by rw [hv]; exact Int.natCast_nonneg _) (by rw [hv]; exact le 1074 1085 (by decide))
    exact dist_plainW H r q h u junk w hH h0 h1 u0 u1 hk18 hj2 hl r1 r2 q1 (near_eq fr fq (hq hv).symm 1106 (by decide) vr0 vr1)
end Go.Proofs.YtobloagecjhhiaaDoor
