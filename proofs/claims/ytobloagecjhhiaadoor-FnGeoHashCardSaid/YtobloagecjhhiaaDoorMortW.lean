/-
  The walks of spec.Place, of the Morton hash's functions and of laws.FnMorton. Condition: the two tables lie where the row lists them.
-/
import Derived.Test.YtobloagecjhhiaaDoorMortL
namespace Go.Proofs.YtobloagecjhhiaaDoor
open Go.RowKit Go.PlainAid Fl

def placeB (x y : Nat) : Bool := geB x 13863909240395005952 && leB x 4640537203540230144 && geB y 13859405640767635456 && leB y 4636033603912859648

set_option maxHeartbeats 400000 in
theorem place24 (x y : Nat) (w : World) : Calls Tryd.prog 24 #[.float .f64 x, .float .f64 y] w fun e w' => e = .returned (.bool (placeB x y)) ∧ w = w' := by
  go_enter Tryd.func24, Tryd.ntmps24
  go_wp2
  all_goals
    go_ret
    refine ⟨?_, rfl⟩
    unfold placeB geB leB
    first | (simp_all; done) | (refine ret_bool ?_; rw [Bool.eq_iff_iff]; simp_all; done)

theorem conv_u64 (p n : Nat) (fp : Fin64 p) (p0 : 0 ≤ V p) (hn : (V p).toNat / U = n) (lt : n < 4294967296) (w : World) : (convert 22 36 (.float .f64 p)).run Tryd.prog w = .ok (.int .u64 n) w := by
  refine run_convert_float_int w 22 36 .f64 .u64 p n (by rw [Tryd.underlying22]; rfl) Tryd.underlying36 ?_
  unfold floatToIntVal
  have h : (FloatKind.f64.decode p).toInt .zero = some ((n : Nat) : Int) := by rw [← hn]; exact toInt_V fp p0
  rw [h]
  have e1 : IntKind.u64.min = 0 := rfl
  have e2 : IntKind.u64.max = 18446744073709551615 := rfl
  simp only [e1, e2]
  rw [if_pos (by omega)]

section
variable {P : Int} {D x s p n : Nat}
set_option maxHeartbeats 400000 in
theorem scale51 (h : Scaled 13863909240395005952 4712666730070715051 P D x s p n) (w : World) : Calls Tryd.prog 51 #[.float .f64 x] w fun e w' => e = .returned (.int .u64 n) ∧ w = w' := by
  have q1 := fun w => run_float_arith (P := Tryd.prog) w .sub 22 .f64 _ _ _ h.sub
  have q2 := fun w => run_float_arith (P := Tryd.prog) w .mul 22 .f64 _ _ _ h.mul
  have q3 := conv_u64 p n h.fp h.p0 h.hn h.lt
  clear h
  go_enter Tryd.func51, Tryd.ntmps51
  go_wp2
  go_ret
  exact ⟨rfl, rfl⟩
set_option maxHeartbeats 400000 in
theorem scale52 (h : Scaled 13859405640767635456 4717170329698085547 P D x s p n) (w : World) : Calls Tryd.prog 52 #[.float .f64 x] w fun e w' => e = .returned (.int .u64 n) ∧ w = w' := by
  have q1 := fun w => run_float_arith (P := Tryd.prog) w .sub 22 .f64 _ _ _ h.sub
  have q2 := fun w => run_float_arith (P := Tryd.prog) w .mul 22 .f64 _ _ _ h.mul
  have q3 := conv_u64 p n h.fp h.p0 h.hn h.lt
  clear h
  go_enter Tryd.func52, Tryd.ntmps52
  go_wp2
  go_ret
  exact ⟨rfl, rfl⟩
end

set_option maxHeartbeats 400000 in
theorem unscale53 (n q r : Nat) (h1 : Ieee.double.div (floatOfInt .f64 (n : Int)) 4712666730070715051 = some q) (h2 : Ieee.double.add q 13863909240395005952 = some r) (w : World) :
    Calls Tryd.prog 53 #[.int .u64 n] w fun e w' => e = .returned (.float .f64 r) ∧ w = w' := by
  have q1 := fun w => run_float_arith (P := Tryd.prog) w .quo 22 .f64 _ _ _ h1
  have q2 := fun w => run_float_arith (P := Tryd.prog) w .add 22 .f64 _ _ _ h2
  clear h1 h2
  go_enter Tryd.func53, Tryd.ntmps53
  go_wp2
  go_ret
  exact ⟨rfl, rfl⟩
set_option maxHeartbeats 400000 in
theorem unscale54 (n q r : Nat) (h1 : Ieee.double.div (floatOfInt .f64 (n : Int)) 4717170329698085547 = some q) (h2 : Ieee.double.add q 13859405640767635456 = some r) (w : World) :
    Calls Tryd.prog 54 #[.int .u64 n] w fun e w' => e = .returned (.float .f64 r) ∧ w = w' := by
  have q1 := fun w => run_float_arith (P := Tryd.prog) w .quo 22 .f64 _ _ _ h1
  have q2 := fun w => run_float_arith (P := Tryd.prog) w .add 22 .f64 _ _ _ h2
  clear h1 h2
  go_enter Tryd.func54, Tryd.ntmps54
  go_wp2
  go_ret
  exact ⟨rfl, rfl⟩

section
variable {P P' : Int} {D x s p n D' y s' p' k : Nat}
set_option maxHeartbeats 400000 in
theorem hash39 (h : Scaled 13863909240395005952 4712666730070715051 P D x s p n) (h' : Scaled 13859405640767635456 4717170329698085547 P' D' y s' p' k) (w : World) (hm : Magic w) :
    Calls Tryd.prog 39 #[.float .f64 x, .float .f64 y] w fun e w' => e = .returned (.int .u64 (inter n k : Nat)) ∧ w = w' := by
  have c1 := scale51 h w
  have c2 := scale52 h' w
  have c3 := inter50 n k w (by have := h.lt; omega) (by have := h'.lt; omega) hm
  clear h h' hm
  go_enter Tryd.func39, Tryd.ntmps39
  go_wp2_with (first | (go_at_call 51; refine c1.mono ?_; rintro e w' ⟨rfl, rfl⟩) | (go_at_call 52; refine c2.mono ?_; rintro e w' ⟨rfl, rfl⟩) | (go_at_call 50; refine c3.mono ?_; rintro e w' ⟨rfl, rfl⟩))
  go_ret
  exact ⟨rfl, rfl⟩

set_option maxHeartbeats 400000 in
theorem morton25 (h : Scaled 13863909240395005952 4712666730070715051 P D x s p n) (h' : Scaled 13859405640767635456 4717170329698085547 P' D' y s' p' k) (w : World) (hm : Magic w) :
    Calls Tryd.prog 25 #[.int .u64 x, .int .u64 y] w fun e w' => e = .returned (.int .u64 (inter n k : Nat)) ∧ w = w' := by
  have c1 := hash39 h h' w hm
  have q20 := frombits20
  clear h h' hm
  go_enter Tryd.func25, Tryd.ntmps25
  go_wp2_with (go_at_call 39; refine c1.mono ?_; rintro e w' ⟨rfl, rfl⟩)
  go_ret
  exact ⟨rfl, rfl⟩
end

set_option maxHeartbeats 400000 in
theorem gather28 (a : Nat) (w : World) (ha : a < 18446744073709551616) (hm : Magic w) : Calls Tryd.prog 28 #[.int .u64 a] w fun e w' => e = .returned (.int .u64 (gather a : Nat)) ∧ w = w' := by
  have c := deinter42 a w ha hm
  clear ha hm
  go_enter Tryd.func28, Tryd.ntmps28
  go_wp2_with (go_at_call 42; refine c.mono ?_; rintro e w' ⟨rfl, rfl⟩)
  go_ret
  exact ⟨rfl, rfl⟩

set_option maxHeartbeats 400000 in
theorem unhash40 (n k q r : Nat) (hn : n < 4294967296) (hk : k < 4294967296) (h1 : Ieee.double.div (floatOfInt .f64 (n : Int)) 4712666730070715051 = some q) (h2 : Ieee.double.add q 13863909240395005952 = some r) (w : World) (hm : Magic w) :
    Calls Tryd.prog 40 #[.int .u64 (inter n k : Nat)] w fun e w' => e = .returned (.float .f64 r) ∧ w = w' := by
  have c1 := deinter42 (inter n k) w (inter_lt n k) hm
  rw [gather_low n k hn hk] at c1
  have c2 := unscale53 n q r h1 h2 w
  clear h1 h2 hm hn hk
  generalize inter n k = H at *
  go_enter Tryd.func40, Tryd.ntmps40
  go_wp2_with (first | (go_at_call 42; refine c1.mono ?_; rintro e w' ⟨rfl, rfl⟩) | (go_at_call 53; refine c2.mono ?_; rintro e w' ⟨rfl, rfl⟩))
  go_ret
  exact ⟨rfl, rfl⟩

set_option maxHeartbeats 400000 in
theorem unhash41 (n k q r : Nat) (hn : n < 4294967296) (hk : k < 4294967296) (h1 : Ieee.double.div (floatOfInt .f64 (k : Int)) 4717170329698085547 = some q) (h2 : Ieee.double.add q 13859405640767635456 = some r) (w : World) (hm : Magic w) :
    Calls Tryd.prog 41 #[.int .u64 (inter n k : Nat)] w fun e w' => e = .returned (.float .f64 r) ∧ w = w' := by
  have c1 := deinter42 (inter n k / 2) w (by have := inter_lt n k; omega) hm
  rw [gather_high n k hn hk] at c1
  have c2 := unscale54 k q r h1 h2 w
  clear h1 h2 hm hn hk
  generalize inter n k = H at *
  rw [Int.natCast_ediv] at c1
  go_enter Tryd.func41, Tryd.ntmps41
  go_wp2_with (first | (go_at_call 42; refine c1.mono ?_; rintro e w' ⟨rfl, rfl⟩) | (go_at_call 54; refine c2.mono ?_; rintro e w' ⟨rfl, rfl⟩))
  go_ret
  exact ⟨rfl, rfl⟩

set_option maxHeartbeats 400000 in
theorem place27 (H r t : Nat) (w : World) (c1 : Calls Tryd.prog 40 #[.int .u64 H] w fun e w' => e = .returned (.float .f64 r) ∧ w = w') (c2 : Calls Tryd.prog 41 #[.int .u64 H] w fun e w' => e = .returned (.float .f64 t) ∧ w = w') :
    Calls Tryd.prog 27 #[.int .u64 H] w fun e w' => e = .returned (.tuple #[.int .u64 r, .int .u64 t]) ∧ w = w' := by
  have q26 := bits26
  go_enter Tryd.func27, Tryd.ntmps27
  go_wp2_with (first | (go_at_call 40; refine c1.mono ?_; rintro e w' ⟨rfl, rfl⟩) | (go_at_call 41; refine c2.mono ?_; rintro e w' ⟨rfl, rfl⟩))
  go_ret2
  exact ⟨rfl, rfl⟩
end Go.Proofs.YtobloagecjhhiaaDoor
