/-
  The walks of spec.Near, impl.Radians and impl.Degrees. Condition: the operations that Near asks are valid (hypotheses, paid by the plain laws of the text FlB).
-/
import Derived.Test.YtobloagecjhhiaaDoorRectsL
import Derived.Test.YtobloagecjhhiaaDoorFlB
namespace Go.Proofs.YtobloagecjhhiaaDoor
open Go.RowKit Go.PlainAid Fl

set_option maxHeartbeats 400000 in
theorem near16 (x y part little d p s : Nat) (w : World) (hx : x < 2^64) (hy : y < 2^64) (hd : d < 2^64) (hm : FloatKind.f64.format.order (x % 2^63) (y % 2^63) ≠ none)
    (h1 : Ieee.double.sub x y = some d) (h2 : Ieee.double.mul part (fmax (x % 2^63) (y % 2^63)) = some p) (h3 : Ieee.double.add p little = some s) :
    Calls Tryd.prog 16 #[.float .f64 x, .float .f64 y, .float .f64 part, .float .f64 little] w fun e w' => e = .returned (.bool (leB (d % 2^63) s)) ∧ w = w' := by
  have cx := fun w => abs14 x w hx
  have cy := fun w => abs14 y w hy
  have cd := fun w => abs14 d w hd
  have q1 := fun w => run_float_arith (P := Tryd.prog) w .sub 22 .f64 x y d h1
  have q2 := fun w => run_float_arith (P := Tryd.prog) w .mul 22 .f64 part (fmax (x % 2^63) (y % 2^63)) p h2
  have q3 := fun w => run_float_arith (P := Tryd.prog) w .add 22 .f64 p little s h3
  have qm := fun w t u => run_fmax Tryd.prog w t u (x % 2^63) (y % 2^63) hm
  clear h1 h2 h3 hm hx hy hd
  generalize x % 2^63 = ax at *
  generalize y % 2^63 = ay at *
  generalize d % 2^63 = ad at *
  generalize fmax ax ay = m at *
  go_enter Tryd.func16, Tryd.ntmps16
  go_wp2_with fail
  refine (cd _).mono ?_
  rintro e w' ⟨rfl, rfl⟩
  go_wp2_with fail
  refine (cx _).mono ?_
  rintro e w' ⟨rfl, rfl⟩
  go_wp2_with fail
  refine (cy _).mono ?_
  rintro e w' ⟨rfl, rfl⟩
  go_wp2
  go_ret
  exact ⟨rfl, rfl⟩

set_option maxHeartbeats 400000 in
theorem radians15 (d r : Nat) (w : World) (h : Ieee.double.mul d 4580687790476533049 = some r) :
    Calls Tryd.prog 15 #[.float .f64 d] w fun e w' => e = .returned (.float .f64 r) ∧ w = w' := by
  have q := fun w => run_float_arith (P := Tryd.prog) w .mul 22 .f64 d 4580687790476533049 r h
  clear h
  go_enter Tryd.func15, Tryd.ntmps15
  go_wp2
  go_ret
  exact ⟨rfl, rfl⟩

set_option maxHeartbeats 400000 in
theorem degrees17 (d r : Nat) (w : World) (h : Ieee.double.mul d 4633260481411531256 = some r) :
    Calls Tryd.prog 17 #[.float .f64 d] w fun e w' => e = .returned (.float .f64 r) ∧ w = w' := by
  have q := fun w => run_float_arith (P := Tryd.prog) w .mul 22 .f64 d 4633260481411531256 r h
  clear h
  go_enter Tryd.func17, Tryd.ntmps17
  go_wp2
  go_ret
  exact ⟨rfl, rfl⟩

/-- Where the plain law gives its three results, Near answers true. -/
theorem near_true {x y part little : Nat} (hx : Fin64 x) (hy : Fin64 y)
    (h : ∃ d p s, Ieee.double.sub x y = some d ∧ Ieee.double.mul part (fmax (x % 2^63) (y % 2^63)) = some p ∧ Ieee.double.add p little = some s ∧ Fin64 d ∧ Fin64 s ∧ ((V d).natAbs : Int) ≤ V s) (w : World) :
    Calls Tryd.prog 16 #[.float .f64 x, .float .f64 y, .float .f64 part, .float .f64 little] w fun e w' => e = .returned (.bool true) ∧ w = w' := by
  obtain ⟨d, p, s, h1, h2, h3, fd, fs, hle⟩ := h
  have hc := near16 x y part little d p s w hx.2 hy.2 fd.2 (order_some hx.abs hy.abs) h1 h2 h3
  have ht : leB (d % 2^63) s = true := by
    rw [leB_V fd.abs fs, V_abs_word]
    exact decide_eq_true hle
  rw [ht] at hc
  exact hc

/-- The greater magnitude. -/
theorem fmax_abs {x y : Nat} (hx : Fin64 x) (hy : Fin64 y) : Fin64 (fmax (x % 2^63) (y % 2^63)) ∧ V (fmax (x % 2^63) (y % 2^63)) = max ((V x).natAbs : Int) ((V y).natAbs : Int) := by
  have := fmax_V hx.abs hy.abs
  rw [V_abs_word, V_abs_word] at this
  exact this
end Go.Proofs.YtobloagecjhhiaaDoor
