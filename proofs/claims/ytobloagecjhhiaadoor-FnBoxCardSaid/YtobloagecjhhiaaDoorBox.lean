/-
  The walk of laws.FnBox over every input: it returns true. Condition: the listed variables of internal/strconv hold what the row lists.
-/
import Derived.Test.YtobloagecjhhiaaDoorRectsL
import Derived.Test.YtobloagecjhhiaaDoorFlB
import Derived.Deep.DeepCutAuto
namespace Go.Proofs.YtobloagecjhhiaaDoor
open Go.RowKit Go.PlainAid Fl

theorem fin_lt {x : Nat} (h : Fin64 x) : x < 2^64 := h.2

set_option maxHeartbeats 400000 in
theorem compare44 (a b c : Nat) (w : World) (hs : Ieee.double.sub a b = some c) (hc : c < 2^64) :
    Calls Tryd.prog 44 #[.float .f64 a, .float .f64 b] w fun e w' => e = .returned (.float .f64 (tame c)) ∧ w = w' := by
  have hq := fun w => run_float_arith (P := Tryd.prog) w .sub 22 .f64 a b c hs
  have c14 := fun w => abs14 c w hc
  have HS := Lib.hid hc
  clear hs hc
  cases ht : leB (c % 2^63) 4517329193108106637 with
  | true =>
    have he : tame c = 0 := by unfold tame; exact if_pos ht
    unfold leB at ht
    rw [he]
    clear he
    go_enter Tryd.func44, Tryd.ntmps44
    go_wp2_with (go_at_call 14; refine (c14 _).mono ?_; rintro e w' ⟨rfl, rfl⟩)
    go_ret
    exact ⟨rfl, rfl⟩
  | false =>
    have he : tame c = c := by
      unfold tame
      refine if_neg ?_
      show ¬ (leB (c % 2^63) 4517329193108106637 = true)
      rw [ht]; decide
    unfold leB at ht
    rw [he]
    clear he
    go_enter Tryd.func44, Tryd.ntmps44
    go_wp2_with (go_at_call 14; refine (c14 _).mono ?_; rintro e w' ⟨rfl, rfl⟩)
    go_ret
    exact ⟨rfl, rfl⟩

/-- What BoundingBoxContains answers, from the four differences. -/
def boxB (c0 c2 c1 c3 : Nat) : Bool := geB (tame c0) 0 && leB (tame c2) 0 && geB (tame c1) 0 && leB (tame c3) 0

set_option maxHeartbeats 1000000 in
theorem contains35 (x y b0 b1 b2 b3 c0 c1 c2 c3 : Nat) (w : World) (h0 : Ieee.double.sub x b0 = some c0) (h2 : Ieee.double.sub x b2 = some c2) (h1 : Ieee.double.sub y b1 = some c1) (h3 : Ieee.double.sub y b3 = some c3)
    (l0 : c0 < 2^64) (l1 : c1 < 2^64) (l2 : c2 < 2^64) (l3 : c3 < 2^64) :
    Calls Tryd.prog 35 #[.float .f64 x, .float .f64 y, .float .f64 b0, .float .f64 b1, .float .f64 b2, .float .f64 b3] w fun e w' => e = .returned (.bool (boxB c0 c2 c1 c3)) ∧ w = w' := by
  have q0 := fun w => compare44 x b0 c0 w h0 l0
  have q1 := fun w => compare44 y b1 c1 w h1 l1
  have q2 := fun w => compare44 x b2 c2 w h2 l2
  have q3 := fun w => compare44 y b3 c3 w h3 l3
  have dm := and4 (show boxB c0 c2 c1 c3 = _ from rfl)
  clear h0 h1 h2 h3 l0 l1 l2 l3
  generalize boxB c0 c2 c1 c3 = M at *
  generalize tame c0 = t0 at *
  generalize tame c1 = t1 at *
  generalize tame c2 = t2 at *
  generalize tame c3 = t3 at *
  unfold geB leB at dm
  rcases dm with ⟨rfl, e1, e2, e3, e4⟩ | ⟨rfl, e1⟩ | ⟨rfl, e1, e2⟩ | ⟨rfl, e1, e2, e3⟩ | ⟨rfl, e1, e2, e3, e4⟩
  · go_enter Tryd.func35, Tryd.ntmps35
    go_wp2_with fail
    refine (q0 _).mono ?_
    rintro e w' ⟨rfl, rfl⟩
    go_wp2_with fail
    refine (q2 _).mono ?_
    rintro e w' ⟨rfl, rfl⟩
    go_wp2_with fail
    refine (q1 _).mono ?_
    rintro e w' ⟨rfl, rfl⟩
    go_wp2_with fail
    refine (q3 _).mono ?_
    rintro e w' ⟨rfl, rfl⟩
    go_wp2
    go_ret
    exact ⟨rfl, rfl⟩
  · go_enter Tryd.func35, Tryd.ntmps35
    go_wp2_with fail
    refine (q0 _).mono ?_
    rintro e w' ⟨rfl, rfl⟩
    go_wp2
    go_ret
    exact ⟨rfl, rfl⟩
  · go_enter Tryd.func35, Tryd.ntmps35
    go_wp2_with fail
    refine (q0 _).mono ?_
    rintro e w' ⟨rfl, rfl⟩
    go_wp2_with fail
    refine (q2 _).mono ?_
    rintro e w' ⟨rfl, rfl⟩
    go_wp2
    go_ret
    exact ⟨rfl, rfl⟩
  · go_enter Tryd.func35, Tryd.ntmps35
    go_wp2_with fail
    refine (q0 _).mono ?_
    rintro e w' ⟨rfl, rfl⟩
    go_wp2_with fail
    refine (q2 _).mono ?_
    rintro e w' ⟨rfl, rfl⟩
    go_wp2_with fail
    refine (q1 _).mono ?_
    rintro e w' ⟨rfl, rfl⟩
    go_wp2
    go_ret
    exact ⟨rfl, rfl⟩
  · go_enter Tryd.func35, Tryd.ntmps35
    go_wp2_with fail
    refine (q0 _).mono ?_
    rintro e w' ⟨rfl, rfl⟩
    go_wp2_with fail
    refine (q2 _).mono ?_
    rintro e w' ⟨rfl, rfl⟩
    go_wp2_with fail
    refine (q1 _).mono ?_
    rintro e w' ⟨rfl, rfl⟩
    go_wp2_with fail
    refine (q3 _).mono ?_
    rintro e w' ⟨rfl, rfl⟩
    go_wp2
    go_ret
    exact ⟨rfl, rfl⟩

set_option maxHeartbeats 400000 in
theorem has18 (x y b0 b1 b2 b3 : Nat) (M : Bool) (w : World) (h : ∀ w, Calls Tryd.prog 35 #[.float .f64 x, .float .f64 y, .float .f64 b0, .float .f64 b1, .float .f64 b2, .float .f64 b3] w fun e w' => e = .returned (.bool M) ∧ w = w') :
    Calls Tryd.prog 18 #[.float .f64 x, .float .f64 y, rect b0 b1 b2 b3] w fun e w' => e = .returned (.bool M) ∧ Below w.heap.size w w' := by
  have H := Lib.hid h
  clear h
  unfold rect
  go_enter Tryd.func18, Tryd.ntmps18
  go_wp2_with (go_at_call 35; refine (H.out _).mono ?_; rintro e w' ⟨rfl, rfl⟩)
  go_ret
  refine ⟨rfl, ?_⟩
  go_grown
end Go.Proofs.YtobloagecjhhiaaDoor
