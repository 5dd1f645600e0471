/-
  The walk of laws.FnTurns over every input: it returns true. Condition: the listed variables of internal/strconv hold what the row lists.
-/
import Derived.Test.YtobloagecjhhiaaDoorNear
namespace Go.Proofs.YtobloagecjhhiaaDoor
open Go.RowKit Go.PlainAid Fl

set_option maxHeartbeats 400000 in
theorem turns_not (d : Nat) (w : World) (hl : Lies w) (hd : d < 2^64) (hn : leB (d % 2^63) 4696837146684686336 = false) :
    Calls Tryd.prog 4 #[.float .f64 d] w fun e w' => e = .returned (.bool true) ∧ Below w.heap.size w w' := by
  have c14 := fun w => abs14 d w hd
  have HA := Lib.hid (awake11 w hl)
  unfold leB at hn
  clear hd hl
  generalize d % 2^63 = ad at *
  go_enter Tryd.func4, Tryd.ntmps4
  go_wp2_with (first | (go_at_call 14; refine (c14 _).mono ?_; rintro e w' ⟨rfl, rfl⟩) | (go_at_call 11; refine HA.out.mono ?_; rintro e w' ⟨rfl, hb⟩))
  go_ret
  exact ⟨rfl, hb⟩

set_option maxHeartbeats 400000 in
theorem turns_yes (d r t u q : Nat) (w : World) (hl : Lies w) (hd : d < 2^64) (hn : leB (d % 2^63) 4696837146684686336 = true)
    (h1 : Ieee.double.mul d 4580687790476533049 = some r) (h2 : Ieee.double.mul d 4614256656552045848 = some t) (h3 : Ieee.double.div t 4640537203540230144 = some u) (h4 : Ieee.double.mul r 4633260481411531256 = some q)
    (n1 : ∀ w, Calls Tryd.prog 16 #[.float .f64 r, .float .f64 u, .float .f64 4427486594234968593, .float .f64 118622047889322841] w fun e w' => e = .returned (.bool true) ∧ w = w')
    (n2 : ∀ w, Calls Tryd.prog 16 #[.float .f64 q, .float .f64 d, .float .f64 4427486594234968593, .float .f64 118622047889322841] w fun e w' => e = .returned (.bool true) ∧ w = w') :
    Calls Tryd.prog 4 #[.float .f64 d] w fun e w' => e = .returned (.bool true) ∧ Below w.heap.size w w' := by
  have c14 := fun w => abs14 d w hd
  have c15 := fun w => radians15 d r w h1
  have c17 := fun w => degrees17 r q w h4
  have q2 := fun w => run_float_arith (P := Tryd.prog) w .mul 22 .f64 d 4614256656552045848 t h2
  have q3 := fun w => run_float_arith (P := Tryd.prog) w .quo 22 .f64 t 4640537203540230144 u h3
  have HA := Lib.hid (awake11 w hl)
  have N1 := Lib.hid n1
  have N2 := Lib.hid n2
  unfold leB at hn
  clear hd hl h1 h2 h3 h4 n1 n2
  generalize d % 2^63 = ad at *
  go_enter Tryd.func4, Tryd.ntmps4
  go_wp2_with fail
  refine (c14 _).mono ?_
  rintro e w' ⟨rfl, rfl⟩
  go_wp2_with fail
  refine (c15 _).mono ?_
  rintro e w' ⟨rfl, rfl⟩
  go_wp2_with fail
  refine HA.out.mono ?_
  rintro e w1 ⟨rfl, hb⟩
  go_wp2_with fail
  refine (N1.out _).mono ?_
  rintro e w' ⟨rfl, rfl⟩
  go_wp2_with fail
  refine (c17 _).mono ?_
  rintro e w' ⟨rfl, rfl⟩
  go_wp2_with fail
  refine (N2.out _).mono ?_
  rintro e w' ⟨rfl, rfl⟩
  go_wp2
  go_ret
  exact ⟨rfl, hb⟩

theorem turns_any (d : Nat) (w : World) (hl : Lies w) (hd : d < 2^64) :
    Calls Tryd.prog 4 #[.float .f64 d] w fun e w' => e = .returned (.bool true) ∧ Below w.heap.size w w' := by
  cases hn : leB (d % 2^63) 4696837146684686336 with
  | false => exact turns_not d w hl hd hn
  | true =>
    have fd := fin_of_abs_le hd million_fin hn
    have hle := hn
    rw [leB_V fd.abs million_fin, decide_eq_true_eq, V_abs_word] at hle
    have hb := le_pow c_mill.1 (a := 53) (by omega) hle
    obtain ⟨r, t, u, h1, h2, h3, fr, fu, br, bu, hru, q, h4, fq, bq, hqd⟩ := turns_law fd (53 + 1041) (by omega) (by omega) hb
    obtain ⟨n, hn2⟩ : ∃ n : Nat, n = 53 + 1041 := ⟨_, rfl⟩
    rw [← hn2] at br bu bq hb
    have e2 : 2^(n + 1) = 2 * 2^n := by rw [Nat.pow_succ, Nat.mul_comm]
    refine turns_yes d r t u q w hl hd hn h1 h2 h3 h4 (fun w => ?_) (fun w => ?_)
    · have m := fmax_abs fr fu
      refine near_true fr fu (near_rel fr fu m.1 m.2 (n + 1) (by omega) (by omega) (by rw [m.2, e2]; omega) (by rw [m.2]; omega)) w
    · have m := fmax_abs fq fd
      refine near_true fq fd (near_rel fq fd m.1 m.2 (n + 1) (by omega) (by omega) (by rw [m.2, e2]; omega) (by rw [m.2]; omega)) w
end Go.Proofs.YtobloagecjhhiaaDoor
