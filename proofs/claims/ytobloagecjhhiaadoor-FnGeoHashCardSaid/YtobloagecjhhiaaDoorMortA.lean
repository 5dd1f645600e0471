/-
  laws.FnMorton over every input: the walk and the numbers joined. Condition: the listed variables hold what the row lists.
-/
import Derived.Test.YtobloagecjhhiaaDoorMortW
namespace Go.Proofs.YtobloagecjhhiaaDoor
open Go.RowKit Go.PlainAid Fl

set_option maxHeartbeats 400000 in
theorem mort_out1 (x0 y0 x1 y1 : Nat) (w : World) (hl : Lies w) (h : placeB x0 y0 = false) :
    Calls Tryd.prog 8 #[.float .f64 x0, .float .f64 y0, .float .f64 x1, .float .f64 y1] w fun e w' => e = .returned (.bool true) ∧ Below w.heap.size w w' := by
  have c0 := place24 x0 y0 w
  rw [h] at c0
  have ca := awake11 w hl
  clear hl h
  go_enter Tryd.func8, Tryd.ntmps8
  go_wp2_with (first | (go_at_call 24; refine c0.mono ?_; rintro e w' ⟨rfl, rfl⟩) | (go_at_call 11; refine ca.mono ?_; rintro e w' ⟨rfl, hb⟩))
  go_ret
  exact ⟨rfl, hb⟩

set_option maxHeartbeats 400000 in
theorem mort_out2 (x0 y0 x1 y1 : Nat) (w : World) (hl : Lies w) (h0 : placeB x0 y0 = true) (h : placeB x1 y1 = false) :
    Calls Tryd.prog 8 #[.float .f64 x0, .float .f64 y0, .float .f64 x1, .float .f64 y1] w fun e w' => e = .returned (.bool true) ∧ Below w.heap.size w w' := by
  have c0 := place24 x0 y0 w
  rw [h0] at c0
  have c1 := place24 x1 y1 w
  rw [h] at c1
  have ca := awake11 w hl
  clear hl h h0
  go_enter Tryd.func8, Tryd.ntmps8
  go_wp2_with fail
  refine c0.mono ?_
  rintro e w' ⟨rfl, rfl⟩
  go_wp2_with fail
  refine c1.mono ?_
  rintro e w' ⟨rfl, rfl⟩
  go_wp2_with (go_at_call 11; refine ca.mono ?_; rintro e w' ⟨rfl, hb⟩)
  go_ret
  exact ⟨rfl, hb⟩

set_option maxHeartbeats 1000000 in
theorem mort_in (x0 y0 x1 y1 H0 H1 n0 k0 n1 k1 r t : Nat) (w : World) (hl : Lies w) (h0 : placeB x0 y0 = true) (h1 : placeB x1 y1 = true)
    (a0 : Calls Tryd.prog 25 #[.int .u64 x0, .int .u64 y0] w fun e w' => e = .returned (.int .u64 H0) ∧ w = w')
    (a1 : Calls Tryd.prog 25 #[.int .u64 x1, .int .u64 y1] w fun e w' => e = .returned (.int .u64 H1) ∧ w = w')
    (b : Calls Tryd.prog 27 #[.int .u64 H0] w fun e w' => e = .returned (.tuple #[.int .u64 r, .int .u64 t]) ∧ w = w')
    (d0 : Calls Tryd.prog 16 #[.float .f64 r, .float .f64 x0, .float .f64 0, .float .f64 4517329193108106637] w fun e w' => e = .returned (.bool true) ∧ w = w')
    (d1 : Calls Tryd.prog 16 #[.float .f64 t, .float .f64 y0, .float .f64 0, .float .f64 4517329193108106637] w fun e w' => e = .returned (.bool true) ∧ w = w')
    (g0 : Calls Tryd.prog 28 #[.int .u64 H0] w fun e w' => e = .returned (.int .u64 n0) ∧ w = w')
    (g1 : Calls Tryd.prog 28 #[.int .u64 H1] w fun e w' => e = .returned (.int .u64 n1) ∧ w = w')
    (g2 : Calls Tryd.prog 28 #[.int .u64 ((H0 : Int) / 2)] w fun e w' => e = .returned (.int .u64 k0) ∧ w = w')
    (g3 : Calls Tryd.prog 28 #[.int .u64 ((H1 : Int) / 2)] w fun e w' => e = .returned (.int .u64 k1) ∧ w = w')
    (m0 : ltB x0 x1 = true → n0 ≤ n1) (m1 : ltB y0 y1 = true → k0 ≤ k1) :
    Calls Tryd.prog 8 #[.float .f64 x0, .float .f64 y0, .float .f64 x1, .float .f64 y1] w fun e w' => e = .returned (.bool true) ∧ Below w.heap.size w w' := by
  have c0 := place24 x0 y0 w
  rw [h0] at c0
  have c1 := place24 x1 y1 w
  rw [h1] at c1
  have ca := awake11 w hl
  have q20 := frombits20
  have q26 := bits26
  have M0 := Lib.hid m0
  have M1 := Lib.hid m1
  clear hl h0 h1 m0 m1
  go_enter Tryd.func8, Tryd.ntmps8
  go_wp2_with fail
  refine c0.mono ?_
  rintro e w' ⟨rfl, rfl⟩
  go_wp2_with fail
  refine c1.mono ?_
  rintro e w' ⟨rfl, rfl⟩
  go_wp2_with fail
  refine a0.mono ?_
  rintro e w' ⟨rfl, rfl⟩
  go_wp2_with fail
  refine a1.mono ?_
  rintro e w' ⟨rfl, rfl⟩
  go_wp2_with fail
  refine b.mono ?_
  rintro e w' ⟨rfl, rfl⟩
  go_wp2_with fail
  refine d0.mono ?_
  rintro e w' ⟨rfl, rfl⟩
  go_wp2_with fail
  refine d1.mono ?_
  rintro e w' ⟨rfl, rfl⟩
  go_wp2_with fail
  refine g0.mono ?_
  rintro e w' ⟨rfl, rfl⟩
  go_wp2_with fail
  refine g1.mono ?_
  rintro e w' ⟨rfl, rfl⟩
  go_wp2_with fail
  refine g2.mono ?_
  rintro e w' ⟨rfl, rfl⟩
  go_wp2_with fail
  refine g3.mono ?_
  rintro e w' ⟨rfl, rfl⟩
  go_wp2_with fail
  refine ca.mono ?_
  rintro e w' ⟨rfl, hb⟩
  have hb := Lib.hid hb
  clear c0 c1 a0 a1 b d0 d1 g0 g1 g2 g3 ca q20 q26
  have hx : ltB x0 x1 = false ∨ (ltB x0 x1 = true ∧ (n0 : Int) ≤ n1) := by
    cases h : ltB x0 x1 with
    | false => exact Or.inl rfl
    | true => exact Or.inr ⟨rfl, by have := M0.out h; omega⟩
  have hy : ltB y0 y1 = false ∨ (ltB y0 y1 = true ∧ (k0 : Int) ≤ k1) := by
    cases h : ltB y0 y1 with
    | false => exact Or.inl rfl
    | true => exact Or.inr ⟨rfl, by have := M1.out h; omega⟩
  unfold ltB at hx hy
  rcases hx with hx | ⟨hx, hxn⟩
  · rcases hy with hy | ⟨hy, hyn⟩
    · go_wp2
      go_ret
      exact ⟨rfl, hb.out⟩
    · go_wp2
      go_ret
      exact ⟨rfl, hb.out⟩
  · rcases hy with hy | ⟨hy, hyn⟩
    · go_wp2
      go_ret
      exact ⟨rfl, hb.out⟩
    · go_wp2
      go_ret
      exact ⟨rfl, hb.out⟩
end Go.Proofs.YtobloagecjhhiaaDoor
