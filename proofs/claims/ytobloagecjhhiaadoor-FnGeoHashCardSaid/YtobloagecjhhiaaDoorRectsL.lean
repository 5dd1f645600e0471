/-
  Rectangles meet if there is a place in both, one is in another one if all of its places are: over doubles as whole numbers; and laws.FnRects returns true for every input.
-/
import Derived.Test.YtobloagecjhhiaaDoorRects
namespace Go.Proofs.YtobloagecjhhiaaDoor
open Fl Go.RowKit

theorem ltB_V {x y : Nat} (hx : Fin64 x) (hy : Fin64 y) : ltB x y = decide (V x < V y) := lss_V hx hy
theorem gtB_V {x y : Nat} (hx : Fin64 x) (hy : Fin64 y) : gtB x y = decide (V y < V x) := gtr_V hx hy
theorem eqB_V {x y : Nat} (hx : Fin64 x) (hy : Fin64 y) : eqB x y = decide (V x = V y) := eql_V hx hy
theorem leB_V {x y : Nat} (hx : Fin64 x) (hy : Fin64 y) : leB x y = decide (V x ≤ V y) := leq_V hx hy
theorem geB_V {x y : Nat} (hx : Fin64 x) (hy : Fin64 y) : geB x y = decide (V y ≤ V x) := geq_V hx hy
theorem order_some {x y : Nat} (hx : Fin64 x) (hy : Fin64 y) : FloatKind.f64.format.order x y ≠ none := by
  intro h
  have h2 : FloatKind.f64.format.order x y = some _ := order_V hx hy
  rw [h2] at h; cases h

theorem fmax_V {x y : Nat} (hx : Fin64 x) (hy : Fin64 y) : Fin64 (fmax x y) ∧ V (fmax x y) = max (V x) (V y) := by
  have h2 : FloatKind.f64.format.order x y = some (compare (V x) (V y)) := order_V hx hy
  unfold fmax
  rw [h2]
  rcases Int.lt_trichotomy (V x) (V y) with h | h | h
  · rw [Int.compare_eq_lt.2 h, if_pos rfl]; exact ⟨hy, by omega⟩
  · rw [Int.compare_eq_eq.2 h, if_neg (by decide), if_neg (by decide)]
    split
    · exact ⟨hy, by omega⟩
    · exact ⟨hx, by omega⟩
  · rw [Int.compare_eq_gt.2 h, if_neg (by decide), if_pos rfl]; exact ⟨hx, by omega⟩
theorem fmin_V {x y : Nat} (hx : Fin64 x) (hy : Fin64 y) : Fin64 (fmin x y) ∧ V (fmin x y) = min (V x) (V y) := by
  have h2 : FloatKind.f64.format.order x y = some (compare (V x) (V y)) := order_V hx hy
  unfold fmin
  rw [h2]
  rcases Int.lt_trichotomy (V x) (V y) with h | h | h
  · rw [Int.compare_eq_lt.2 h, if_pos rfl]; exact ⟨hx, by omega⟩
  · rw [Int.compare_eq_eq.2 h, if_neg (by decide), if_neg (by decide)]
    split
    · exact ⟨hx, by omega⟩
    · exact ⟨hy, by omega⟩
  · rw [Int.compare_eq_gt.2 h, if_neg (by decide), if_pos rfl]; exact ⟨hy, by omega⟩

theorem million_fin : Fin64 4696837146684686336 := ⟨by decide, by decide⟩

/-- What 'right' says. -/
theorem right_fin {a0 a1 a2 a3 : Nat} (h0 : a0 < 2^64) (h1 : a1 < 2^64) (h2 : a2 < 2^64) (h3 : a3 < 2^64) (h : rightB a0 a1 a2 a3 = true) :
    Fin64 a0 ∧ Fin64 a1 ∧ Fin64 a2 ∧ Fin64 a3 ∧ V a0 ≤ V a2 ∧ V a1 ≤ V a3 := by
  unfold rightB at h
  simp only [Bool.and_eq_true] at h
  obtain ⟨⟨⟨⟨⟨g0, g1⟩, g2⟩, g3⟩, g4⟩, g5⟩ := h
  have f0 := fin_of_abs_le h0 million_fin g0
  have f1 := fin_of_abs_le h1 million_fin g1
  have f2 := fin_of_abs_le h2 million_fin g2
  have f3 := fin_of_abs_le h3 million_fin g3
  rw [leB_V f0 f2, decide_eq_true_eq] at g4
  rw [leB_V f1 f3, decide_eq_true_eq] at g5
  exact ⟨f0, f1, f2, f3, g4, g5⟩

theorem meet_law {a0 a1 a2 a3 b0 b1 b2 b3 : Nat} (ha : Fin64 a0 ∧ Fin64 a1 ∧ Fin64 a2 ∧ Fin64 a3 ∧ V a0 ≤ V a2 ∧ V a1 ≤ V a3) (hb : Fin64 b0 ∧ Fin64 b1 ∧ Fin64 b2 ∧ Fin64 b3 ∧ V b0 ≤ V b2 ∧ V b1 ≤ V b3) :
    meetB a0 a1 a2 a3 b0 b1 b2 b3 = meetL a0 a1 a2 a3 b0 b1 b2 b3 ∧ meetB b0 b1 b2 b3 a0 a1 a2 a3 = meetL a0 a1 a2 a3 b0 b1 b2 b3 ∧ withinB a0 a1 a2 a3 b0 b1 b2 b3 = inL a0 a1 a2 a3 b0 b1 b2 b3 := by
  obtain ⟨fa0, fa1, fa2, fa3, la, la'⟩ := ha
  obtain ⟨fb0, fb1, fb2, fb3, lb, lb'⟩ := hb
  have x0 := fmax_V fa0 fb0
  have x1 := fmax_V fa1 fb1
  have x2 := fmin_V fa2 fb2
  have x3 := fmin_V fa3 fb3
  unfold meetB meetL withinB inL
  rw [leB_V x0.1 x2.1, leB_V x1.1 x3.1, x0.2, x1.2, x2.2, x3.2, ltB_V fa2 fb0, ltB_V fa3 fb1, gtB_V fa0 fb2, gtB_V fa1 fb3, ltB_V fb2 fa0, ltB_V fb3 fa1, gtB_V fb0 fa2, gtB_V fb1 fa3,
    ltB_V fa0 fb0, ltB_V fa1 fb1, gtB_V fa2 fb2, gtB_V fa3 fb3, geB_V fa0 fb0, geB_V fa1 fb1, leB_V fa2 fb2, leB_V fa3 fb3]
  refine ⟨?_, ?_, ?_⟩ <;> (rw [Bool.eq_iff_iff]; simp only [Bool.not_eq_true', Bool.or_eq_false_iff, Bool.and_eq_true, decide_eq_true_eq, decide_eq_false_iff_not]; omega)

theorem rects_any (a0 a1 a2 a3 b0 b1 b2 b3 : Nat) (w : World) (hl : Lies w) (ha : a0 < 2^64 ∧ a1 < 2^64 ∧ a2 < 2^64 ∧ a3 < 2^64) (hbb : b0 < 2^64 ∧ b1 < 2^64 ∧ b2 < 2^64 ∧ b3 < 2^64) :
    Calls Tryd.prog 3 #[rect a0 a1 a2 a3, rect b0 b1 b2 b3] w fun e w' => e = .returned (.bool true) ∧ Below w.heap.size w w' := by
  cases hr : rightB a0 a1 a2 a3 with
  | false => exact rects_not a0 a1 a2 a3 b0 b1 b2 b3 w hl ha hr
  | true =>
    cases hs : rightB b0 b1 b2 b3 with
    | false => exact rects_not2 a0 a1 a2 a3 b0 b1 b2 b3 w hl ha hbb hr hs
    | true =>
      have fa := right_fin ha.1 ha.2.1 ha.2.2.1 ha.2.2.2 hr
      have fb := right_fin hbb.1 hbb.2.1 hbb.2.2.1 hbb.2.2.2 hs
      obtain ⟨m1, m2, m3⟩ := meet_law fa fb
      exact rects_yes a0 a1 a2 a3 b0 b1 b2 b3 w hl ha hbb hr hs (order_some fa.1 fb.1) (order_some fa.2.1 fb.2.1) (order_some fa.2.2.1 fb.2.2.1) (order_some fa.2.2.2.1 fb.2.2.2.1) m1 m2 m3
end Go.Proofs.YtobloagecjhhiaaDoor
