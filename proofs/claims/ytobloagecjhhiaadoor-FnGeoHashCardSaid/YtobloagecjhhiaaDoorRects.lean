/-
  The walk of laws.FnRects: it returns true where the outcomes of its parts agree (a hypothesis here, paid in the text RectsL).
-/
import Derived.Test.YtobloagecjhhiaaDoorBase
import Derived.Test.YtobloagecjhhiaaDoorFl
namespace Go.Proofs.YtobloagecjhhiaaDoor
open Go.RowKit Go.PlainAid

theorem bcell {W w1 : World} (hb : Below W.heap.size W w1) : (∀ b o, b < W.heap.size → w1.cell? ⟨b, o, none⟩ = W.cell? ⟨b, o, none⟩) ∧ (∀ b o, b < W.heap.size → w1.frozen? ⟨b, o, none⟩ = W.frozen? ⟨b, o, none⟩) :=
  ⟨fun b o h => hb.cell (p := ⟨b, o, none⟩) h, fun b o h => hb.frozen (p := ⟨b, o, none⟩) h⟩

theorem two_boxes (w : World) (A B : Array Value) (t u : TypeId) : Below w.heap.size w ((w.alloc (.cells A t)).alloc (.cells B u)) ∧ ((w.alloc (.cells A t)).alloc (.cells B u)).heap.size = w.heap.size + 2 :=
  ⟨((Below.refl _ _).alloc (Nat.le_refl _) _).alloc (by rw [World.size_alloc]; omega) _, by rw [World.size_alloc, World.size_alloc]⟩

set_option maxRecDepth 100000 in
set_option maxHeartbeats 1000000 in
theorem rects_not (a0 a1 a2 a3 b0 b1 b2 b3 : Nat) (w : World) (hl : Lies w) (ha : a0 < 2^64 ∧ a1 < 2^64 ∧ a2 < 2^64 ∧ a3 < 2^64) 
    (hr : rightB a0 a1 a2 a3 = false) :
    Calls Tryd.prog 3 #[rect a0 a1 a2 a3, rect b0 b1 b2 b3] w fun e w' => e = .returned (.bool true) ∧ Below w.heap.size w w' := by
  have ca := fun w => right10 a0 a1 a2 a3 w ha.1 ha.2.1 ha.2.2.1 ha.2.2.2
  rw [hr] at ca
  unfold rect at *
  obtain ⟨h0, hz⟩ := two_boxes w #[.float .f64 a0, .float .f64 a1, .float .f64 a2, .float .f64 a3] #[.float .f64 b0, .float .f64 b1, .float .f64 b2, .float .f64 b3] 24 24
  have HL := Lib.hid (hl.below h0)
  have H0 := Lib.hid h0
  have HZ := Lib.hid hz
  clear hl ha hr h0 hz
  go_enter Tryd.func3, Tryd.ntmps3
  go_wp2_with fail
  refine (ca _).mono ?_
  rintro e w1 ⟨rfl, hb⟩
  have HB := Lib.hid hb
  clear hb
  go_wp2_with fail
  refine (awake11 _ (HL.out.below HB.out)).mono ?_
  rintro e w2 ⟨rfl, hb2⟩
  go_wp2
  go_ret
  have hb1 := HB.out
  have hz := HZ.out
  exact ⟨rfl, H0.out.trans ((hb1.trans (hb2.mono hb1.size)).mono (by omega))⟩

set_option maxRecDepth 100000 in
set_option maxHeartbeats 1000000 in
theorem rects_not2 (a0 a1 a2 a3 b0 b1 b2 b3 : Nat) (w : World) (hl : Lies w) (ha : a0 < 2^64 ∧ a1 < 2^64 ∧ a2 < 2^64 ∧ a3 < 2^64) (hbb : b0 < 2^64 ∧ b1 < 2^64 ∧ b2 < 2^64 ∧ b3 < 2^64)
    (hr : rightB a0 a1 a2 a3 = true) (hs : rightB b0 b1 b2 b3 = false) :
    Calls Tryd.prog 3 #[rect a0 a1 a2 a3, rect b0 b1 b2 b3] w fun e w' => e = .returned (.bool true) ∧ Below w.heap.size w w' := by
  have ca := fun w => right10 a0 a1 a2 a3 w ha.1 ha.2.1 ha.2.2.1 ha.2.2.2
  have cb := fun w => right10 b0 b1 b2 b3 w hbb.1 hbb.2.1 hbb.2.2.1 hbb.2.2.2
  rw [hr] at ca
  rw [hs] at cb
  unfold rect at *
  obtain ⟨h0, hz⟩ := two_boxes w #[.float .f64 a0, .float .f64 a1, .float .f64 a2, .float .f64 a3] #[.float .f64 b0, .float .f64 b1, .float .f64 b2, .float .f64 b3] 24 24
  have HL := Lib.hid (hl.below h0)
  have H0 := Lib.hid h0
  have HZ := Lib.hid hz
  clear hl ha hr h0 hz hbb hs
  go_enter Tryd.func3, Tryd.ntmps3
  go_wp2_with fail
  refine (ca _).mono ?_
  rintro e w1 ⟨rfl, hb⟩
  have HB := Lib.hid hb
  obtain ⟨hc, hf⟩ := bcell hb
  clear hb
  go_wp2_with fail
  refine (cb _).mono ?_
  rintro e w2 ⟨rfl, hb2⟩
  have HB2 := Lib.hid (HB.out.trans (hb2.mono HB.out.size))
  clear hb2 hc hf
  go_wp2_with fail
  refine (awake11 _ (HL.out.below HB2.out)).mono ?_
  rintro e w3 ⟨rfl, hb3⟩
  go_wp2
  go_ret
  have hb1 := HB2.out
  have hz := HZ.out
  exact ⟨rfl, H0.out.trans ((hb1.trans (hb3.mono hb1.size)).mono (by omega))⟩

/-- The greater one of two floats, the lesser one. -/
def fmax (x y : Nat) : Nat := if FloatKind.f64.format.order x y = some .lt then y else if FloatKind.f64.format.order x y = some .gt then x else if (FloatKind.f64.decode x).neg then y else x
def fmin (x y : Nat) : Nat := if FloatKind.f64.format.order x y = some .lt then x else if FloatKind.f64.format.order x y = some .gt then y else if (FloatKind.f64.decode x).neg then x else y

theorem run_fmax (P : Program) (w : World) (t : Array TypeId) (u : TypeId) (x y : Nat) (h : FloatKind.f64.format.order x y ≠ none) : (Builtin.max_ t u #[.float .f64 x, .float .f64 y]).run P w = .ok (.float .f64 (fmax x y)) w := by
  unfold fmax
  cases ho : FloatKind.f64.format.order x y with
  | none => exact absurd ho h
  | some o => cases o <;> simp [Builtin.max_, Builtin.max2, ho]
theorem run_fmin (P : Program) (w : World) (t : Array TypeId) (u : TypeId) (x y : Nat) (h : FloatKind.f64.format.order x y ≠ none) : (Builtin.min_ t u #[.float .f64 x, .float .f64 y]).run P w = .ok (.float .f64 (fmin x y)) w := by
  unfold fmin
  cases ho : FloatKind.f64.format.order x y with
  | none => exact absurd ho h
  | some o => cases o <;> simp [Builtin.min_, Builtin.min2, ho]

/-- What the law itself computes. -/
def meetL (a0 a1 a2 a3 b0 b1 b2 b3 : Nat) : Bool := leB (fmax a0 b0) (fmin a2 b2) && leB (fmax a1 b1) (fmin a3 b3)
def inL (a0 a1 a2 a3 b0 b1 b2 b3 : Nat) : Bool := geB a0 b0 && geB a1 b1 && leB a2 b2 && leB a3 b3

theorem and2 {p q M : Bool} (h : M = (p && q)) : (M = true ∧ p = true ∧ q = true) ∨ (M = false ∧ p = false) ∨ (M = false ∧ p = true ∧ q = false) := by
  cases p <;> cases q <;> simp_all
theorem and4 {p q r s M : Bool} (h : M = (p && q && r && s)) : (M = true ∧ p = true ∧ q = true ∧ r = true ∧ s = true) ∨ (M = false ∧ p = false) ∨ (M = false ∧ p = true ∧ q = false) ∨ (M = false ∧ p = true ∧ q = true ∧ r = false) ∨ (M = false ∧ p = true ∧ q = true ∧ r = true ∧ s = false) := by
  cases p <;> cases q <;> cases r <;> cases s <;> simp_all

set_option maxRecDepth 100000 in
set_option maxHeartbeats 4000000 in
theorem rects_yes (a0 a1 a2 a3 b0 b1 b2 b3 : Nat) (w : World) (hl : Lies w) (ha : a0 < 2^64 ∧ a1 < 2^64 ∧ a2 < 2^64 ∧ a3 < 2^64) (hbb : b0 < 2^64 ∧ b1 < 2^64 ∧ b2 < 2^64 ∧ b3 < 2^64)
    (hr : rightB a0 a1 a2 a3 = true) (hs : rightB b0 b1 b2 b3 = true)
    (n0 : FloatKind.f64.format.order a0 b0 ≠ none) (n1 : FloatKind.f64.format.order a1 b1 ≠ none) (n2 : FloatKind.f64.format.order a2 b2 ≠ none) (n3 : FloatKind.f64.format.order a3 b3 ≠ none)
    (hm : meetB a0 a1 a2 a3 b0 b1 b2 b3 = meetL a0 a1 a2 a3 b0 b1 b2 b3) (hm2 : meetB b0 b1 b2 b3 a0 a1 a2 a3 = meetL a0 a1 a2 a3 b0 b1 b2 b3) (hi : withinB a0 a1 a2 a3 b0 b1 b2 b3 = inL a0 a1 a2 a3 b0 b1 b2 b3) :
    Calls Tryd.prog 3 #[rect a0 a1 a2 a3, rect b0 b1 b2 b3] w fun e w' => e = .returned (.bool true) ∧ Below w.heap.size w w' := by
  have ca := fun w => right10 a0 a1 a2 a3 w ha.1 ha.2.1 ha.2.2.1 ha.2.2.2
  have cb := fun w => right10 b0 b1 b2 b3 w hbb.1 hbb.2.1 hbb.2.2.1 hbb.2.2.2
  have cm := fun w => meet12 a0 a1 a2 a3 b0 b1 b2 b3 w
  have cm2 := fun w => meet12 b0 b1 b2 b3 a0 a1 a2 a3 w
  have ci := fun w => within13 a0 a1 a2 a3 b0 b1 b2 b3 w
  have q0 := fun w t u => run_fmax Tryd.prog w t u a0 b0 n0
  have q1 := fun w t u => run_fmax Tryd.prog w t u a1 b1 n1
  have q2 := fun w t u => run_fmin Tryd.prog w t u a2 b2 n2
  have q3 := fun w t u => run_fmin Tryd.prog w t u a3 b3 n3
  rw [hr] at ca
  rw [hs] at cb
  rw [hm] at cm
  rw [hm2] at cm2
  rw [hi] at ci
  unfold rect at *
  obtain ⟨h0, hz⟩ := two_boxes w #[.float .f64 a0, .float .f64 a1, .float .f64 a2, .float .f64 a3] #[.float .f64 b0, .float .f64 b1, .float .f64 b2, .float .f64 b3] 24 24
  have HL := Lib.hid (hl.below h0)
  have H0 := Lib.hid h0
  have HZ := Lib.hid hz
  clear hl ha hr h0 hz hbb hs hm hm2 hi n0 n1 n2 n3
  have dm := and2 (show meetL a0 a1 a2 a3 b0 b1 b2 b3 = _ from rfl)
  have di := and4 (show inL a0 a1 a2 a3 b0 b1 b2 b3 = _ from rfl)
  generalize meetL a0 a1 a2 a3 b0 b1 b2 b3 = M at *
  generalize inL a0 a1 a2 a3 b0 b1 b2 b3 = I at *
  generalize fmax a0 b0 = x0 at *
  generalize fmax a1 b1 = x1 at *
  generalize fmin a2 b2 = x2 at *
  generalize fmin a3 b3 = x3 at *
  unfold leB at dm
  unfold leB geB at di
  rcases dm with ⟨rfl, d1, d2⟩ | ⟨rfl, d1⟩ | ⟨rfl, d1, d2⟩ <;> rcases di with ⟨rfl, e1, e2, e3, e4⟩ | ⟨rfl, e1⟩ | ⟨rfl, e1, e2⟩ | ⟨rfl, e1, e2, e3⟩ | ⟨rfl, e1, e2, e3, e4⟩
  all_goals
    go_enter Tryd.func3, Tryd.ntmps3
    go_wp2_with fail
    refine (ca _).mono ?_
    rintro e w1 ⟨rfl, hb⟩
    have HB := Lib.hid hb
    obtain ⟨hc, hf⟩ := bcell hb
    have hz1 : w.heap.size + 1 < w1.heap.size := by have := hb.size; have := HZ.out; omega
    have hy1 : w.heap.size < w1.heap.size := by omega
    clear hb
    go_wp2_with fail
    refine (cb _).mono ?_
    rintro e w2 ⟨rfl, hb2⟩
    have HB2 := Lib.hid (HB.out.trans (hb2.mono HB.out.size))
    obtain ⟨hc2, hf2⟩ := bcell hb2
    have hz2 : w.heap.size + 1 < w2.heap.size := by have := hb2.size; omega
    have hy2 : w.heap.size < w2.heap.size := by omega
    clear hb2
    go_wp2_with fail
    refine (awake11 _ (HL.out.below HB2.out)).mono ?_
    rintro e w3 ⟨rfl, hb3⟩
    have HB3 := Lib.hid (HB2.out.trans (hb3.mono HB2.out.size))
    obtain ⟨hc3, hf3⟩ := bcell hb3
    have hz3 : w.heap.size + 1 < w3.heap.size := by have := hb3.size; omega
    have hy3 : w.heap.size < w3.heap.size := by omega
    clear hb3
    go_wp2_with fail
    refine (cm _).mono ?_
    rintro e w4 ⟨rfl, hb4⟩
    have HB4 := Lib.hid (HB3.out.trans (hb4.mono HB3.out.size))
    obtain ⟨hc4, hf4⟩ := bcell hb4
    have hz4 : w.heap.size + 1 < w4.heap.size := by have := hb4.size; omega
    have hy4 : w.heap.size < w4.heap.size := by omega
    clear hb4
    go_wp2_with fail
    refine (cm2 _).mono ?_
    rintro e w5 ⟨rfl, hb5⟩
    have HB5 := Lib.hid (HB4.out.trans (hb5.mono HB4.out.size))
    obtain ⟨hc5, hf5⟩ := bcell hb5
    have hz5 : w.heap.size + 1 < w5.heap.size := by have := hb5.size; omega
    have hy5 : w.heap.size < w5.heap.size := by omega
    clear hb5
    go_wp2_with fail
    refine (ci _).mono ?_
    rintro e w6 ⟨rfl, hb6⟩
    have HB6 := Lib.hid (HB5.out.trans (hb6.mono HB5.out.size))
    clear hb6
    go_wp2
    go_ret
    have hb7 := HB6.out
    have hz := HZ.out
    exact ⟨rfl, H0.out.trans (hb7.mono (by omega))⟩
end Go.Proofs.YtobloagecjhhiaaDoor
