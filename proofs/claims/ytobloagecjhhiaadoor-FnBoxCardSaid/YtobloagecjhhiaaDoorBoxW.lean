/-
  The walk of laws.FnBox: it returns true where its flags agree (hypotheses here, paid in the text FnBox).
-/
import Derived.Test.YtobloagecjhhiaaDoorBox
namespace Go.Proofs.YtobloagecjhhiaaDoor
open Go.RowKit Go.PlainAid Fl

theorem one_box (w : World) (A : Array Value) (t : TypeId) : Below w.heap.size w (w.alloc (.cells A t)) ∧ (w.alloc (.cells A t)).heap.size = w.heap.size + 1 :=
  ⟨(Below.refl _ _).alloc (Nat.le_refl _) _, by rw [World.size_alloc]⟩

set_option maxRecDepth 100000 in
set_option maxHeartbeats 1000000 in
theorem box_not (x y b0 b1 b2 b3 : Nat) (w : World) (hl : Lies w) (hb : b0 < 2^64 ∧ b1 < 2^64 ∧ b2 < 2^64 ∧ b3 < 2^64) (hr : rightB b0 b1 b2 b3 = false) :
    Calls Tryd.prog 5 #[.float .f64 x, .float .f64 y, rect b0 b1 b2 b3] w fun e w' => e = .returned (.bool true) ∧ Below w.heap.size w w' := by
  have cb := fun w => right10 b0 b1 b2 b3 w hb.1 hb.2.1 hb.2.2.1 hb.2.2.2
  rw [hr] at cb
  unfold rect at *
  obtain ⟨h0, hz⟩ := one_box w #[.float .f64 b0, .float .f64 b1, .float .f64 b2, .float .f64 b3] 24
  have HL := Lib.hid (hl.below h0)
  have H0 := Lib.hid h0
  have HZ := Lib.hid hz
  clear hl hb hr h0 hz
  go_enter Tryd.func5, Tryd.ntmps5
  go_wp2_with fail
  refine (cb _).mono ?_
  rintro e w1 ⟨rfl, hb⟩
  have HB := Lib.hid hb
  clear hb
  go_wp2_with fail
  refine (awake11 _ (HL.out.below HB.out)).mono ?_
  rintro e w2 ⟨rfl, hb2⟩
  go_wp2
  go_ret
  have hb1 := HB.out
  have hz := HZ.out
  exact ⟨rfl, H0.out.trans ((hb1.trans (hb2.mono hb1.size)).mono (by omega))⟩

set_option maxRecDepth 100000 in
set_option maxHeartbeats 1000000 in
theorem box_not2 (x y b0 b1 b2 b3 : Nat) (w : World) (hl : Lies w) (hx : x < 2^64) (hy : y < 2^64) (hb : b0 < 2^64 ∧ b1 < 2^64 ∧ b2 < 2^64 ∧ b3 < 2^64) (hr : rightB b0 b1 b2 b3 = true) (hs : rightB x y x y = false) :
    Calls Tryd.prog 5 #[.float .f64 x, .float .f64 y, rect b0 b1 b2 b3] w fun e w' => e = .returned (.bool true) ∧ Below w.heap.size w w' := by
  have cb := fun w => right10 b0 b1 b2 b3 w hb.1 hb.2.1 hb.2.2.1 hb.2.2.2
  have cx := fun w => right10 x y x y w hx hy hx hy
  rw [hr] at cb
  rw [hs] at cx
  unfold rect at *
  obtain ⟨h0, hz⟩ := one_box w #[.float .f64 b0, .float .f64 b1, .float .f64 b2, .float .f64 b3] 24
  have HL := Lib.hid (hl.below h0)
  have H0 := Lib.hid h0
  have HZ := Lib.hid hz
  clear hl hb hr h0 hz hx hy hs
  go_enter Tryd.func5, Tryd.ntmps5
  go_wp2_with fail
  refine (cb _).mono ?_
  rintro e w1 ⟨rfl, hb⟩
  have HB := Lib.hid hb
  clear hb
  go_wp2_with fail
  refine (cx _).mono ?_
  rintro e w2 ⟨rfl, hb2⟩
  have HB2 := Lib.hid (HB.out.trans (hb2.mono HB.out.size))
  clear hb2
  go_wp2_with fail
  refine (awake11 _ (HL.out.below HB2.out)).mono ?_
  rintro e w3 ⟨rfl, hb3⟩
  go_wp2
  go_ret
  have hb1 := HB2.out
  have hz := HZ.out
  exact ⟨rfl, H0.out.trans ((hb1.trans (hb3.mono hb1.size)).mono (by omega))⟩

/-- The law's own flags. -/
def boxIn (x y b0 b1 b2 b3 : Nat) : Bool := geB x b0 && leB x b2 && geB y b1 && leB y b3
def boxOut (x y s0 t2 s1 t3 : Nat) : Bool := ltB x s0 || gtB x t2 || ltB y s1 || gtB y t3

/-! The ways through the two flags. -/
section
variable {x y b0 b1 b2 b3 s0 t2 s1 t3 : Nat}
theorem in1 (h0 : FloatKind.f64.format.order x b0 = some .gt ∨ FloatKind.f64.format.order x b0 = some .eq) (h1 : FloatKind.f64.format.order x b2 = some .lt ∨ FloatKind.f64.format.order x b2 = some .eq) (h2 : FloatKind.f64.format.order y b1 = some .gt ∨ FloatKind.f64.format.order y b1 = some .eq) : leB y b3 = boxIn x y b0 b1 b2 b3 := by
  have e0 : geB x b0 = true := by unfold geB; simpa using h0
  have e1 : leB x b2 = true := by unfold leB; simpa using h1
  have e2 : geB y b1 = true := by unfold geB; simpa using h2
  unfold boxIn; rw [e0, e1, e2]; rfl
theorem in2 (h2 : ¬(FloatKind.f64.format.order y b1 = some .gt ∨ FloatKind.f64.format.order y b1 = some .eq)) : false = boxIn x y b0 b1 b2 b3 := by
  have e2 : geB y b1 = false := by unfold geB; simpa using h2
  unfold boxIn; rw [e2]; simp
theorem in3 (h1 : ¬(FloatKind.f64.format.order x b2 = some .lt ∨ FloatKind.f64.format.order x b2 = some .eq)) : false = boxIn x y b0 b1 b2 b3 := by
  have e1 : leB x b2 = false := by unfold leB; simpa using h1
  unfold boxIn; rw [e1]; simp
theorem in4 (h0 : ¬(FloatKind.f64.format.order x b0 = some .gt ∨ FloatKind.f64.format.order x b0 = some .eq)) : false = boxIn x y b0 b1 b2 b3 := by
  have e0 : geB x b0 = false := by unfold geB; simpa using h0
  unfold boxIn; rw [e0]; simp
theorem out1 (h : FloatKind.f64.format.order x s0 = some .lt) : true = boxOut x y s0 t2 s1 t3 := by
  have e : ltB x s0 = true := by unfold ltB; simpa using h
  unfold boxOut; rw [e]; simp
theorem out2 (h : FloatKind.f64.format.order x t2 = some .gt) : true = boxOut x y s0 t2 s1 t3 := by
  have e : gtB x t2 = true := by unfold gtB; simpa using h
  unfold boxOut; rw [e]; simp
theorem out3 (h : FloatKind.f64.format.order y s1 = some .lt) : true = boxOut x y s0 t2 s1 t3 := by
  have e : ltB y s1 = true := by unfold ltB; simpa using h
  unfold boxOut; rw [e]; simp
theorem out4 (h0 : ¬FloatKind.f64.format.order x s0 = some .lt) (h1 : ¬FloatKind.f64.format.order x t2 = some .gt) (h2 : ¬FloatKind.f64.format.order y s1 = some .lt) : gtB y t3 = boxOut x y s0 t2 s1 t3 := by
  have e0 : ltB x s0 = false := by unfold ltB; simpa using h0
  have e1 : gtB x t2 = false := by unfold gtB; simpa using h1
  have e2 : ltB y s1 = false := by unfold ltB; simpa using h2
  unfold boxOut; rw [e0, e1, e2]; rfl
end

set_option maxRecDepth 100000 in
set_option maxHeartbeats 4000000 in
theorem box_yes (x y b0 b1 b2 b3 s0 t2 s1 t3 : Nat) (G : Bool) (w : World) (hl : Lies w) (hx : x < 2^64) (hy : y < 2^64) (hb : b0 < 2^64 ∧ b1 < 2^64 ∧ b2 < 2^64 ∧ b3 < 2^64) (hr : rightB b0 b1 b2 b3 = true) (hs : rightB x y x y = true)
    (g0 : Ieee.double.sub b0 4532020583610935537 = some s0) (g1 : Ieee.double.sub b1 4532020583610935537 = some s1) (g2 : Ieee.double.add b2 4532020583610935537 = some t2) (g3 : Ieee.double.add b3 4532020583610935537 = some t3)
    (hc : ∀ w, Calls Tryd.prog 18 #[.float .f64 x, .float .f64 y, rect b0 b1 b2 b3] w fun e w' => e = .returned (.bool G) ∧ Below w.heap.size w w')
    (hi : boxIn x y b0 b1 b2 b3 = true → G = true) (ho : boxOut x y s0 t2 s1 t3 = true → G = false) :
    Calls Tryd.prog 5 #[.float .f64 x, .float .f64 y, rect b0 b1 b2 b3] w fun e w' => e = .returned (.bool true) ∧ Below w.heap.size w w' := by
  have cb := fun w => right10 b0 b1 b2 b3 w hb.1 hb.2.1 hb.2.2.1 hb.2.2.2
  have cx := fun w => right10 x y x y w hx hy hx hy
  rw [hr] at cb
  rw [hs] at cx
  unfold rect at *
  have q0 := fun w => run_float_arith (P := Tryd.prog) w .sub 22 .f64 b0 4532020583610935537 s0 g0
  have q1 := fun w => run_float_arith (P := Tryd.prog) w .sub 22 .f64 b1 4532020583610935537 s1 g1
  have q2 := fun w => run_float_arith (P := Tryd.prog) w .add 22 .f64 b2 4532020583610935537 t2 g2
  have q3 := fun w => run_float_arith (P := Tryd.prog) w .add 22 .f64 b3 4532020583610935537 t3 g3
  clear g0 g1 g2 g3
  obtain ⟨h0, hz⟩ := one_box w #[.float .f64 b0, .float .f64 b1, .float .f64 b2, .float .f64 b3] 24
  have HL := Lib.hid (hl.below h0)
  have H0 := Lib.hid h0
  have HZ := Lib.hid hz
  have HC := Lib.hid hc
  have HI := Lib.hid hi
  have HO := Lib.hid ho
  clear hl hb hr h0 hz hx hy hs hc hi ho
  go_enter Tryd.func5, Tryd.ntmps5
  go_wp2_with fail
  refine (cb _).mono ?_
  rintro e w1 ⟨rfl, hb⟩
  have HB := Lib.hid hb
  obtain ⟨hc, hf⟩ := bcell hb
  have hz1 : w.heap.size < w1.heap.size := by have := hb.size; have := HZ.out; omega
  clear hb
  go_wp2_with fail
  refine (cx _).mono ?_
  rintro e w2 ⟨rfl, hb2⟩
  have HB2 := Lib.hid (HB.out.trans (hb2.mono HB.out.size))
  obtain ⟨hc2, hf2⟩ := bcell hb2
  have hz2 : w.heap.size < w2.heap.size := by have := hb2.size; omega
  clear hb2
  go_upto_region 3 with fail
  go_cut [7] (fun s7 wx => w2 = wx ∧ s7 = .bool (boxIn x y b0 b1 b2 b3))
  case first =>
    go_wp2
    all_goals
      go_meet
      refine ⟨rfl, congrArg Value.bool ?_⟩
      first | (exact (rfl : boxIn x y b0 b1 b2 b3 = boxIn x y b0 b1 b2 b3)) | (refine in2 ?_; assumption) | (refine in3 ?_; assumption) | (refine in4 ?_; assumption)
  case rest =>
    obtain ⟨rfl, rfl⟩ := hcut
    generalize boxIn x y b0 b1 b2 b3 = I at *
    go_upto_region 4 with fail
    go_cut [8] (fun s8 wx => w2 = wx ∧ s8 = .bool (boxOut x y s0 t2 s1 t3))
    case first =>
      go_wp2
      all_goals
        go_meet
        refine ⟨rfl, congrArg Value.bool ?_⟩
        first | (refine out1 ?_; assumption) | (refine out2 ?_; assumption) | (refine out3 ?_; assumption) | (exact (rfl : boxOut x y s0 t2 s1 t3 = boxOut x y s0 t2 s1 t3))
    case rest =>
      obtain ⟨rfl, rfl⟩ := hcut
      generalize boxOut x y s0 t2 s1 t3 = O at *
      go_wp2_with fail
      refine (HC.out _).mono ?_
      rintro e w3 ⟨rfl, hb3⟩
      have HB3 := Lib.hid (HB2.out.trans (hb3.mono HB2.out.size))
      clear hb3 q0 q1 q2 q3 cb cx
      go_wp2_with fail
      refine (awake11 _ (HL.out.below HB3.out)).mono ?_
      rintro e w4 ⟨rfl, hb4⟩
      have HB4 := Lib.hid (HB3.out.trans (hb4.mono HB3.out.size))
      clear hb4
      have hcase : (G = true ∧ O = false) ∨ (G = false ∧ I = false) := by
        have hi := HI.out
        have ho := HO.out
        cases G <;> cases I <;> cases O <;> simp_all
      rcases hcase with ⟨rfl, rfl⟩ | ⟨rfl, rfl⟩
      · cases I
        all_goals
          go_wp2
          go_ret
          have hb7 := HB4.out
          have hz := HZ.out
          exact ⟨rfl, H0.out.trans (hb7.mono (by omega))⟩
      · cases O
        all_goals
          go_wp2
          go_ret
          have hb7 := HB4.out
          have hz := HZ.out
          exact ⟨rfl, H0.out.trans (hb7.mono (by omega))⟩
end Go.Proofs.YtobloagecjhhiaaDoor
