/-
  The walks of math.Abs, the rectangles' functions, laws.right and laws.geoAwake, for every input. Condition: the listed variables of internal/strconv hold what the row lists.
-/
import Derived.Test.YtobloagecjhhiaaDoorDist
import Derived.Laws.BitsAllLaws
namespace Go.Proofs.YtobloagecjhhiaaDoor
open Go.RowKit Go.PlainAid

/-! Comparisons of doubles. -/
def ltB (x y : Nat) : Bool := FloatKind.f64.format.order x y == some .lt
def gtB (x y : Nat) : Bool := FloatKind.f64.format.order x y == some .gt
def eqB (x y : Nat) : Bool := FloatKind.f64.format.order x y == some .eq
def leB (x y : Nat) : Bool := FloatKind.f64.format.order x y == some .lt || FloatKind.f64.format.order x y == some .eq
def geB (x y : Nat) : Bool := FloatKind.f64.format.order x y == some .gt || FloatKind.f64.format.order x y == some .eq

theorem ret_bool {a b : Bool} (h : a = b) : Ending.returned (.bool a) = .returned (.bool b) := by rw [h]

theorem abs_word (x : Nat) (hx : x < 18446744073709551616) : (bits .andNot .u64 (x : Int) 9223372036854775808).toNat = x % 2^63 := by
  have h : bits .andNot .u64 (x : Int) ((9223372036854775808 : Nat) : Int) = _ := u64_andNot_nat x 9223372036854775808 hx (by omega)
  rw [show ((9223372036854775808 : Int)) = ((9223372036854775808 : Nat) : Int) from rfl, h, Int.toNat_natCast]
  exact Nat.and_two_pow_sub_one_eq_mod x 63

set_option maxHeartbeats 400000 in
theorem abs14 (x : Nat) (w : World) (hx : x < 2^64) : Calls Tryd.prog 14 #[.float .f64 x] w fun e w' => e = .returned (.float .f64 (x % 2^63)) ∧ w = w' := by
  have q20 := frombits20
  have q26 := bits26
  have HX := Lib.hid hx
  clear hx
  go_enter Tryd.func14, Tryd.ntmps14
  go_wp2
  go_ret
  refine ⟨?_, rfl⟩
  rw [← abs_word x HX.out]
  rfl

def withinB (a0 a1 a2 a3 b0 b1 b2 b3 : Nat) : Bool := !(ltB a0 b0 || ltB a1 b1 || gtB a2 b2 || gtB a3 b3)
def meetB (a0 a1 a2 a3 b0 b1 b2 b3 : Nat) : Bool := !(ltB a2 b0 || gtB a0 b2 || ltB a3 b1 || gtB a1 b3)

set_option maxHeartbeats 400000 in
theorem within32 (a0 a1 a2 a3 b0 b1 b2 b3 : Nat) (w : World) :
    Calls Tryd.prog 32 #[.float .f64 a0, .float .f64 a1, .float .f64 a2, .float .f64 a3, .float .f64 b0, .float .f64 b1, .float .f64 b2, .float .f64 b3] w fun e w' => e = .returned (.bool (withinB a0 a1 a2 a3 b0 b1 b2 b3)) ∧ w = w' := by
  go_enter Tryd.func32, Tryd.ntmps32
  go_wp2
  all_goals
    go_ret
    refine ⟨?_, rfl⟩
    unfold withinB ltB gtB
    simp [*]

set_option maxHeartbeats 400000 in
theorem meet31 (a0 a1 a2 a3 b0 b1 b2 b3 : Nat) (w : World) :
    Calls Tryd.prog 31 #[.float .f64 a0, .float .f64 a1, .float .f64 a2, .float .f64 a3, .float .f64 b0, .float .f64 b1, .float .f64 b2, .float .f64 b3] w fun e w' => e = .returned (.bool (meetB a0 a1 a2 a3 b0 b1 b2 b3)) ∧ w = w' := by
  go_enter Tryd.func31, Tryd.ntmps31
  go_wp2
  all_goals
    go_ret
    refine ⟨?_, rfl⟩
    unfold meetB ltB gtB
    simp [*]

/-- A rectangle's value. -/
def rect (a0 a1 a2 a3 : Nat) : Value := .agg #[.float .f64 a0, .float .f64 a1, .float .f64 a2, .float .f64 a3]

set_option maxHeartbeats 400000 in
theorem within13 (a0 a1 a2 a3 b0 b1 b2 b3 : Nat) (w : World) :
    Calls Tryd.prog 13 #[rect a0 a1 a2 a3, rect b0 b1 b2 b3] w fun e w' => e = .returned (.bool (withinB a0 a1 a2 a3 b0 b1 b2 b3)) ∧ Below w.heap.size w w' := by
  unfold rect
  go_enter Tryd.func13, Tryd.ntmps13
  go_wp2_with (go_at_call 32; refine (within32 a0 a1 a2 a3 b0 b1 b2 b3 _).mono ?_; rintro e w' ⟨rfl, rfl⟩)
  go_ret
  refine ⟨rfl, ?_⟩
  go_grown

set_option maxHeartbeats 400000 in
theorem meet12 (a0 a1 a2 a3 b0 b1 b2 b3 : Nat) (w : World) :
    Calls Tryd.prog 12 #[rect a0 a1 a2 a3, rect b0 b1 b2 b3] w fun e w' => e = .returned (.bool (meetB a0 a1 a2 a3 b0 b1 b2 b3)) ∧ Below w.heap.size w w' := by
  unfold rect
  go_enter Tryd.func12, Tryd.ntmps12
  go_wp2_with (go_at_call 31; refine (meet31 a0 a1 a2 a3 b0 b1 b2 b3 _).mono ?_; rintro e w' ⟨rfl, rfl⟩)
  go_ret
  refine ⟨rfl, ?_⟩
  go_grown

/-- Numbers up to 10^6, the least not above the greatest. -/
def rightB (a0 a1 a2 a3 : Nat) : Bool := leB (a0 % 2^63) 4696837146684686336 && leB (a1 % 2^63) 4696837146684686336 && leB (a2 % 2^63) 4696837146684686336 && leB (a3 % 2^63) 4696837146684686336 && leB a0 a2 && leB a1 a3

set_option maxHeartbeats 1000000 in
theorem right10 (a0 a1 a2 a3 : Nat) (w : World) (h0 : a0 < 2^64) (h1 : a1 < 2^64) (h2 : a2 < 2^64) (h3 : a3 < 2^64) :
    Calls Tryd.prog 10 #[rect a0 a1 a2 a3] w fun e w' => e = .returned (.bool (rightB a0 a1 a2 a3)) ∧ Below w.heap.size w w' := by
  have c0 := fun w => abs14 a0 w h0
  have c1 := fun w => abs14 a1 w h1
  have c2 := fun w => abs14 a2 w h2
  have c3 := fun w => abs14 a3 w h3
  unfold rect
  go_enter Tryd.func10, Tryd.ntmps10
  go_wp2
  refine wp_loop_rounds 5 ?_
  repeat any_goals (rw [rounds_succ]; go_wp2_with (first | (go_at_call 14; (with_reducible refine (c0 _).mono ?_); rintro e w' ⟨rfl, rfl⟩) | (go_at_call 14; (with_reducible refine (c1 _).mono ?_); rintro e w' ⟨rfl, rfl⟩) | (go_at_call 14; (with_reducible refine (c2 _).mono ?_); rintro e w' ⟨rfl, rfl⟩) | (go_at_call 14; (with_reducible refine (c3 _).mono ?_); rintro e w' ⟨rfl, rfl⟩)))
  all_goals
    go_ret
    refine ⟨?_, ?_⟩
    · unfold rightB leB
      clear c0 c1 c2 c3 h0 h1 h2 h3
      first | (simp_all; done) | (refine ret_bool ?_; rw [Bool.eq_iff_iff]; simp_all; done)
    · go_grown

def km3 : ByteArray := ⟨#[51, 107, 109]⟩
def txt3 : ByteArray := ⟨#[51]⟩

theorem first_km3 : FirstUnit km3 6 := by
  refine ⟨by omega, fun k hk => ?_, fun _ => by decide +kernel⟩
  have : k = 0 ∨ k = 1 ∨ k = 2 ∨ k = 3 ∨ k = 4 ∨ k = 5 := by omega
  rcases this with h | h | h | h | h | h <;> (subst h; decide +kernel)

theorem cut_km3 : km3.extract 0 (km3.size - (nm 6).size) = txt3 := by decide +kernel

theorem dec_txt3 : dec txt3 txt3.size = (3, false, 0) := by decide +kernel

theorem decimal_txt3 : Decimal txt3 := by
  refine ⟨by decide, by decide, by decide +kernel, fun k hk => ?_⟩
  have : k = 0 := by have : txt3.size = 1 := rfl; omega
  subst this
  exact Or.inl (by decide +kernel)

set_option maxHeartbeats 400000 in
theorem dist21 (d : ByteArray) (w : World) (q : Nat) (hc : Calls Tryd.prog 37 #[.string d] w fun e w' => e = .returned (.tuple #[.float .f64 q, .nilIface]) ∧ Below w.heap.size w w') :
    Calls Tryd.prog 21 #[.string d] w fun e w' => e = .returned (.tuple #[.int .u64 q, .bool true]) ∧ Below w.heap.size w w' := by
  have HC := Lib.hid hc
  clear hc
  have q26 := bits26
  go_enter Tryd.func21, Tryd.ntmps21
  go_wp2_with (go_at_call 37; refine HC.out.mono ?_; rintro e w1 ⟨rfl, hb⟩)
  go_ret2
  exact ⟨rfl, hb⟩

/-- Where the listed variables lie: ahead of what a call makes. -/
structure Lies (w : World) : Prop where
  knows : Knows w
  many : 12 < w.heap.size
  pow : ∀ b o c, w.cell? ⟨12, 0, none⟩ = some (.slice (some ⟨b, o, none⟩) 23 c) → b < w.heap.size

theorem Lies.below {w w' : World} (h : Lies w) (hb : Below w.heap.size w w') : Lies w' := by
  have hs := hb.size
  have hm := h.many
  refine ⟨h.knows.below hb h.many h.pow, by omega, fun b o c hc => ?_⟩
  rw [hb.cell (p := ⟨12, 0, none⟩) (by show 12 < _; omega)] at hc
  have := h.pow b o c hc
  omega

theorem dist_km3 (w : World) (hl : Lies w) : Calls Tryd.prog 21 #[.string km3] w fun e w' => e = .returned (.tuple #[.int .u64 4658815484840378368, .bool true]) ∧ Below w.heap.size w w' := by
  refine dist21 km3 w _ (dist37 km3 w 6 4613937818241073152 _ (by decide) first_km3 (by omega) (fun w' hb => ?_) (by decide +kernel))
  rw [cut_km3]
  exact parse48_dec txt3 w' decimal_txt3 3 0 _ false dec_txt3 (Or.inr (Or.inl ⟨by omega, rfl, by decide +kernel⟩)) (hl.below hb).knows

set_option maxHeartbeats 1000000 in
theorem awake11 (w : World) (hl : Lies w) : Calls Tryd.prog 11 #[] w fun e w' => e = .returned (.bool true) ∧ Below w.heap.size w w' := by
  have c21 := Lib.hid (dist_km3 w hl)
  unfold km3 at c21
  have q20 := frombits20
  have e1 : (FloatKind.f64.format.order 4658815484840378368 4658815484840378368 == some .eq) = true := by decide +kernel
  clear hl
  have ca := fun w => within13 4607182418800017408 4607182418800017408 4611686018427387904 4611686018427387904 0 0 4613937818241073152 4613937818241073152 w
  have cb := fun w => within13 0 0 4613937818241073152 4613937818241073152 4607182418800017408 4607182418800017408 4611686018427387904 4611686018427387904 w
  rw [show withinB 4607182418800017408 4607182418800017408 4611686018427387904 4611686018427387904 0 0 4613937818241073152 4613937818241073152 = true by decide +kernel] at ca
  rw [show withinB 0 0 4613937818241073152 4613937818241073152 4607182418800017408 4607182418800017408 4611686018427387904 4611686018427387904 = false by decide +kernel] at cb
  unfold rect at ca cb
  go_enter Tryd.func11, Tryd.ntmps11
  go_wp2_with (go_at_call 21; refine c21.out.mono ?_; rintro e w1 ⟨rfl, hb⟩)
  refine (ca _).mono ?_
  rintro e w2 ⟨rfl, hb2⟩
  go_wp2_with fail
  refine (cb _).mono ?_
  rintro e w3 ⟨rfl, hb3⟩
  go_wp2
  go_ret
  exact ⟨rfl, (hb.trans (hb2.mono hb.size)).trans (hb3.mono (Nat.le_trans hb.size hb2.size))⟩
end Go.Proofs.YtobloagecjhhiaaDoor
