/-
  The walk of strconv.ParseFloat over a decimal text (as in the text Read): its number, m, m over a hundred, or nought. Condition: the listed variables of internal/strconv hold what the row lists.
-/
import Derived.Test.YtobloagecjhhiaaDoorRead
namespace Go.Proofs.YtobloagecjhhiaaDoor
open Go.RowKit Go.PlainAid

/-- What the listed variables of internal/strconv hold, so far as the walks read them. -/
structure Knows (w : World) : Prop where
  opt : w.cell? ⟨8, 0, none⟩ = some (.bool true)
  mant : w.cell? ⟨9, 0, none⟩ = some (.int .u64 52)
  pow : ∃ b o c, w.cell? ⟨12, 0, none⟩ = some (.slice (some ⟨b, o, none⟩) 23 c) ∧ w.cell? ⟨b, o + 2, none⟩ = some (.float .f64 4636737291354636288)

/-! The functions without a body: a float's bits. -/
theorem frombits20 (n : Int) (w : World) : (callFunc 20 #[.int .u64 n]).run Tryd.prog w = .ok (.value (.float .f64 n.toNat)) w := by
  rw [run_callFunc_extern (e := Extern.MathFloatBits.float64frombits) Tryd.func20 (by kernel_rfl) (by kernel_rfl) (by kernel_rfl) (by kernel_rfl)]
  rfl
theorem frombits87 (n : Int) (w : World) : (callFunc 87 #[.int .u64 n]).run Tryd.prog w = .ok (.value (.float .f64 n.toNat)) w := by
  rw [run_callFunc_extern (e := Extern.MathFloatBits.float64frombits) Tryd.func87 (by kernel_rfl) (by kernel_rfl) (by kernel_rfl) (by kernel_rfl)]
  rfl
theorem bits26 (n : Nat) (w : World) : (callFunc 26 #[.float .f64 n]).run Tryd.prog w = .ok (.value (.int .u64 n)) w := by
  rw [run_callFunc_extern (e := Extern.MathFloatBits.float64bits) Tryd.func26 (by kernel_rfl) (by kernel_rfl) (by kernel_rfl) (by kernel_rfl)]
  rfl

set_option maxHeartbeats 400000 in
theorem exact_int (m : Nat) (w : World) (hm : m < 1000000000000) (h9 : w.cell? ⟨9, 0, none⟩ = some (.int .u64 52)) :
    Calls Tryd.prog 88 #[.int .u64 m, .int .i64 0, .bool false] w fun e w' => e = .returned (.tuple #[.float .f64 (floatOfInt .f64 m), .bool true]) ∧ w = w' := by
  go_enter Tryd.func88, Tryd.ntmps88
  go_wp2
  go_ret2
  exact ⟨rfl, rfl⟩

set_option maxHeartbeats 400000 in
theorem exact_quo (m r b o : Nat) (c : Nat) (w : World) (hm : m < 1000000000000) (h9 : w.cell? ⟨9, 0, none⟩ = some (.int .u64 52))
    (h12 : w.cell? ⟨12, 0, none⟩ = some (.slice (some ⟨b, o, none⟩) 23 c)) (hp : w.cell? ⟨b, o + 2, none⟩ = some (.float .f64 4636737291354636288))
    (hr : Ieee.double.div (floatOfInt .f64 m) 4636737291354636288 = some r) :
    Calls Tryd.prog 88 #[.int .u64 m, .int .i64 (-2), .bool false] w fun e w' => e = .returned (.tuple #[.float .f64 r, .bool true]) ∧ w = w' := by
  have hq := fun w => run_float_arith (P := Tryd.prog) w .quo 22 .f64 (floatOfInt .f64 m) 4636737291354636288 r hr
  clear hr
  go_enter Tryd.func88, Tryd.ntmps88
  go_wp2
  go_ret2
  exact ⟨rfl, rfl⟩

/-- What a decimal text's number (m over ten to the f) is as a double. -/
def numOf (m f r : Nat) : Prop := (m = 0 ∧ r = 0) ∨ (m ≠ 0 ∧ f = 0 ∧ r = floatOfInt .f64 m) ∨ (m ≠ 0 ∧ f = 2 ∧ Ieee.double.div (floatOfInt .f64 m) 4636737291354636288 = some r)

set_option maxHeartbeats 400000 in
theorem bool2_no (w : World) : Calls Tryd.prog 86 #[.bool false] w fun e w' => e = .returned (.int .u64 0) ∧ w = w' := by
  go_enter Tryd.func86, Tryd.ntmps86
  go_wp2
  go_ret
  exact ⟨rfl, rfl⟩

set_option maxRecDepth 100000 in
set_option maxHeartbeats 1000000 in
theorem atof64_dec (s : ByteArray) (w : World) (h : Decimal s) (m f r : Nat) (p : Bool) (hd : dec s s.size = (m, p, f)) (hn : numOf m f r) (hk : Knows w) :
    Calls Tryd.prog 74 #[.string s] w fun e w' => e = .returned (.tuple #[.float .f64 r, .int .i64 s.size, .nilIface]) ∧ w = w' := by
  have hb := dec_bound s s.size (fun j hj => by have := h.all j hj; omega)
  rw [hd] at hb
  have hpow : 10^s.size ≤ 10^12 := Nat.pow_le_pow_right (by omega) h.short
  have hm : m < 1000000000000 := by simp only at hb; omega
  have hs := h.short
  have hp := h.pos
  have c77 := special_dec s w h.pos (by omega) h.first.1 (by have := h.first.2; omega)
  have c78 := readFloat_dec s w h m f p hd
  have c86 := bool2_no w
  have h8 := hk.opt
  have h9 := hk.mant
  obtain ⟨b, o, c, h12, hpw⟩ := hk.pow
  clear hb hpow hd
  have q87 := frombits87
  have hb0 : bits BinOp.or IntKind.u64 0 0 = 0 := by decide +kernel
  rcases hn with ⟨h0, hr⟩ | ⟨h0, hf, hr⟩ | ⟨h0, hf, hr⟩
  · subst h0
    rw [if_pos rfl] at c78
    subst hr
    go_enter Tryd.func74, Tryd.ntmps74
    go_wp2_with (first | (go_at_call 77; refine c77.mono ?_; rintro e w' ⟨rfl, rfl⟩) | (go_at_call 78; refine c78.mono ?_; rintro e w' ⟨rfl, rfl⟩) | (go_at_call 86; refine c86.mono ?_; rintro e w' ⟨rfl, rfl⟩))
    go_ret3
    exact ⟨rfl, rfl⟩
  · subst hf
    rw [if_neg h0] at c78
    have c88 := exact_int m w hm h9
    subst hr
    have t : ((m : Int) == 0) = false := beq_eq_false_iff_ne.2 (by omega)
    clear h0 h12 hpw
    go_enter Tryd.func74, Tryd.ntmps74
    go_wp2_with (first | (go_at_call 77; refine c77.mono ?_; rintro e w' ⟨rfl, rfl⟩) | (go_at_call 78; refine c78.mono ?_; rintro e w' ⟨rfl, rfl⟩) | (go_at_call 86; refine c86.mono ?_; rintro e w' ⟨rfl, rfl⟩) | (go_at_call 88; refine c88.mono ?_; rintro e w' ⟨rfl, rfl⟩))
    go_ret3
    exact ⟨rfl, rfl⟩
  · subst hf
    rw [if_neg h0] at c78
    have c88 := exact_quo m r b o c w hm h9 h12 hpw hr
    have t : ((m : Int) == 0) = false := beq_eq_false_iff_ne.2 (by omega)
    clear h0 h12 hpw hr
    go_enter Tryd.func74, Tryd.ntmps74
    go_wp2_with (first | (go_at_call 77; refine c77.mono ?_; rintro e w' ⟨rfl, rfl⟩) | (go_at_call 78; refine c78.mono ?_; rintro e w' ⟨rfl, rfl⟩) | (go_at_call 86; refine c86.mono ?_; rintro e w' ⟨rfl, rfl⟩) | (go_at_call 88; refine c88.mono ?_; rintro e w' ⟨rfl, rfl⟩))
    go_ret3
    exact ⟨rfl, rfl⟩

set_option maxHeartbeats 400000 in
theorem prefix_dec (s : ByteArray) (w : World) (h : Decimal s) (m f r : Nat) (p : Bool) (hd : dec s s.size = (m, p, f)) (hn : numOf m f r) (hk : Knows w) :
    Calls Tryd.prog 68 #[.string s, .int .i64 64] w fun e w' => e = .returned (.tuple #[.float .f64 r, .int .i64 s.size, .nilIface]) ∧ w = w' := by
  have c74 := atof64_dec s w h m f r p hd hn hk
  clear hd hn
  go_enter Tryd.func68, Tryd.ntmps68
  go_wp2_with (go_at_call 74; refine c74.mono ?_; rintro e w' ⟨rfl, rfl⟩)
  go_ret3
  exact ⟨rfl, rfl⟩

set_option maxHeartbeats 400000 in
theorem parse65_dec (s : ByteArray) (w : World) (h : Decimal s) (m f r : Nat) (p : Bool) (hd : dec s s.size = (m, p, f)) (hn : numOf m f r) (hk : Knows w) :
    Calls Tryd.prog 65 #[.string s, .int .i64 64] w fun e w' => e = .returned (.tuple #[.float .f64 r, .nilIface]) ∧ w = w' := by
  have c := prefix_dec s w h m f r p hd hn hk
  have t : ((s.size : Int) != s.size) = false := by simp
  clear hd hn
  go_enter Tryd.func65, Tryd.ntmps65
  go_wp2_with (go_at_call 68; refine c.mono ?_; rintro e w' ⟨rfl, rfl⟩)
  go_ret2
  exact ⟨rfl, rfl⟩

set_option maxHeartbeats 400000 in
theorem parse48_dec (s : ByteArray) (w : World) (h : Decimal s) (m f r : Nat) (p : Bool) (hd : dec s s.size = (m, p, f)) (hn : numOf m f r) (hk : Knows w) :
    Calls Tryd.prog 48 #[.string s, .int .i64 64] w fun e w' => e = .returned (.tuple #[.float .f64 r, .nilIface]) ∧ w = w' := by
  have c := parse65_dec s w h m f r p hd hn hk
  clear hd hn
  go_enter Tryd.func48, Tryd.ntmps48
  go_wp2_with (go_at_call 65; refine c.mono ?_; rintro e w' ⟨rfl, rfl⟩)
  go_ret2
  exact ⟨rfl, rfl⟩
end Go.Proofs.YtobloagecjhhiaaDoor
