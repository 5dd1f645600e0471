/-
  The walks of numeric.Interleave and numeric.Deinterleave. Condition: the two tables (masks and shifts) lie where the row lists them.
-/
import Derived.Test.YtobloagecjhhiaaDoorBase
import Derived.Laws.BitsAllLaws
import Derived.Deep.DeepCutAuto
namespace Go.Proofs.YtobloagecjhhiaaDoor
open Go.RowKit Go.PlainAid

/-- One spreading step, one gathering step. -/
def upN (c M x : Nat) : Nat := (x ||| (x * c % 18446744073709551616)) &&& M
def dnN (d M x : Nat) : Nat := (x ^^^ (x / d)) &&& M

theorem upN_lt (c M x : Nat) (hM : M < 18446744073709551616) : upN c M x < 18446744073709551616 := Nat.lt_of_le_of_lt Nat.and_le_right hM
theorem dnN_lt (c M x : Nat) (hM : M < 18446744073709551616) : dnN c M x < 18446744073709551616 := Nat.lt_of_le_of_lt Nat.and_le_right hM

theorem wrap_mul (x c : Nat) : IntKind.u64.wrap ((x : Int) * (c : Int)) = ((x * c % 18446744073709551616 : Nat) : Int) := by
  simp [IntKind.wrap, IntKind.bits, IntKind.signed]

theorem or_lt64 (x y : Nat) (hx : x < 18446744073709551616) (hy : y < 18446744073709551616) : x ||| y < 18446744073709551616 := Nat.or_lt_two_pow (n := 64) hx hy
theorem xor_lt64 (x y : Nat) (hx : x < 18446744073709551616) (hy : y < 18446744073709551616) : x ^^^ y < 18446744073709551616 := Nat.xor_lt_two_pow (n := 64) hx hy

theorem up_int (x c M : Nat) (hx : x < 18446744073709551616) (hM : M < 18446744073709551616) :
    bits .and .u64 (bits .or .u64 (x : Int) (IntKind.u64.wrap ((x : Int) * (c : Int)))) (M : Int) = ((upN c M x : Nat) : Int) := by
  have h1 : x * c % 18446744073709551616 < 18446744073709551616 := Nat.mod_lt _ (by decide)
  rw [wrap_mul, u64_or_nat _ _ hx h1, u64_and_nat _ _ (or_lt64 _ _ hx h1) hM]
  rfl

theorem dn_int (x d M : Nat) (hx : x < 18446744073709551616) (hM : M < 18446744073709551616) :
    bits .and .u64 (bits .xor .u64 (x : Int) ((x : Int) / (d : Int))) (M : Int) = ((dnN d M x : Nat) : Int) := by
  have h1 : x / d < 18446744073709551616 := Nat.lt_of_le_of_lt (Nat.div_le_self _ _) hx
  rw [← Int.natCast_ediv, u64_xor_nat _ _ hx h1, u64_and_nat _ _ (xor_lt64 _ _ hx h1) hM]
  rfl

structure Magic (w : World) : Prop where
  m0 : w.cell? ⟨3, 0, none⟩ = some (.int .u64 6148914691236517205)
  m1 : w.cell? ⟨3, 1, none⟩ = some (.int .u64 3689348814741910323)
  m2 : w.cell? ⟨3, 2, none⟩ = some (.int .u64 1085102592571150095)
  m3 : w.cell? ⟨3, 3, none⟩ = some (.int .u64 71777214294589695)
  m4 : w.cell? ⟨3, 4, none⟩ = some (.int .u64 281470681808895)
  m5 : w.cell? ⟨3, 5, none⟩ = some (.int .u64 4294967295)
  s0 : w.cell? ⟨4, 0, none⟩ = some (.int .u64 1)
  s1 : w.cell? ⟨4, 1, none⟩ = some (.int .u64 2)
  s2 : w.cell? ⟨4, 2, none⟩ = some (.int .u64 4)
  s3 : w.cell? ⟨4, 3, none⟩ = some (.int .u64 8)
  s4 : w.cell? ⟨4, 4, none⟩ = some (.int .u64 16)

def spread (x : Nat) : Nat := (upN 2 6148914691236517205 (upN 4 3689348814741910323 (upN 16 1085102592571150095 (upN 256 71777214294589695 (upN 65536 281470681808895 x)))))
def gather (x : Nat) : Nat := (dnN 65536 4294967295 (dnN 256 281470681808895 (dnN 16 71777214294589695 (dnN 4 1085102592571150095 (dnN 2 3689348814741910323 (x &&& 6148914691236517205))))))
def inter (a b : Nat) : Nat := (spread b * 2 % 18446744073709551616) ||| spread a

set_option maxRecDepth 100000 in
set_option maxHeartbeats 1000000 in
theorem inter50 (a b : Nat) (w : World) (ha : a < 18446744073709551616) (hb : b < 18446744073709551616) (hm : Magic w) :
    Calls Tryd.prog 50 #[.int .u64 a, .int .u64 b] w fun e w' => e = .returned (.int .u64 (inter a b : Nat)) ∧ w = w' := by
  obtain ⟨m0, m1, m2, m3, m4, m5, s0, s1, s2, s3, s4⟩ := hm
  have la0 := Lib.hid ha
  have lb0 := Lib.hid hb
  clear ha hb
  generalize ea0 : a = a0
  generalize eb0 : b = b0
  rw [ea0] at la0
  rw [eb0] at lb0
  go_enter Tryd.func50, Tryd.ntmps50
  go_upto_region 2 with fail
  rw [show bits .and .u64 (bits .or .u64 ((a0 : Nat) : Int) (IntKind.u64.wrap ((a0 : Int) * 65536))) 281470681808895 = ((upN 65536 281470681808895 a0 : Nat) : Int) from up_int a0 65536 281470681808895 la0.out (by decide)]
  have la1 := Lib.hid (upN_lt 65536 281470681808895 a0 (by decide))
  generalize ea1 : upN 65536 281470681808895 a0 = a1 at *
  go_upto_region 3 with fail
  rw [show bits .and .u64 (bits .or .u64 ((a1 : Nat) : Int) (IntKind.u64.wrap ((a1 : Int) * 256))) 71777214294589695 = ((upN 256 71777214294589695 a1 : Nat) : Int) from up_int a1 256 71777214294589695 la1.out (by decide)]
  have la2 := Lib.hid (upN_lt 256 71777214294589695 a1 (by decide))
  generalize ea2 : upN 256 71777214294589695 a1 = a2 at *
  go_upto_region 4 with fail
  rw [show bits .and .u64 (bits .or .u64 ((a2 : Nat) : Int) (IntKind.u64.wrap ((a2 : Int) * 16))) 1085102592571150095 = ((upN 16 1085102592571150095 a2 : Nat) : Int) from up_int a2 16 1085102592571150095 la2.out (by decide)]
  have la3 := Lib.hid (upN_lt 16 1085102592571150095 a2 (by decide))
  generalize ea3 : upN 16 1085102592571150095 a2 = a3 at *
  go_upto_region 5 with fail
  rw [show bits .and .u64 (bits .or .u64 ((a3 : Nat) : Int) (IntKind.u64.wrap ((a3 : Int) * 4))) 3689348814741910323 = ((upN 4 3689348814741910323 a3 : Nat) : Int) from up_int a3 4 3689348814741910323 la3.out (by decide)]
  have la4 := Lib.hid (upN_lt 4 3689348814741910323 a3 (by decide))
  generalize ea4 : upN 4 3689348814741910323 a3 = a4 at *
  go_upto_region 6 with fail
  rw [show bits .and .u64 (bits .or .u64 ((a4 : Nat) : Int) (IntKind.u64.wrap ((a4 : Int) * 2))) 6148914691236517205 = ((upN 2 6148914691236517205 a4 : Nat) : Int) from up_int a4 2 6148914691236517205 la4.out (by decide)]
  have la5 := Lib.hid (upN_lt 2 6148914691236517205 a4 (by decide))
  generalize ea5 : upN 2 6148914691236517205 a4 = a5 at *
  go_upto_region 7 with fail
  rw [show bits .and .u64 (bits .or .u64 ((b0 : Nat) : Int) (IntKind.u64.wrap ((b0 : Int) * 65536))) 281470681808895 = ((upN 65536 281470681808895 b0 : Nat) : Int) from up_int b0 65536 281470681808895 lb0.out (by decide)]
  have lb1 := Lib.hid (upN_lt 65536 281470681808895 b0 (by decide))
  generalize eb1 : upN 65536 281470681808895 b0 = b1 at *
  go_upto_region 8 with fail
  rw [show bits .and .u64 (bits .or .u64 ((b1 : Nat) : Int) (IntKind.u64.wrap ((b1 : Int) * 256))) 71777214294589695 = ((upN 256 71777214294589695 b1 : Nat) : Int) from up_int b1 256 71777214294589695 lb1.out (by decide)]
  have lb2 := Lib.hid (upN_lt 256 71777214294589695 b1 (by decide))
  generalize eb2 : upN 256 71777214294589695 b1 = b2 at *
  go_upto_region 9 with fail
  rw [show bits .and .u64 (bits .or .u64 ((b2 : Nat) : Int) (IntKind.u64.wrap ((b2 : Int) * 16))) 1085102592571150095 = ((upN 16 1085102592571150095 b2 : Nat) : Int) from up_int b2 16 1085102592571150095 lb2.out (by decide)]
  have lb3 := Lib.hid (upN_lt 16 1085102592571150095 b2 (by decide))
  generalize eb3 : upN 16 1085102592571150095 b2 = b3 at *
  go_upto_region 10 with fail
  rw [show bits .and .u64 (bits .or .u64 ((b3 : Nat) : Int) (IntKind.u64.wrap ((b3 : Int) * 4))) 3689348814741910323 = ((upN 4 3689348814741910323 b3 : Nat) : Int) from up_int b3 4 3689348814741910323 lb3.out (by decide)]
  have lb4 := Lib.hid (upN_lt 4 3689348814741910323 b3 (by decide))
  generalize eb4 : upN 4 3689348814741910323 b3 = b4 at *
  go_upto_region 11 with fail
  rw [show bits .and .u64 (bits .or .u64 ((b4 : Nat) : Int) (IntKind.u64.wrap ((b4 : Int) * 2))) 6148914691236517205 = ((upN 2 6148914691236517205 b4 : Nat) : Int) from up_int b4 2 6148914691236517205 lb4.out (by decide)]
  have lb5 := Lib.hid (upN_lt 2 6148914691236517205 b4 (by decide))
  generalize eb5 : upN 2 6148914691236517205 b4 = b5 at *
  go_wp2
  go_ret
  refine ⟨?_, rfl⟩
  have hh := wrap_mul b5 2
  have h1 : b5 * 2 % 18446744073709551616 < 18446744073709551616 := Nat.mod_lt _ (by decide)
  have hr : bits .or .u64 (IntKind.u64.wrap ((b5 : Int) * 2)) (a5 : Int) = ((inter a0 b0 : Nat) : Int) := by
    rw [show IntKind.u64.wrap ((b5 : Int) * 2) = ((b5 * 2 % 18446744073709551616 : Nat) : Int) from hh, u64_or_nat _ _ h1 la5.out]
    unfold inter spread
    rw [ea1, eb1, ea2, eb2, ea3, eb3, ea4, eb4, ea5, eb5]
  exact congrArg (fun z : Int => Ending.returned (.int .u64 z)) hr

set_option maxRecDepth 100000 in
set_option maxHeartbeats 1000000 in
theorem deinter42 (a : Nat) (w : World) (ha : a < 18446744073709551616) (hm : Magic w) :
    Calls Tryd.prog 42 #[.int .u64 a] w fun e w' => e = .returned (.int .u64 (gather a : Nat)) ∧ w = w' := by
  obtain ⟨m0, m1, m2, m3, m4, m5, s0, s1, s2, s3, s4⟩ := hm
  have la := Lib.hid ha
  clear ha
  generalize ea : a = b at *
  go_enter Tryd.func42, Tryd.ntmps42
  go_upto_region 2 with fail
  rw [show bits .and .u64 ((b : Nat) : Int) 6148914691236517205 = ((b &&& 6148914691236517205 : Nat) : Int) from u64_and_nat b 6148914691236517205 la.out (by decide)]
  have la0 : Hid (b &&& 6148914691236517205 < 18446744073709551616) := Lib.hid (Nat.lt_of_le_of_lt Nat.and_le_right (by decide))
  generalize ea0 : b &&& 6148914691236517205 = a0 at *
  go_upto_region 3 with fail
  rw [show bits .and .u64 (bits .xor .u64 ((a0 : Nat) : Int) ((a0 : Int) / 2)) 3689348814741910323 = ((dnN 2 3689348814741910323 a0 : Nat) : Int) from dn_int a0 2 3689348814741910323 la0.out (by decide)]
  have la1 := Lib.hid (dnN_lt 2 3689348814741910323 a0 (by decide))
  generalize ea1 : dnN 2 3689348814741910323 a0 = a1 at *
  go_upto_region 4 with fail
  rw [show bits .and .u64 (bits .xor .u64 ((a1 : Nat) : Int) ((a1 : Int) / 4)) 1085102592571150095 = ((dnN 4 1085102592571150095 a1 : Nat) : Int) from dn_int a1 4 1085102592571150095 la1.out (by decide)]
  have la2 := Lib.hid (dnN_lt 4 1085102592571150095 a1 (by decide))
  generalize ea2 : dnN 4 1085102592571150095 a1 = a2 at *
  go_upto_region 5 with fail
  rw [show bits .and .u64 (bits .xor .u64 ((a2 : Nat) : Int) ((a2 : Int) / 16)) 71777214294589695 = ((dnN 16 71777214294589695 a2 : Nat) : Int) from dn_int a2 16 71777214294589695 la2.out (by decide)]
  have la3 := Lib.hid (dnN_lt 16 71777214294589695 a2 (by decide))
  generalize ea3 : dnN 16 71777214294589695 a2 = a3 at *
  go_upto_region 6 with fail
  rw [show bits .and .u64 (bits .xor .u64 ((a3 : Nat) : Int) ((a3 : Int) / 256)) 281470681808895 = ((dnN 256 281470681808895 a3 : Nat) : Int) from dn_int a3 256 281470681808895 la3.out (by decide)]
  have la4 := Lib.hid (dnN_lt 256 281470681808895 a3 (by decide))
  generalize ea4 : dnN 256 281470681808895 a3 = a4 at *
  go_upto_region 7 with fail
  rw [show bits .and .u64 (bits .xor .u64 ((a4 : Nat) : Int) ((a4 : Int) / 65536)) 4294967295 = ((dnN 65536 4294967295 a4 : Nat) : Int) from dn_int a4 65536 4294967295 la4.out (by decide)]
  have la5 := Lib.hid (dnN_lt 65536 4294967295 a4 (by decide))
  generalize ea5 : dnN 65536 4294967295 a4 = a5 at *
  go_wp2
  go_ret
  refine ⟨?_, rfl⟩
  have hr : (a5 : Int) = ((gather b : Nat) : Int) := by
    unfold gather
    rw [ea0, ea1, ea2, ea3, ea4, ea5]
  exact congrArg (fun z : Int => Ending.returned (.int .u64 z)) hr
end Go.Proofs.YtobloagecjhhiaaDoor
