/-
  Gathering what was spread gives it back: plain laws on the bits of whole numbers, by tables of where each bit comes from.
-/
import Derived.Test.YtobloagecjhhiaaDoorMort
namespace Go.Proofs.YtobloagecjhhiaaDoor

def bitOf (e : Nat → Bool) : Option Nat → Bool
  | none => false
  | some j => e j
/-- Bit i of x is the bit of the variables that the table names. -/
def Rep (e : Nat → Bool) (x : Nat) (t : List (Option Nat)) : Prop := ∀ i, x.testBit i = bitOf e (t.getD i none)

def tabOf (f : Nat → Option Nat) : List (Option Nat) := (List.range 64).map f
theorem tabOf_get (f : Nat → Option Nat) (i : Nat) (h : i < 64) : (tabOf f).getD i none = f i := by
  unfold tabOf
  rw [List.getD_eq_getElem?_getD, List.getElem?_map, List.getElem?_range h]; rfl
theorem tabOf_out (f : Nat → Option Nat) (i : Nat) (h : ¬ i < 64) : (tabOf f).getD i none = none := by
  unfold tabOf
  rw [List.getD_eq_getElem?_getD, List.getElem?_map, List.getElem?_eq_none (by simp; omega)]; rfl

def join : Option Nat → Option Nat → Option Nat
  | none, b => b
  | some a, _ => some a
def upAt (s : Nat) (t : List (Option Nat)) (i : Nat) : Option Nat := if i < s then none else t.getD (i - s) none
def upT (s M : Nat) (t : List (Option Nat)) : List (Option Nat) := tabOf fun i => if M.testBit i then join (t.getD i none) (upAt s t i) else none
def upOk (s M : Nat) (t : List (Option Nat)) : Bool := (List.range 64).all fun i => !M.testBit i || (t.getD i none).isNone || (upAt s t i).isNone || t.getD i none == upAt s t i
def dnT (s M : Nat) (t : List (Option Nat)) : List (Option Nat) := tabOf fun i => if M.testBit i then join (t.getD i none) (t.getD (i + s) none) else none
def dnOk (s M : Nat) (t : List (Option Nat)) : Bool := (List.range 64).all fun i => !M.testBit i || (t.getD i none).isNone || (t.getD (i + s) none).isNone

theorem high_bit (x i : Nat) (h : x < 18446744073709551616) (hi : ¬ i < 64) : x.testBit i = false := by
  apply Nat.testBit_lt_two_pow
  have : 2^64 ≤ 2^i := Nat.pow_le_pow_right (by decide) (by omega)
  have h64 : 2^64 = 18446744073709551616 := by decide
  omega

theorem shl_bit (x s i : Nat) : (x * 2^s % 18446744073709551616).testBit i = (decide (i < 64) && (decide (s ≤ i) && x.testBit (i - s))) := by
  rw [show 18446744073709551616 = 2^64 by decide, Nat.testBit_mod_two_pow, ← Nat.shiftLeft_eq, Nat.testBit_shiftLeft]

theorem shr_bit (x s i : Nat) : (x / 2^s).testBit i = x.testBit (i + s) := by
  rw [Nat.testBit_div_two_pow]

theorem up_rep {e : Nat → Bool} {x : Nat} {t : List (Option Nat)} (s M : Nat) (h : Rep e x t) (hM : M < 18446744073709551616) (ok : upOk s M t = true) : Rep e (upN (2^s) M x) (upT s M t) := by
  intro i
  unfold upN upT
  rw [Nat.testBit_and, Nat.testBit_or, shl_bit]
  by_cases hi : i < 64
  · rw [tabOf_get _ i hi]
    cases hm : M.testBit i with
    | false => simp [bitOf]
    | true =>
      have hk := List.all_eq_true.1 ok i (List.mem_range.2 hi)
      rw [hm] at hk
      rw [h i]
      have hs : (decide (i < 64) && (decide (s ≤ i) && x.testBit (i - s))) = bitOf e (upAt s t i) := by
        unfold upAt
        by_cases hsi : i < s
        · rw [if_pos hsi, decide_eq_false (show ¬ s ≤ i by omega)]; simp [bitOf]
        · rw [if_neg hsi, decide_eq_true (show s ≤ i by omega), decide_eq_true hi, h (i - s)]; simp
      rw [hs]
      generalize t.getD i none = a at hk
      generalize upAt s t i = b at hk
      cases a <;> cases b <;> simp_all [bitOf, join]
  · rw [tabOf_out _ i hi, high_bit M i hM hi]; simp [bitOf]

theorem dn_rep {e : Nat → Bool} {x : Nat} {t : List (Option Nat)} (s M : Nat) (h : Rep e x t) (hM : M < 18446744073709551616) (ok : dnOk s M t = true) : Rep e (dnN (2^s) M x) (dnT s M t) := by
  intro i
  unfold dnN dnT
  rw [Nat.testBit_and, Nat.testBit_xor, shr_bit]
  by_cases hi : i < 64
  · rw [tabOf_get _ i hi]
    cases hm : M.testBit i with
    | false => simp [bitOf]
    | true =>
      have hk := List.all_eq_true.1 ok i (List.mem_range.2 hi)
      rw [hm] at hk
      rw [h i, h (i + s)]
      generalize t.getD i none = a at hk
      generalize t.getD (i + s) none = b at hk
      cases a <;> cases b <;> simp_all [bitOf, join]
  · rw [tabOf_out _ i hi, high_bit M i hM hi]; simp [bitOf]

theorem and_rep {e : Nat → Bool} {x : Nat} {t : List (Option Nat)} (M : Nat) (h : Rep e x t) (hM : M < 18446744073709551616) : Rep e (x &&& M) (tabOf fun i => if M.testBit i then t.getD i none else none) := by
  intro i
  rw [Nat.testBit_and]
  by_cases hi : i < 64
  · rw [tabOf_get _ i hi, h i]
    cases hm : M.testBit i <;> simp [bitOf]
  · rw [tabOf_out _ i hi, high_bit M i hM hi]; simp [bitOf]

theorem shl_rep {e : Nat → Bool} {x : Nat} {t : List (Option Nat)} (s : Nat) (h : Rep e x t) : Rep e (x * 2^s % 18446744073709551616) (tabOf (upAt s t)) := by
  intro i
  rw [shl_bit]
  by_cases hi : i < 64
  · rw [tabOf_get _ i hi]
    unfold upAt
    by_cases hsi : i < s
    · rw [if_pos hsi, decide_eq_false (show ¬ s ≤ i by omega)]; simp [bitOf]
    · rw [if_neg hsi, decide_eq_true (show s ≤ i by omega), decide_eq_true hi, h (i - s)]; simp
  · rw [tabOf_out _ i hi, decide_eq_false hi]; simp [bitOf]

theorem or_rep {e : Nat → Bool} {x y : Nat} {t u : List (Option Nat)} (h : Rep e x t) (g : Rep e y u) (hx : x < 18446744073709551616) (hy : y < 18446744073709551616)
    (ok : ((List.range 64).all fun i => (t.getD i none).isNone || (u.getD i none).isNone) = true) : Rep e (x ||| y) (tabOf fun i => join (t.getD i none) (u.getD i none)) := by
  intro i
  rw [Nat.testBit_or]
  by_cases hi : i < 64
  · rw [tabOf_get _ i hi, h i, g i]
    have hk := List.all_eq_true.1 ok i (List.mem_range.2 hi)
    generalize t.getD i none = a at hk
    generalize u.getD i none = b at hk
    cases a <;> cases b <;> simp_all [bitOf, join]
  · rw [tabOf_out _ i hi, high_bit x i hx hi, high_bit y i hy hi]; rfl

theorem shr_rep {e : Nat → Bool} {x : Nat} {t : List (Option Nat)} (s : Nat) (h : Rep e x t) : Rep e (x / 2^s) (t.drop s) := by
  intro i
  rw [shr_bit, h (i + s)]
  simp [List.getD_eq_getElem?_getD, Nat.add_comm]

theorem Rep.eq {e : Nat → Bool} {x y : Nat} {t u : List (Option Nat)} (h : Rep e x t) (g : Rep e y u) (he : t = u) : x = y := by
  apply Nat.eq_of_testBit_eq
  intro i
  rw [h i, g i, he]

def tabA : List (Option Nat) := tabOf fun i => if i < 32 then some i else none
def tabB : List (Option Nat) := tabOf fun i => if i < 32 then some (i + 32) else none
def bitsOf (a b : Nat) (j : Nat) : Bool := if j < 32 then a.testBit j else b.testBit (j - 32)

theorem low_rep {e : Nat → Bool} {a k : Nat} (ha : a < 4294967296) (he : ∀ i, i < 32 → e (i + k) = a.testBit i) : Rep e a (tabOf fun i => if i < 32 then some (i + k) else none) := by
  intro i
  have out : ¬ i < 32 → a.testBit i = false := by
    intro hi
    apply Nat.testBit_lt_two_pow
    have : 2^32 ≤ 2^i := Nat.pow_le_pow_right (by decide) (by omega)
    have h32 : 2^32 = 4294967296 := by decide
    omega
  by_cases h64 : i < 64
  · rw [tabOf_get _ i h64]
    by_cases hi : i < 32
    · rw [if_pos hi]; exact (he i hi).symm
    · rw [if_neg hi, out hi]; rfl
  · rw [tabOf_out _ i h64, out (by omega)]; rfl

def spreadT (t : List (Option Nat)) : List (Option Nat) := upT 1 6148914691236517205 (upT 2 3689348814741910323 (upT 4 1085102592571150095 (upT 8 71777214294589695 (upT 16 281470681808895 t))))
def spreadOk (t : List (Option Nat)) : Bool :=
  upOk 16 281470681808895 t && upOk 8 71777214294589695 (upT 16 281470681808895 t) && upOk 4 1085102592571150095 (upT 8 71777214294589695 (upT 16 281470681808895 t)) &&
  upOk 2 3689348814741910323 (upT 4 1085102592571150095 (upT 8 71777214294589695 (upT 16 281470681808895 t))) && upOk 1 6148914691236517205 (upT 2 3689348814741910323 (upT 4 1085102592571150095 (upT 8 71777214294589695 (upT 16 281470681808895 t))))
theorem spread_rep {e : Nat → Bool} {x : Nat} {t : List (Option Nat)} (h : Rep e x t) (ok : spreadOk t = true) : Rep e (spread x) (spreadT t) := by
  unfold spreadOk at ok
  simp only [Bool.and_eq_true] at ok
  obtain ⟨⟨⟨⟨o1, o2⟩, o3⟩, o4⟩, o5⟩ := ok
  exact up_rep 1 _ (up_rep 2 _ (up_rep 4 _ (up_rep 8 _ (up_rep 16 _ h (by decide) o1) (by decide) o2) (by decide) o3) (by decide) o4) (by decide) o5

def maskT (t : List (Option Nat)) : List (Option Nat) := tabOf fun i => if Nat.testBit 6148914691236517205 i then t.getD i none else none
def gatherT (t : List (Option Nat)) : List (Option Nat) := dnT 16 4294967295 (dnT 8 281470681808895 (dnT 4 71777214294589695 (dnT 2 1085102592571150095 (dnT 1 3689348814741910323 (maskT t)))))
def gatherOk (t : List (Option Nat)) : Bool :=
  dnOk 1 3689348814741910323 (maskT t) && dnOk 2 1085102592571150095 (dnT 1 3689348814741910323 (maskT t)) && dnOk 4 71777214294589695 (dnT 2 1085102592571150095 (dnT 1 3689348814741910323 (maskT t))) &&
  dnOk 8 281470681808895 (dnT 4 71777214294589695 (dnT 2 1085102592571150095 (dnT 1 3689348814741910323 (maskT t)))) && dnOk 16 4294967295 (dnT 8 281470681808895 (dnT 4 71777214294589695 (dnT 2 1085102592571150095 (dnT 1 3689348814741910323 (maskT t)))))
theorem gather_rep {e : Nat → Bool} {x : Nat} {t : List (Option Nat)} (h : Rep e x t) (ok : gatherOk t = true) : Rep e (gather x) (gatherT t) := by
  unfold gatherOk at ok
  simp only [Bool.and_eq_true] at ok
  obtain ⟨⟨⟨⟨o1, o2⟩, o3⟩, o4⟩, o5⟩ := ok
  exact dn_rep 16 _ (dn_rep 8 _ (dn_rep 4 _ (dn_rep 2 _ (dn_rep 1 _ (and_rep _ h (by decide)) (by decide) o1) (by decide) o2) (by decide) o3) (by decide) o4) (by decide) o5

theorem spread_lt (x : Nat) : spread x < 18446744073709551616 := upN_lt _ _ _ (by decide)

def interT : List (Option Nat) := tabOf fun i => join ((tabOf (upAt 1 (spreadT tabB))).getD i none) ((spreadT tabA).getD i none)
theorem inter_rep (a b : Nat) (ha : a < 4294967296) (hb : b < 4294967296) : Rep (bitsOf a b) (inter a b) interT := by
  have ra : Rep (bitsOf a b) a tabA := low_rep (k := 0) ha (fun i hi => by unfold bitsOf; rw [if_pos (by omega)]; rfl)
  have rb : Rep (bitsOf a b) b tabB := low_rep (k := 32) hb (fun i hi => by unfold bitsOf; rw [if_neg (by omega), Nat.add_sub_cancel])
  exact or_rep (shl_rep 1 (spread_rep rb (by decide +kernel))) (spread_rep ra (by decide +kernel)) (Nat.mod_lt _ (by decide)) (spread_lt a) (by decide +kernel)

theorem gather_low (a b : Nat) (ha : a < 4294967296) (hb : b < 4294967296) : gather (inter a b) = a := by
  have ra : Rep (bitsOf a b) a tabA := low_rep (k := 0) ha (fun i hi => by unfold bitsOf; rw [if_pos (by omega)]; rfl)
  exact (gather_rep (inter_rep a b ha hb) (by decide +kernel)).eq ra (by decide +kernel)

theorem gather_high (a b : Nat) (ha : a < 4294967296) (hb : b < 4294967296) : gather (inter a b / 2) = b := by
  have rb : Rep (bitsOf a b) b tabB := low_rep (k := 32) hb (fun i hi => by unfold bitsOf; rw [if_neg (by omega), Nat.add_sub_cancel])
  exact (gather_rep (shr_rep 1 (inter_rep a b ha hb)) (by decide +kernel)).eq rb (by decide +kernel)

theorem inter_lt (a b : Nat) : inter a b < 18446744073709551616 := or_lt64 _ _ (Nat.mod_lt _ (by decide)) (spread_lt a)
end Go.Proofs.YtobloagecjhhiaaDoor
