/-
  The walk of laws.FnDistance over every input: it returns true. Conditions: the listed variables hold what the row lists.
-/
import Derived.Test.YtobloagecjhhiaaDoorDistP
import Derived.Deep.DeepCutAuto
import Derived.Deep.QuietTactic
import Derived.BigQuiet
import Derived.Lib.SmallJoins
namespace Go.Proofs.YtobloagecjhhiaaDoor
open Go.RowKit Go.PlainAid Fl

theorem conv1 (w : World) (c : Int) (t : TypeId) : (convert 33 9 (.slice (some ⟨w.heap.size, 0, none⟩) 1 1)).run Tryd.prog (w.alloc (.cells #[.int .u8 c] t)) = .ok (.string ⟨#[UInt8.ofNat c.toNat]⟩) (w.alloc (.cells #[.int .u8 c] t)) := by
  rw [run_convert_bytes_string _ 33 9 5 _ _ _ Tryd.underlying33 Tryd.underlying5 Tryd.underlying9]
  rw [run_bytesToString _ _ _ _ [c] (by simp [loadCells, go_sem, Addr.add])]
  rfl

theorem conv2 (w : World) (c d : Int) (t : TypeId) : (convert 33 9 (.slice (some ⟨w.heap.size, 0, none⟩) 2 2)).run Tryd.prog (w.alloc (.cells #[.int .u8 c, .int .u8 d] t)) = .ok (.string ⟨#[UInt8.ofNat c.toNat, UInt8.ofNat d.toNat]⟩) (w.alloc (.cells #[.int .u8 c, .int .u8 d] t)) := by
  rw [run_convert_bytes_string _ 33 9 5 _ _ _ Tryd.underlying33 Tryd.underlying5 Tryd.underlying9]
  rw [run_bytesToString _ _ _ _ [c, d] (by simp [loadCells, go_sem, Addr.add])]
  rfl

def strLen : Value → Nat
  | .string s => s.size
  | _ => 0

set_option maxRecDepth 100000 in
set_option maxHeartbeats 400000 in
theorem dist_long (h u : Int) (junk : ByteArray) (w : World) (hj : 2147483647 < junk.size) :
    Calls Tryd.prog 6 #[.int .u32 h, .int .u8 u, .string junk] w fun e w' => e = .returned (.bool true) ∧ Below w.heap.size w w' := by
  go_enter Tryd.func6, Tryd.ntmps6
  go_wp2
  go_ret
  exact ⟨rfl, Below.refl _ _⟩

theorem more_bl (m k n : Nat) (d : ByteArray) (hd : bl d = dg m k) (hn : n = m / 10^k) : bl (ByteArray.mk #[48 + UInt8.ofNat (n % 10)] ++ d) = dg m (k + 1) := by
  rw [bl_append, hd, hn]; rfl

theorem len_bl (m k : Nat) (d : ByteArray) (hd : bl d = dg m k) : strLen (.string d) = k := by
  show d.size = k
  rw [size_bl, hd, dg_length]

theorem numText_of (H k : Nat) (h : Int) (d : ByteArray) (hh : h = H) (h1 : 1 ≤ k) (h8 : k ≤ 8) (hz : H / 100 / 10^k = 0) (hd : bl d = dg (H / 100) k) :
    NumText H (d ++ (ByteArray.mk #[46] ++ ByteArray.mk #[UInt8.ofNat (48 + h % 100 / 10).toNat, UInt8.ofNat (48 + h % 10).toNat])) := by
  refine ⟨k, h1, h8, ?_, ?_⟩
  · have hp : 0 < 10^k := Nat.pow_pos (by omega)
    exact (Nat.div_eq_zero_iff_lt hp).1 hz
  · rw [bl_append, bl_append, hd]
    have e1 : (48 + h % 100 / 10).toNat = 48 + H % 100 / 10 := by omega
    have e2 : (48 + h % 10).toNat = 48 + H % 100 % 10 := by omega
    rw [e1, e2]
    simp only [UInt8.ofNat_add]
    rfl

theorem next_num (n : Nat) : Value.int .i64 ((n : Int) / 10) = .int .i64 ((n / 10 : Nat) : Int) := by
  rw [Int.natCast_ediv]; rfl

set_option maxRecDepth 100000 in
set_option maxHeartbeats 1000000 in
theorem dist_unitW (H K r q : Nat) (h u : Int) (junk : ByteArray) (w : World) (hH : h = H) (h0 : 0 ≤ h) (h1 : h ≤ 4294967295) (u0 : 0 ≤ u) (u1 : u ≤ 255) (hK : K < 18) (hu : u % 19 = K) (hj : junk.size ≤ 2147483647) (hl : LiesD w)
    (hr : Ieee.double.div (floatOfInt .f64 h) 4636737291354636288 = some r) (hn : numOf H 2 r) (hq : Ieee.double.mul r (cv (K / 2)) = some q)
    (n1 : ∀ w, Calls Tryd.prog 16 #[.float .f64 (cv (K / 2)), .float .f64 (cv (K / 2)), .float .f64 4427486594234968593, .float .f64 0] w fun e w' => e = .returned (.bool true) ∧ w = w')
    (n2 : ∀ w, Calls Tryd.prog 16 #[.float .f64 q, .float .f64 q, .float .f64 4427486594234968593, .float .f64 0] w fun e w' => e = .returned (.bool true) ∧ w = w') :
    Calls Tryd.prog 6 #[.int .u32 h, .int .u8 u, .string junk] w fun e w' => e = .returned (.bool true) ∧ Below w.heap.size w w' := by
  have k1 := conv1
  have k2 := conv2
  have HL := Lib.hid hl
  have HR := Lib.hid hr
  have HN := Lib.hid hn
  have HQ := Lib.hid hq
  have HU := Lib.hid hu
  have N1 := Lib.hid n1
  have N2 := Lib.hid n2
  clear hl hr hn hq hu n1 n2
  have HH := Lib.hid hH
  clear hH
  go_enter Tryd.func6, Tryd.ntmps6
  go_wp2
  go_loopw [9, 10] (fun s9 s10 wx => ∃ (k n : Nat) (d : ByteArray), k ≤ 8 ∧ n = H / 100 / 10^k ∧ bl d = dg (H / 100) k ∧ s9 = .string d ∧ s10 = .int .i64 n ∧ Below w.heap.size w wx) (fun s9 _ _ => 20 - strLen s9)
  case atStart => exact ⟨0, (H / 100), ⟨#[]⟩, by omega, by simp, rfl, rfl, by rw [HH.out]; go_num, Below.refl _ _⟩
  case round =>
    obtain ⟨k, n, d, hk, hn, hd, rfl, rfl, hb⟩ := hrel
    have HB := Lib.hid hb
    have HD := Lib.hid hd
    have HNN := Lib.hid hn
    have hn1 : n ≤ 42949672 := by
      have := HH.out; rw [hn]; exact Nat.le_trans (Nat.div_le_self _ _) (by omega)
    clear hb hd hn
    by_cases hk0 : k = 0
    · have hd0 : d = ⟨#[]⟩ := by
        have := HD.out
        subst hk0
        exact bl_eq this
      subst hd0
      subst hk0
      clear hj
      go_wp2
      all_goals go_roundw
      case rel => exact ⟨1, 0, _, by omega, by have := HNN.out; simp at this; omega, more_bl (H / 100) 0 0 ⟨#[]⟩ rfl (by have := HNN.out; simp at this; simp; omega), rfl, rfl, HB.out.alloc (by have := HB.out.size; omega) _⟩
      case measure => exact by decide
      case rel => exact ⟨1, n / 10, _, by omega, by have := HNN.out; simp at this; omega, more_bl (H / 100) 0 n ⟨#[]⟩ rfl HNN.out, rfl, next_num n, HB.out.alloc (by have := HB.out.size; omega) _⟩
      case measure => rw [len_bl (H / 100) 1 _ (more_bl (H / 100) 0 n ⟨#[]⟩ rfl HNN.out)]; exact by decide
    · have hdz : d.size = k := len_bl _ _ d HD.out
      have hd0 : (d.toList == ([] : List UInt8)) = false := by
        rw [beq_eq_false_iff_ne, ByteArray.toList_eq]
        intro h0
        have h2 := HD.out
        unfold bl at h2
        rw [h0] at h2
        have h3 := dg_length (H / 100) k
        rw [← h2] at h3
        simp at h3
        omega
      by_cases hn0 : 0 < n
      · have hk8 : k ≠ 8 := by
          intro e
          have h2 := HNN.out
          have h3 := HH.out
          rw [e] at h2
          omega
        go_wp2
        go_roundw
        case rel => exact ⟨k + 1, n / 10, _, by omega, by rw [HNN.out, Nat.div_div_eq_div_mul, Nat.pow_succ], more_bl (H / 100) k n d HD.out HNN.out, rfl, next_num n, HB.out.alloc (by have := HB.out.size; omega) _⟩
        case measure =>
          rw [len_bl (H / 100) (k + 1) _ (more_bl (H / 100) k n d HD.out HNN.out), len_bl (H / 100) k d HD.out]
          omega
      · have hn00 : n = 0 := by omega
        subst hn00
        go_upto_region 9 with fail
        go_cut [9] (fun s9 wx => ∃ S : ByteArray, s9 = .string S ∧ NumText H S ∧ Below w.heap.size w wx)
        case first =>
          go_wp2
          go_meet
          exact ⟨_, rfl, numText_of H k h d HH.out (by omega) hk HNN.out.symm HD.out, HB.out.alloc (by have := HB.out.size; omega) _⟩
        case rest =>
          obtain ⟨S, rfl, hS, hb2⟩ := hcut
          clear k1 k2 HB HD HNN hd0
          have hl2 := HL.out.below hb2
          obtain ⟨b, o, c, hlt, ht, hent⟩ := hl2.tab
          obtain ⟨e1, e2⟩ := hent K hK
          rw [Nat.mul_comm 2 K] at e1 e2
          have hl2 := Lib.hid hl2
          have hb2 := Lib.hid hb2
          have hS := Lib.hid hS
          have hr := fun w => run_float_arith (P := Tryd.prog) w .quo 22 .f64 _ _ _ HR.out
          have hu := HU.out
          have hkI : (K : Int) < 18 := by omega
          have hsz : S.size ≤ 12 := numText_size hS.out
          have hnz := nm_len K
          have q20 := frombits20
          have hm := fun w => run_float_arith (P := Tryd.prog) w .mul 22 .f64 _ _ _ HQ.out
          clear hent
          go_upto_region 14 with fail
          go_quiet (fail)
          go_wp2_with fail
          refine (unit_nm K hK _).mono ?_
          rintro e wa ⟨rfl, ba⟩
          have b1 := hb2.out.trans (Joins.below_draws _ wc nq)
          have ba := Lib.hid (b1.trans (ba.mono b1.size))
          clear b1
          go_wp2_with fail
          refine (N1.out _).mono ?_
          rintro e wx ⟨rfl, rfl⟩
          go_wp2_with fail
          refine (dist_unit H S r q K hS.out HN.out hK HQ.out _ (HL.out.below ba.out).lies).mono ?_
          rintro e wb ⟨rfl, bb⟩
          have bb := Lib.hid (ba.out.trans (bb.mono ba.out.size))
          go_wp2_with fail
          refine (N2.out _).mono ?_
          rintro e wx ⟨rfl, rfl⟩
          go_wp2_with fail
          refine (dist_ask junk _ hj (HL.out.below bb.out)).mono ?_
          rintro e wd ⟨rfl, bd⟩
          have bd := Lib.hid (bb.out.trans (bd.mono bb.out.size))
          go_wp2_with fail
          refine (unit_ask junk _).mono ?_
          rintro e we ⟨rfl, be⟩
          have be := Lib.hid (bd.out.trans (be.mono bd.out.size))
          go_wp2_with fail
          refine (awake11 _ (HL.out.below be.out).lies).mono ?_
          rintro e wf ⟨rfl, bf⟩
          have bf := Lib.hid (be.out.trans (bf.mono be.out.size))
          go_wp2
          go_ret
          exact ⟨rfl, bf.out⟩

set_option maxRecDepth 100000 in
set_option maxHeartbeats 1000000 in
theorem dist_plainW (H r q : Nat) (h u : Int) (junk : ByteArray) (w : World) (hH : h = H) (h0 : 0 ≤ h) (h1 : h ≤ 4294967295) (u0 : 0 ≤ u) (u1 : u ≤ 255) (hu : u % 19 = 18) (hj : junk.size ≤ 2147483647) (hl : LiesD w)
    (hr : Ieee.double.div (floatOfInt .f64 h) 4636737291354636288 = some r) (hn : numOf H 2 r) (hq : Ieee.double.mul r 4607182418800017408 = some q)
    (n2 : ∀ w, Calls Tryd.prog 16 #[.float .f64 r, .float .f64 q, .float .f64 4427486594234968593, .float .f64 0] w fun e w' => e = .returned (.bool true) ∧ w = w') :
    Calls Tryd.prog 6 #[.int .u32 h, .int .u8 u, .string junk] w fun e w' => e = .returned (.bool true) ∧ Below w.heap.size w w' := by
  have k1 := conv1
  have k2 := conv2
  have HL := Lib.hid hl
  have HR := Lib.hid hr
  have HN := Lib.hid hn
  have HQ := Lib.hid hq
  have HU := Lib.hid hu
  have N2 := Lib.hid n2
  clear hl hr hn hq hu n2
  have HH := Lib.hid hH
  clear hH
  go_enter Tryd.func6, Tryd.ntmps6
  go_wp2
  go_loopw [9, 10] (fun s9 s10 wx => ∃ (k n : Nat) (d : ByteArray), k ≤ 8 ∧ n = H / 100 / 10^k ∧ bl d = dg (H / 100) k ∧ s9 = .string d ∧ s10 = .int .i64 n ∧ Below w.heap.size w wx) (fun s9 _ _ => 20 - strLen s9)
  case atStart => exact ⟨0, (H / 100), ⟨#[]⟩, by omega, by simp, rfl, rfl, by rw [HH.out]; go_num, Below.refl _ _⟩
  case round =>
    obtain ⟨k, n, d, hk, hn, hd, rfl, rfl, hb⟩ := hrel
    have HB := Lib.hid hb
    have HD := Lib.hid hd
    have HNN := Lib.hid hn
    have hn1 : n ≤ 42949672 := by
      have := HH.out; rw [hn]; exact Nat.le_trans (Nat.div_le_self _ _) (by omega)
    clear hb hd hn
    by_cases hk0 : k = 0
    · have hd0 : d = ⟨#[]⟩ := by
        have := HD.out
        subst hk0
        exact bl_eq this
      subst hd0
      subst hk0
      clear hj
      go_wp2
      all_goals go_roundw
      case rel => exact ⟨1, 0, _, by omega, by have := HNN.out; simp at this; omega, more_bl (H / 100) 0 0 ⟨#[]⟩ rfl (by have := HNN.out; simp at this; simp; omega), rfl, rfl, HB.out.alloc (by have := HB.out.size; omega) _⟩
      case measure => exact by decide
      case rel => exact ⟨1, n / 10, _, by omega, by have := HNN.out; simp at this; omega, more_bl (H / 100) 0 n ⟨#[]⟩ rfl HNN.out, rfl, next_num n, HB.out.alloc (by have := HB.out.size; omega) _⟩
      case measure => rw [len_bl (H / 100) 1 _ (more_bl (H / 100) 0 n ⟨#[]⟩ rfl HNN.out)]; exact by decide
    · have hdz : d.size = k := len_bl _ _ d HD.out
      have hd0 : (d.toList == ([] : List UInt8)) = false := by
        rw [beq_eq_false_iff_ne, ByteArray.toList_eq]
        intro h0
        have h2 := HD.out
        unfold bl at h2
        rw [h0] at h2
        have h3 := dg_length (H / 100) k
        rw [← h2] at h3
        simp at h3
        omega
      by_cases hn0 : 0 < n
      · have hk8 : k ≠ 8 := by
          intro e
          have h2 := HNN.out
          have h3 := HH.out
          rw [e] at h2
          omega
        go_wp2
        go_roundw
        case rel => exact ⟨k + 1, n / 10, _, by omega, by rw [HNN.out, Nat.div_div_eq_div_mul, Nat.pow_succ], more_bl (H / 100) k n d HD.out HNN.out, rfl, next_num n, HB.out.alloc (by have := HB.out.size; omega) _⟩
        case measure =>
          rw [len_bl (H / 100) (k + 1) _ (more_bl (H / 100) k n d HD.out HNN.out), len_bl (H / 100) k d HD.out]
          omega
      · have hn00 : n = 0 := by omega
        subst hn00
        go_upto_region 9 with fail
        go_cut [9] (fun s9 wx => ∃ S : ByteArray, s9 = .string S ∧ NumText H S ∧ Below w.heap.size w wx)
        case first =>
          go_wp2
          go_meet
          exact ⟨_, rfl, numText_of H k h d HH.out (by omega) hk HNN.out.symm HD.out, HB.out.alloc (by have := HB.out.size; omega) _⟩
        case rest =>
          obtain ⟨S, rfl, hS, hb2⟩ := hcut
          clear k1 k2 HB HD HNN hd0
          have hl2 := HL.out.below hb2
          obtain ⟨b, o, c, hlt, ht, hent⟩ := hl2.tab
          have hl2 := Lib.hid hl2
          have hb2 := Lib.hid hb2
          have hS := Lib.hid hS
          have hr := fun w => run_float_arith (P := Tryd.prog) w .quo 22 .f64 _ _ _ HR.out
          have hu := HU.out
          have hsz : S.size ≤ 12 := numText_size hS.out
          have q20 := frombits20
          have hm := fun w => run_float_arith (P := Tryd.prog) w .mul 22 .f64 _ _ _ HQ.out
          clear hent
          have hS0 : S ++ (ByteArray.mk #[]) = S := by
            apply bl_eq; rw [bl_append]; exact List.append_nil _
          go_wp2_with fail
          try rw [hS0]
          have ba := hb2
          refine (dist_plain H S r hS.out HN.out _ (HL.out.below ba.out).lies).mono ?_
          rintro e wb ⟨rfl, bb⟩
          have bb := Lib.hid (ba.out.trans (bb.mono ba.out.size))
          go_wp2_with fail
          refine (N2.out _).mono ?_
          rintro e wx ⟨rfl, rfl⟩
          go_wp2_with fail
          refine (dist_ask junk _ hj (HL.out.below bb.out)).mono ?_
          rintro e wd ⟨rfl, bd⟩
          have bd := Lib.hid (bb.out.trans (bd.mono bb.out.size))
          go_wp2_with fail
          refine (unit_ask junk _).mono ?_
          rintro e we ⟨rfl, be⟩
          have be := Lib.hid (bd.out.trans (be.mono bd.out.size))
          go_wp2_with fail
          refine (awake11 _ (HL.out.below be.out).lies).mono ?_
          rintro e wf ⟨rfl, bf⟩
          have bf := Lib.hid (be.out.trans (bf.mono be.out.size))
          go_wp2
          go_ret
          exact ⟨rfl, bf.out⟩
end Go.Proofs.YtobloagecjhhiaaDoor
