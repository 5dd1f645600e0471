/-
  The walk of spec.GeoHash, for twelve letters.
-/
import Derived.Test.YtobloagecjhhiaaDoorPathB
import Derived.Test.YtobloagecjhhiaaDoorCell
import Derived.Deep.RegionHeld
namespace Go.Proofs.YtobloagecjhhiaaDoor
open Go.RowKit Go.PlainAid Fl

/-- The letter of a value; the first i letters of a place's geohash. -/
def letter (k : Nat) : UInt8 := alph.data.getD k 0
def txt (x y : Nat) : Nat → ByteArray
  | 0 => ⟨#[]⟩
  | i + 1 => txt x y i ++ ⟨#[letter (kv x y i 5)]⟩

theorem ba_eq {s t : ByteArray} (h : s.data.toList = t.data.toList) : s = t := by
  obtain ⟨⟨a⟩⟩ := s; obtain ⟨⟨b⟩⟩ := t
  have : a = b := h
  rw [this]
theorem beyond_lon {s : St} (h : s.ev = true) (x y : Nat) : beyond s x y = gtB x (mid s.x0 s.x1) := by unfold beyond turnV midOf; rw [if_pos h, if_pos h]
theorem beyond_lat {s : St} (h : s.ev = false) (x y : Nat) : beyond s x y = gtB y (mid s.y0 s.y1) := by unfold beyond turnV midOf; rw [if_neg (by rw [h]; decide), if_neg (by rw [h]; decide)]

theorem letter_cut : ∀ k, k < 32 → alph.extract k (k + 1) = ⟨#[letter k]⟩ := by
  intro k hk
  have h : ((List.range 32).all fun k => (alph.extract k (k + 1)).data.toList == [letter k]) = true := by decide +kernel
  have h2 := List.all_eq_true.1 h k (List.mem_range.2 hk)
  exact ba_eq (beq_iff_eq.1 h2)

theorem txt_size (x y i : Nat) : (txt x y i).size = i := by
  induction i with
  | zero => rfl
  | succ i ih =>
    show (txt x y i ++ ⟨#[letter (kv x y i 5)]⟩).size = _
    rw [ByteArray.size_append, ih]; rfl

set_option maxRecDepth 100000 in
set_option maxHeartbeats 1000000 in
theorem hash29 (x y : Nat) (w : World) :
    Calls Tryd.prog 29 #[.float .f64 y, .float .f64 x, .int .i64 12] w fun e w' => ∃ S ok, e = .returned (.tuple #[.string S, .bool ok]) ∧ (ok = true → S = txt x y 12) ∧ Below w.heap.size w w' := by
  obtain ⟨B, hB⟩ : ∃ B, w.heap.size = B := ⟨_, rfl⟩
  have hsz : alph.size = 32 := rfl
  have hcut := Lib.hid letter_cut
  go_enter Tryd.func29, Tryd.ntmps29
  go_upto_region 4 with fail
  generalize hal : (ByteArray.mk #[48, 49, 50, 51, 52, 53, 54, 55, 56, 57, 98, 99, 100, 101, 102, 103, 104, 106, 107, 109, 110, 112, 113, 114, 115, 116, 117, 118, 119, 120, 121, 122]) = al
  have hal2 : alph = al := hal
  rw [hal2] at hsz hcut
  clear hal hal2
  go_loopw [10, 11] (fun s10 s11 wx => ∃ i : Nat, i ≤ 12 ∧ s11 = .int .i64 i ∧ s10 = .string (txt x y i) ∧ Arr wx B (path x y (5 * i)).x0 (path x y (5 * i)).x1 ∧ Arr wx (B + 1) (path x y (5 * i)).y0 (path x y (5 * i)).y1 ∧ Below B w wx) (fun _ s11 _ => 12 - (intOf s11).toNat)
  case atStart =>
    refine ⟨0, Nat.zero_le _, rfl, rfl, ⟨41, ?_⟩, ⟨41, ?_⟩, ((Below.refl _ _).alloc (by omega) _).alloc (by simp; omega) _⟩
    · show ((w.heap.push _).push _)[B]? = _
      rw [Array.getElem?_push, if_neg (by simp; omega), Array.getElem?_push, if_pos hB.symm]; rfl
    · show ((w.heap.push _).push _)[B + 1]? = _
      rw [Array.getElem?_push, if_pos (by simp; omega)]; rfl
  case round =>
    obtain ⟨i, hi, rfl, rfl, hx, hy, hb⟩ := hrel
    have HX := Lib.hid hx
    have HY := Lib.hid hy
    have HBW := Lib.hid hb
    clear hx hy hb
    have hts := txt_size x y i
    generalize htx : txt x y i = tx at *
    have HTX := Lib.hid htx
    clear htx
    by_cases hlt : i < 12
    · go_upto_region 8 with fail
      go_loopw [12, 13] (fun s12 s13 wx => ∃ j : Nat, j ≤ 5 ∧ s13 = .int .i64 j ∧ s12 = .int .i64 (kv x y i j : Nat) ∧ Arr wx B (path x y (5 * i + j)).x0 (path x y (5 * i + j)).x1 ∧ Arr wx (B + 1) (path x y (5 * i + j)).y0 (path x y (5 * i + j)).y1 ∧ Below B w wx) (fun _ s13 _ => 5 - (intOf s13).toNat)
      case atStart => exact ⟨0, by omega, rfl, rfl, HX.out, HY.out, HBW.out⟩
      case round =>
        obtain ⟨j, hj, rfl, rfl, hx, hy, hb⟩ := hrel
        have HG := Lib.hid (good_path x y (5 * i + j))
        have hev := path_ev x y (5 * i + j)
        have hstep : Hid (path x y (5 * i + j + 1) = half (path x y (5 * i + j)) (beyond (path x y (5 * i + j)) x y)) := Lib.hid rfl
        have hkv : Hid (kv x y i (j + 1) = 2 * kv x y i j + (beyond (path x y (5 * i + j)) x y).toNat) := Lib.hid rfl
        have hk32 := kv_lt x y i j
        have hk32b : kv x y i j < 32 := Nat.lt_of_lt_of_le hk32 (Nat.pow_le_pow_right (by decide) hj)
        clear hk32
        generalize hkk : kv x y i j = k at *
        have HKK := Lib.hid hkk
        clear hkk
        generalize hss : path x y (5 * i + j) = s at *
        have HSS := Lib.hid hss
        clear hss
        have HX2 := Lib.hid hx
        have HY2 := Lib.hid hy
        have HB2 := Lib.hid hb
        by_cases hj5 : j < 5
        · have x0 := hx.c0
          have x1 := hx.c1
          have y0 := hy.c0
          have y1 := hy.c1
          have fx0 := hx.fr 0
          have fx1 := hx.fr 1
          have fy0 := hy.fr 0
          have fy1 := hy.fr 1
          clear hx hy hb
          obtain ⟨s1, qs, qm, _⟩ := mid_law HG.out.x
          obtain ⟨t1, rs, rm, _⟩ := mid_law HG.out.y
          have ha := fun w => run_float_arith (P := Tryd.prog) w .add 22 .f64 _ _ _ qs
          have hd := fun w => run_float_arith (P := Tryd.prog) w .quo 22 .f64 _ _ _ qm
          have ha2 := fun w => run_float_arith (P := Tryd.prog) w .add 22 .f64 _ _ _ rs
          have hd2 := fun w => run_float_arith (P := Tryd.prog) w .quo 22 .f64 _ _ _ rm
          clear qs qm rs rm
          by_cases hpar : (5 * i + j) % 2 = 0
          · have HE : Hid (s.ev = true) := Lib.hid (by rw [hev]; exact decide_eq_true hpar)
            have hp : (5 * (i : Int) + j) % 2 = 0 := by omega
            have hgt := beyond_lon HE.out x y
            unfold gtB at hgt
            have HGT := Lib.hid hgt
            clear hev hpar hgt
            go_upto_region 13 with fail
            go_quiet (fail)
            cases he : (FloatKind.f64.format.order x (mid s.x0 s.x1) == some .eq) with
            | true =>
              go_wp2
              go_ret2
              refine ⟨_, _, rfl, (fun h => by cases h), ?_⟩
              rw [hB]; exact HB2.out.trans (Joins.below_draws _ _ _)
            | false =>
              cases hq : (FloatKind.f64.format.order x (mid s.x0 s.x1) == some .gt) with
              | true =>
                have e5 := hstep.out
                have e6 := hkv.out
                rw [HGT.out, hq] at e5 e6
                rw [half_lon HE.out] at e5
                have E5 := Lib.hid e5
                have E6 := Lib.hid e6
                clear e5 e6
                go_upto_region 18 with fail
                go_region
                go_wp2
                go_roundw
                case rel => exact ⟨j + 1, by omega, by go_num, by rw [E6.out]; exact congrArg (Value.int .i64) (by simp; omega), by rw [show 5 * i + (j + 1) = 5 * i + j + 1 by omega, E5.out]; exact (Arr.set0 (Arr.block HX2.out (by simp)) _).block rfl, by rw [show 5 * i + (j + 1) = 5 * i + j + 1 by omega, E5.out]; exact ((Arr.block HY2.out (by simp)).other _ _ (by simp)).block rfl, (HB2.out.trans (Joins.below_draws _ _ _)).setCell (by exact Nat.le_refl _) _⟩
                case measure => simp [intOf]; omega
              | false =>
                have e5 := hstep.out
                have e6 := hkv.out
                rw [HGT.out, hq] at e5 e6
                rw [half_lon HE.out] at e5
                have E5 := Lib.hid e5
                have E6 := Lib.hid e6
                clear e5 e6
                go_wp2
                go_roundw
                case rel => exact ⟨j + 1, by omega, by go_num, by rw [E6.out]; exact congrArg (Value.int .i64) (by simp; omega), by rw [show 5 * i + (j + 1) = 5 * i + j + 1 by omega, E5.out]; exact (Arr.set1 (Arr.block HX2.out (by simp)) _).block rfl, by rw [show 5 * i + (j + 1) = 5 * i + j + 1 by omega, E5.out]; exact ((Arr.block HY2.out (by simp)).other _ _ (by simp)).block rfl, (HB2.out.trans (Joins.below_draws _ _ _)).setCell (by exact Nat.le_refl _) _⟩
                case measure => simp [intOf]; omega
          · have HE : Hid (s.ev = false) := Lib.hid (by rw [hev]; exact decide_eq_false hpar)
            have hp : (5 * (i : Int) + j) % 2 = 1 := by omega
            have hgt := beyond_lat HE.out x y
            unfold gtB at hgt
            have HGT := Lib.hid hgt
            clear hev hpar hgt
            go_upto_region 13 with fail
            go_quiet (fail)
            cases he : (FloatKind.f64.format.order y (mid s.y0 s.y1) == some .eq) with
            | true =>
              go_wp2
              go_ret2
              refine ⟨_, _, rfl, (fun h => by cases h), ?_⟩
              rw [hB]; exact HB2.out.trans (Joins.below_draws _ _ _)
            | false =>
              cases hq : (FloatKind.f64.format.order y (mid s.y0 s.y1) == some .gt) with
              | true =>
                have e5 := hstep.out
                have e6 := hkv.out
                rw [HGT.out, hq] at e5 e6
                rw [half_lat HE.out] at e5
                have E5 := Lib.hid e5
                have E6 := Lib.hid e6
                clear e5 e6
                go_upto_region 18 with fail
                go_region
                go_wp2
                go_roundw
                case rel => exact ⟨j + 1, by omega, by go_num, by rw [E6.out]; exact congrArg (Value.int .i64) (by simp; omega), by rw [show 5 * i + (j + 1) = 5 * i + j + 1 by omega, E5.out]; exact ((Arr.block HX2.out (by simp)).other _ _ (by simp)).block rfl, by rw [show 5 * i + (j + 1) = 5 * i + j + 1 by omega, E5.out]; exact (Arr.set0 (Arr.block HY2.out (by simp)) _).block rfl, (HB2.out.trans (Joins.below_draws _ _ _)).setCell (by exact Nat.le_succ _) _⟩
                case measure => simp [intOf]; omega
              | false =>
                have e5 := hstep.out
                have e6 := hkv.out
                rw [HGT.out, hq] at e5 e6
                rw [half_lat HE.out] at e5
                have E5 := Lib.hid e5
                have E6 := Lib.hid e6
                clear e5 e6
                go_wp2
                go_roundw
                case rel => exact ⟨j + 1, by omega, by go_num, by rw [E6.out]; exact congrArg (Value.int .i64) (by simp; omega), by rw [show 5 * i + (j + 1) = 5 * i + j + 1 by omega, E5.out]; exact ((Arr.block HX2.out (by simp)).other _ _ (by simp)).block rfl, by rw [show 5 * i + (j + 1) = 5 * i + j + 1 by omega, E5.out]; exact (Arr.set1 (Arr.block HY2.out (by simp)) _).block rfl, (HB2.out.trans (Joins.below_draws _ _ _)).setCell (by exact Nat.le_succ _) _⟩
                case measure => simp [intOf]; omega
        · have hje : j = 5 := by omega
          subst hje
          have hlet := hcut.out k hk32b
          clear hx hy hb
          go_wp2
          go_roundw
          case rel => exact ⟨i + 1, by omega, by go_num, by show _ = Value.string (txt x y i ++ ⟨#[letter (kv x y i 5)]⟩); rw [HTX.out, HKK.out], by rw [show 5 * (i + 1) = 5 * i + 5 by omega, HSS.out]; exact HX2.out, by rw [show 5 * (i + 1) = 5 * i + 5 by omega, HSS.out]; exact HY2.out, HB2.out⟩
          case measure => simp [intOf]; omega
    · have hie : i = 12 := by omega
      subst hie
      go_wp2
      go_ret2
      refine ⟨_, _, rfl, (fun _ => HTX.out.symm), ?_⟩
      rw [hB]; exact HBW.out
end Go.Proofs.YtobloagecjhhiaaDoor
