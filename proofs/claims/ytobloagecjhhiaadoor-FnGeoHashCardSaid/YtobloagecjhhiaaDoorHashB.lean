/-
  The walk of geo.EncodeGeoHash. Condition: the table of masks lies where the row lists it.
-/
import Derived.Test.YtobloagecjhhiaaDoorHash
import Derived.Test.YtobloagecjhhiaaDoorDecode
namespace Go.Proofs.YtobloagecjhhiaaDoor
open Go.RowKit Go.PlainAid Fl

def strSize : Value → Nat
  | .string s => s.size
  | _ => 0

theorem or_all : ((List.range 5).all fun j => (List.range (2^j)).all fun m => decide (bits .or .u64 ((m * 2^(5 - j) : Nat) : Int) ((16 / 2^j : Nat) : Int) = (((2 * m + 1) * 2^(5 - (j + 1)) : Nat) : Int))) = true := by decide +kernel
theorem or_of (j m : Nat) (hj : j < 5) (hm : m < 2^j) : bits .or .u64 ((m * 2^(5 - j) : Nat) : Int) ((16 / 2^j : Nat) : Int) = (((2 * m + 1) * 2^(5 - (j + 1)) : Nat) : Int) :=
  of_decide_eq_true (List.all_eq_true.1 (List.all_eq_true.1 or_all j (List.mem_range.2 hj)) m (List.mem_range.2 hm))

theorem utf_all : ((List.range 32).all fun k => (Utf8.encode ((lt k : Nat) : Int)).data.toList == [letter k]) = true := by decide +kernel
theorem conv_letter (k : Nat) (hk : k < 32) (w : World) : (convert 5 9 (.int .u8 ((lt k : Nat) : Int))).run Tryd.prog w = .ok (.string ⟨#[letter k]⟩) w := by
  have e : (convert 5 9 (.int .u8 ((lt k : Nat) : Int))).run Tryd.prog w = (Conv.intToString ((lt k : Nat) : Int)).run Tryd.prog w := by
    simp [convert, run_underlying Tryd.underlying5, run_underlying Tryd.underlying9]
  have h : Utf8.encode ((lt k : Nat) : Int) = ⟨#[letter k]⟩ := ba_eq (beq_iff_eq.1 (List.all_eq_true.1 utf_all k (List.mem_range.2 hk)))
  rw [e]
  unfold Conv.intToString
  rw [h]
  rfl

theorem sh_eq (m j : Nat) (hj : j < 5) : m * 2^(5 - j) = (2 * m + 0) * 2^(5 - (j + 1)) := by
  have : j = 0 ∨ j = 1 ∨ j = 2 ∨ j = 3 ∨ j = 4 := by omega
  rcases this with h | h | h | h | h <;> (subst h; omega)
theorem last_lt (x y i c : Nat) (h : c = kv x y i (4 + 1) * 2^(5 - (4 + 1))) : c < 32 := by
  have h2 := kv_lt x y i 5
  have h3 : 2^(5 - (4 + 1)) = 1 := rfl
  rw [h3, Nat.mul_one] at h
  have h4 : (2:Nat)^5 = 32 := rfl
  rw [h4] at h2
  rw [h]; exact h2

set_option maxRecDepth 100000 in
set_option maxHeartbeats 1000000 in
theorem encode43 (x y : Nat) (w : World) (hm : Masks w) :
    Calls Tryd.prog 43 #[.float .f64 y, .float .f64 x] w fun e w' => e = .returned (.string (txt x y 12)) ∧ Below w.heap.size w w' := by
  obtain ⟨B, hB⟩ : ∃ B, w.heap.size = B := ⟨_, rfl⟩
  have HM := Lib.hid hm
  clear hm
  go_enter Tryd.func43, Tryd.ntmps43
  go_upto_region 7 with fail
  go_loopw [5, 9, 10, 11] (fun s5 s9 s10 s11 wx => ∃ i j : Nat, i ≤ 12 ∧ j < 5 ∧ (i = 12 → j = 0) ∧ s5 = .bool (path x y (5 * i + j)).ev ∧ s9 = .int .u64 (kv x y i j * 2^(5 - j) : Nat) ∧ s10 = .int .u64 j ∧ s11 = .string (txt x y i) ∧
      Arr wx B (path x y (5 * i + j)).y0 (path x y (5 * i + j)).y1 ∧ Arr wx (B + 1) (path x y (5 * i + j)).x0 (path x y (5 * i + j)).x1 ∧ Below B w wx) (fun _ _ s10 s11 _ => 5 * (12 - strSize s11) - (intOf s10).toNat)
  case atStart =>
    refine ⟨0, 0, by omega, by omega, by omega, rfl, rfl, rfl, rfl, ⟨22, ?_⟩, ⟨22, ?_⟩, ((Below.refl _ _).alloc (by omega) _).alloc (by simp; omega) _⟩
    · show ((w.heap.push _).push _)[B]? = _
      rw [Array.getElem?_push, if_neg (by simp; omega), Array.getElem?_push, if_pos hB.symm]; rfl
    · show ((w.heap.push _).push _)[B + 1]? = _
      rw [Array.getElem?_push, if_pos (by simp; omega)]; rfl
  case round =>
    obtain ⟨i, j, hi, hj, hij, rfl, rfl, rfl, rfl, hy, hx, hb⟩ := hrel
    have hts := txt_size x y i
    generalize htx : txt x y i = tx at *
    have HTX := Lib.hid htx
    have HIJ := Lib.hid hij
    clear htx hij
    have HY2 := Lib.hid hy
    have HX2 := Lib.hid hx
    have HB2 := Lib.hid hb
    by_cases hlt : i < 12
    · have HG := Lib.hid (good_path x y (5 * i + j))
      have hstep : Hid (path x y (5 * i + j + 1) = half (path x y (5 * i + j)) (beyond (path x y (5 * i + j)) x y)) := Lib.hid rfl
      have hkv : Hid (kv x y i (j + 1) = 2 * kv x y i j + (beyond (path x y (5 * i + j)) x y).toNat) := Lib.hid rfl
      have hor := or_of j (kv x y i j) hj (kv_lt x y i j)
      have hsh : Hid (kv x y i j * 2^(5 - j) = (2 * kv x y i j + 0) * 2^(5 - (j + 1))) := Lib.hid (sh_eq _ j hj)
      have hmask := HM.out.cells j hj
      rw [← hb.cell (p := ⟨2, j, none⟩) (by show 2 < B; have := HM.out.many; omega)] at hmask
      generalize hss : path x y (5 * i + j) = s at *
      have HSS := Lib.hid hss
      clear hss
      have x0 := hx.c0
      have x1 := hx.c1
      have y0 := hy.c0
      have y1 := hy.c1
      have fx0 := hx.fr 0
      have fx1 := hx.fr 1
      have fy0 := hy.fr 0
      have fy1 := hy.fr 1
      clear hx hy hb
      obtain ⟨s1, qs, qm, _⟩ := mid_law HG.out.x
      obtain ⟨t1, rs, rm, _⟩ := mid_law HG.out.y
      have ha := fun w => run_float_arith (P := Tryd.prog) w .add 22 .f64 _ _ _ qs
      have hd := fun w => run_float_arith (P := Tryd.prog) w .quo 22 .f64 _ _ _ qm
      have ha2 := fun w => run_float_arith (P := Tryd.prog) w .add 22 .f64 _ _ _ rs
      have hd2 := fun w => run_float_arith (P := Tryd.prog) w .quo 22 .f64 _ _ _ rm
      clear qs qm rs rm
      generalize 16 / 2^j = bv at *
      generalize kv x y i j * 2^(5 - j) = ch at *
      cases hev : s.ev with
      | true =>
        have HE := Lib.hid hev
        clear hev
        have hgt := beyond_lon HE.out x y
        unfold gtB at hgt
        have HGT := Lib.hid hgt
        clear hgt
        cases hq : (FloatKind.f64.format.order x (mid s.x0 s.x1) == some .gt) with
        | true =>
          have e5 := hstep.out
          have e6 := hkv.out
          rw [HGT.out, hq] at e5 e6
          rw [half_lon HE.out] at e5
          have E5 := Lib.hid e5
          have E6 := Lib.hid (show (2 * kv x y i j + 1) * 2^(5 - (j + 1)) = kv x y i (j + 1) * 2^(5 - (j + 1)) by rw [e6]; rfl)
          clear e5 e6
          generalize (2 * kv x y i j + 1) * 2^(5 - (j + 1)) = ch1 at *
          go_upto_region 9 with fail
          go_quiet (fail)
          go_upto_region 20 with fail
          by_cases h4 : j < 4
          · go_wp2
            go_roundw
            case rel => exact ⟨i, j + 1, by omega, by omega, by omega, by rw [show 5 * i + (j + 1) = 5 * i + j + 1 by omega, E5.out], by rw [← E6.out], by go_num, by rw [HTX.out], by rw [show 5 * i + (j + 1) = 5 * i + j + 1 by omega, E5.out]; exact ((Arr.block HY2.out (by simp)).other _ _ (by simp)).block rfl, by rw [show 5 * i + (j + 1) = 5 * i + j + 1 by omega, E5.out]; exact (Arr.set0 (Arr.block HX2.out (by simp)) _).block rfl, (HB2.out.trans (Joins.below_draws _ _ _)).setCell (by exact Nat.le_succ _) _⟩
            case measure => simp [intOf, strSize, hts]; omega
          · have hj4 : j = 4 := by omega
            subst hj4
            have hch : ch1 < 32 := last_lt x y i ch1 E6.out
            clear hor hmask ha hd ha2 hd2
            go_wp2_with fail
            refine (enc49 _).mono ?_
            rintro e w2 ⟨b, rfl, g1, g2, g3⟩
            have hstr := g2.str
            have hal : alph.size = 32 := rfl
            have hbt := letters_bt ch1
            have hcl := fun w => conv_letter ch1 hch w
            generalize alph = al at hstr hal hbt
            generalize hlc : letter ch1 = lc at *
            have HLC := Lib.hid hlc
            clear hlc
            generalize lt ch1 = ln at *
            have hB3 := (HB2.out.trans (Joins.below_draws _ _ nq)).setCell (p := ⟨B + 1, 0, none⟩) (by exact Nat.le_succ _) (.float .f64 (mid s.x0 s.x1))
            have HB3 := Lib.hid hB3
            have G3 := Lib.hid g3
            clear hB3 g3
            go_wp2
            go_roundw
            case rel => exact ⟨i + 1, 0, by omega, by omega, fun _ => rfl, by rw [show 5 * (i + 1) + 0 = 5 * i + 4 + 1 by omega, E5.out], rfl, rfl, by show _ = Value.string (txt x y i ++ ⟨#[letter (kv x y i 5)]⟩); rw [HTX.out, show kv x y i 5 = ch1 from (Nat.mul_one _).symm.trans E6.out.symm, HLC.out], by rw [show 5 * (i + 1) + 0 = 5 * i + 4 + 1 by omega, E5.out]; exact Arr.below (((Arr.block HY2.out (by simp)).other _ _ (by simp)).block rfl) G3.out, by rw [show 5 * (i + 1) + 0 = 5 * i + 4 + 1 by omega, E5.out]; exact Arr.below ((Arr.set0 (Arr.block HX2.out (by simp)) _).block rfl) G3.out, HB3.out.trans (G3.out.mono (by have := HB3.out.size; omega))⟩
            case measure =>
              have hl1 : (ByteArray.mk #[lc]).size = 1 := rfl
              show 5 * (12 - (tx ++ ByteArray.mk #[lc]).size) - 0 < 5 * (12 - tx.size) - ((4 : Nat) : Int).toNat
              rw [ByteArray.size_append, hl1, hts]
              omega
        | false =>
          have e5 := hstep.out
          have e6 := hkv.out
          rw [HGT.out, hq] at e5 e6
          rw [half_lon HE.out] at e5
          have E5 := Lib.hid e5
          have E6 := Lib.hid (show (2 * kv x y i j + 0) * 2^(5 - (j + 1)) = kv x y i (j + 1) * 2^(5 - (j + 1)) by rw [e6]; rfl)
          clear e5 e6
          rw [← hsh.out] at E6
          obtain ⟨ch1, hch1⟩ : ∃ c, c = ch := ⟨_, rfl⟩
          subst hch1
          go_upto_region 9 with fail
          go_quiet (fail)
          go_upto_region 20 with fail
          by_cases h4 : j < 4
          · go_wp2
            go_roundw
            case rel => exact ⟨i, j + 1, by omega, by omega, by omega, by rw [show 5 * i + (j + 1) = 5 * i + j + 1 by omega, E5.out], by rw [← E6.out], by go_num, by rw [HTX.out], by rw [show 5 * i + (j + 1) = 5 * i + j + 1 by omega, E5.out]; exact ((Arr.block HY2.out (by simp)).other _ _ (by simp)).block rfl, by rw [show 5 * i + (j + 1) = 5 * i + j + 1 by omega, E5.out]; exact (Arr.set1 (Arr.block HX2.out (by simp)) _).block rfl, (HB2.out.trans (Joins.below_draws _ _ _)).setCell (by exact Nat.le_succ _) _⟩
            case measure => simp [intOf, strSize, hts]; omega
          · have hj4 : j = 4 := by omega
            subst hj4
            have hch : ch1 < 32 := last_lt x y i ch1 E6.out
            clear hor hmask ha hd ha2 hd2
            go_wp2_with fail
            refine (enc49 _).mono ?_
            rintro e w2 ⟨b, rfl, g1, g2, g3⟩
            have hstr := g2.str
            have hal : alph.size = 32 := rfl
            have hbt := letters_bt ch1
            have hcl := fun w => conv_letter ch1 hch w
            generalize alph = al at hstr hal hbt
            generalize hlc : letter ch1 = lc at *
            have HLC := Lib.hid hlc
            clear hlc
            generalize lt ch1 = ln at *
            have hB3 := (HB2.out.trans (Joins.below_draws _ _ nq)).setCell (p := ⟨B + 1, 1, none⟩) (by exact Nat.le_succ _) (.float .f64 (mid s.x0 s.x1))
            have HB3 := Lib.hid hB3
            have G3 := Lib.hid g3
            clear hB3 g3
            go_wp2
            go_roundw
            case rel => exact ⟨i + 1, 0, by omega, by omega, fun _ => rfl, by rw [show 5 * (i + 1) + 0 = 5 * i + 4 + 1 by omega, E5.out], rfl, rfl, by show _ = Value.string (txt x y i ++ ⟨#[letter (kv x y i 5)]⟩); rw [HTX.out, show kv x y i 5 = ch1 from (Nat.mul_one _).symm.trans E6.out.symm, HLC.out], by rw [show 5 * (i + 1) + 0 = 5 * i + 4 + 1 by omega, E5.out]; exact Arr.below (((Arr.block HY2.out (by simp)).other _ _ (by simp)).block rfl) G3.out, by rw [show 5 * (i + 1) + 0 = 5 * i + 4 + 1 by omega, E5.out]; exact Arr.below ((Arr.set1 (Arr.block HX2.out (by simp)) _).block rfl) G3.out, HB3.out.trans (G3.out.mono (by have := HB3.out.size; omega))⟩
            case measure =>
              have hl1 : (ByteArray.mk #[lc]).size = 1 := rfl
              show 5 * (12 - (tx ++ ByteArray.mk #[lc]).size) - 0 < 5 * (12 - tx.size) - ((4 : Nat) : Int).toNat
              rw [ByteArray.size_append, hl1, hts]
              omega
      | false =>
        have HE := Lib.hid hev
        clear hev
        have hgt := beyond_lat HE.out x y
        unfold gtB at hgt
        have HGT := Lib.hid hgt
        clear hgt
        cases hq : (FloatKind.f64.format.order y (mid s.y0 s.y1) == some .gt) with
        | true =>
          have e5 := hstep.out
          have e6 := hkv.out
          rw [HGT.out, hq] at e5 e6
          rw [half_lat HE.out] at e5
          have E5 := Lib.hid e5
          have E6 := Lib.hid (show (2 * kv x y i j + 1) * 2^(5 - (j + 1)) = kv x y i (j + 1) * 2^(5 - (j + 1)) by rw [e6]; rfl)
          clear e5 e6
          generalize (2 * kv x y i j + 1) * 2^(5 - (j + 1)) = ch1 at *
          go_upto_region 14 with fail
          go_quiet (fail)
          go_upto_region 20 with fail
          by_cases h4 : j < 4
          · go_wp2
            go_roundw
            case rel => exact ⟨i, j + 1, by omega, by omega, by omega, by rw [show 5 * i + (j + 1) = 5 * i + j + 1 by omega, E5.out], by rw [← E6.out], by go_num, by rw [HTX.out], by rw [show 5 * i + (j + 1) = 5 * i + j + 1 by omega, E5.out]; exact (Arr.set0 (Arr.block HY2.out (by simp)) _).block rfl, by rw [show 5 * i + (j + 1) = 5 * i + j + 1 by omega, E5.out]; exact ((Arr.block HX2.out (by simp)).other _ _ (by simp)).block rfl, (HB2.out.trans (Joins.below_draws _ _ _)).setCell (by exact Nat.le_refl _) _⟩
            case measure => simp [intOf, strSize, hts]; omega
          · have hj4 : j = 4 := by omega
            subst hj4
            have hch : ch1 < 32 := last_lt x y i ch1 E6.out
            clear hor hmask ha hd ha2 hd2
            go_wp2_with fail
            refine (enc49 _).mono ?_
            rintro e w2 ⟨b, rfl, g1, g2, g3⟩
            have hstr := g2.str
            have hal : alph.size = 32 := rfl
            have hbt := letters_bt ch1
            have hcl := fun w => conv_letter ch1 hch w
            generalize alph = al at hstr hal hbt
            generalize hlc : letter ch1 = lc at *
            have HLC := Lib.hid hlc
            clear hlc
            generalize lt ch1 = ln at *
            have hB3 := (HB2.out.trans (Joins.below_draws _ _ nq)).setCell (p := ⟨B, 0, none⟩) (by exact Nat.le_refl _) (.float .f64 (mid s.y0 s.y1))
            have HB3 := Lib.hid hB3
            have G3 := Lib.hid g3
            clear hB3 g3
            go_wp2
            go_roundw
            case rel => exact ⟨i + 1, 0, by omega, by omega, fun _ => rfl, by rw [show 5 * (i + 1) + 0 = 5 * i + 4 + 1 by omega, E5.out], rfl, rfl, by show _ = Value.string (txt x y i ++ ⟨#[letter (kv x y i 5)]⟩); rw [HTX.out, show kv x y i 5 = ch1 from (Nat.mul_one _).symm.trans E6.out.symm, HLC.out], by rw [show 5 * (i + 1) + 0 = 5 * i + 4 + 1 by omega, E5.out]; exact Arr.below ((Arr.set0 (Arr.block HY2.out (by simp)) _).block rfl) G3.out, by rw [show 5 * (i + 1) + 0 = 5 * i + 4 + 1 by omega, E5.out]; exact Arr.below (((Arr.block HX2.out (by simp)).other _ _ (by simp)).block rfl) G3.out, HB3.out.trans (G3.out.mono (by have := HB3.out.size; omega))⟩
            case measure =>
              have hl1 : (ByteArray.mk #[lc]).size = 1 := rfl
              show 5 * (12 - (tx ++ ByteArray.mk #[lc]).size) - 0 < 5 * (12 - tx.size) - ((4 : Nat) : Int).toNat
              rw [ByteArray.size_append, hl1, hts]
              omega
        | false =>
          have e5 := hstep.out
          have e6 := hkv.out
          rw [HGT.out, hq] at e5 e6
          rw [half_lat HE.out] at e5
          have E5 := Lib.hid e5
          have E6 := Lib.hid (show (2 * kv x y i j + 0) * 2^(5 - (j + 1)) = kv x y i (j + 1) * 2^(5 - (j + 1)) by rw [e6]; rfl)
          clear e5 e6
          rw [← hsh.out] at E6
          obtain ⟨ch1, hch1⟩ : ∃ c, c = ch := ⟨_, rfl⟩
          subst hch1
          go_upto_region 14 with fail
          go_quiet (fail)
          go_upto_region 20 with fail
          by_cases h4 : j < 4
          · go_wp2
            go_roundw
            case rel => exact ⟨i, j + 1, by omega, by omega, by omega, by rw [show 5 * i + (j + 1) = 5 * i + j + 1 by omega, E5.out], by rw [← E6.out], by go_num, by rw [HTX.out], by rw [show 5 * i + (j + 1) = 5 * i + j + 1 by omega, E5.out]; exact (Arr.set1 (Arr.block HY2.out (by simp)) _).block rfl, by rw [show 5 * i + (j + 1) = 5 * i + j + 1 by omega, E5.out]; exact ((Arr.block HX2.out (by simp)).other _ _ (by simp)).block rfl, (HB2.out.trans (Joins.below_draws _ _ _)).setCell (by exact Nat.le_refl _) _⟩
            case measure => simp [intOf, strSize, hts]; omega
          · have hj4 : j = 4 := by omega
            subst hj4
            have hch : ch1 < 32 := last_lt x y i ch1 E6.out
            clear hor hmask ha hd ha2 hd2
            go_wp2_with fail
            refine (enc49 _).mono ?_
            rintro e w2 ⟨b, rfl, g1, g2, g3⟩
            have hstr := g2.str
            have hal : alph.size = 32 := rfl
            have hbt := letters_bt ch1
            have hcl := fun w => conv_letter ch1 hch w
            generalize alph = al at hstr hal hbt
            generalize hlc : letter ch1 = lc at *
            have HLC := Lib.hid hlc
            clear hlc
            generalize lt ch1 = ln at *
            have hB3 := (HB2.out.trans (Joins.below_draws _ _ nq)).setCell (p := ⟨B, 1, none⟩) (by exact Nat.le_refl _) (.float .f64 (mid s.y0 s.y1))
            have HB3 := Lib.hid hB3
            have G3 := Lib.hid g3
            clear hB3 g3
            go_wp2
            go_roundw
            case rel => exact ⟨i + 1, 0, by omega, by omega, fun _ => rfl, by rw [show 5 * (i + 1) + 0 = 5 * i + 4 + 1 by omega, E5.out], rfl, rfl, by show _ = Value.string (txt x y i ++ ⟨#[letter (kv x y i 5)]⟩); rw [HTX.out, show kv x y i 5 = ch1 from (Nat.mul_one _).symm.trans E6.out.symm, HLC.out], by rw [show 5 * (i + 1) + 0 = 5 * i + 4 + 1 by omega, E5.out]; exact Arr.below ((Arr.set1 (Arr.block HY2.out (by simp)) _).block rfl) G3.out, by rw [show 5 * (i + 1) + 0 = 5 * i + 4 + 1 by omega, E5.out]; exact Arr.below (((Arr.block HX2.out (by simp)).other _ _ (by simp)).block rfl) G3.out, HB3.out.trans (G3.out.mono (by have := HB3.out.size; omega))⟩
            case measure =>
              have hl1 : (ByteArray.mk #[lc]).size = 1 := rfl
              show 5 * (12 - (tx ++ ByteArray.mk #[lc]).size) - 0 < 5 * (12 - tx.size) - ((4 : Nat) : Int).toNat
              rw [ByteArray.size_append, hl1, hts]
              omega
    · have hie : i = 12 := by omega
      subst hie
      clear hy hx hb
      go_wp2
      go_ret
      exact ⟨congrArg (fun z => Ending.returned (.string z)) HTX.out.symm, HB2.out⟩
end Go.Proofs.YtobloagecjhhiaaDoor
