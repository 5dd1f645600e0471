/-
  The walk of geo.DecodeGeoHash for texts whose letters all stand in the alphabet. Condition: the table of masks lies where the row lists it.
-/
import Derived.Test.YtobloagecjhhiaaDoorCell
import Derived.Deep.RegionHeld
namespace Go.Proofs.YtobloagecjhhiaaDoor
open Go.RowKit Go.PlainAid Fl

/-- The five masks. -/
structure Masks (w : World) : Prop where
  cells : ∀ j, j < 5 → w.cell? ⟨2, j, none⟩ = some (.int .u64 (16 / 2^j : Nat))
  many : 2 < w.heap.size

theorem bitu_all : ((List.range 32).all fun k => (List.range 5).all fun j => decide (bits .and .u64 ((k : Nat) : Int) ((16 / 2^j : Nat) : Int) = if k.testBit (4 - j) then ((16 / 2^j : Nat) : Int) else 0)) = true := by decide +kernel
theorem bitu_of (k j : Nat) (hk : k < 32) (hj : j < 5) : bits .and .u64 ((k : Nat) : Int) ((16 / 2^j : Nat) : Int) = if k.testBit (4 - j) then ((16 / 2^j : Nat) : Int) else 0 :=
  of_decide_eq_true (List.all_eq_true.1 (List.all_eq_true.1 bitu_all k (List.mem_range.2 hk)) j (List.mem_range.2 hj))
theorem byteAt_lt (g : ByteArray) (i : Nat) : byteAt g i < 256 := by
  unfold byteAt bt
  split
  · rw [Int.toNat_natCast]; exact UInt8.toNat_lt _
  · decide

theorem wrap_k (k : Nat) (hk : k < 32) : IntKind.u64.wrap (k : Int) = k := by
  simp [IntKind.wrap, IntKind.bits, IntKind.signed]; omega

set_option maxRecDepth 100000 in
set_option maxHeartbeats 1000000 in
theorem decode38 (g : ByteArray) (w : World) (hg : g.size ≤ 2147483647) (hv : ∀ i, i < g.size → 0 ≤ idx 32 (byteAt g i)) (hm : Masks w) :
    Calls Tryd.prog 38 #[.string g] w fun e w' => e = .returned (.tuple #[.float .f64 (mid (after (valAt g) g.size).y0 (after (valAt g) g.size).y1), .float .f64 (mid (after (valAt g) g.size).x0 (after (valAt g) g.size).x1)]) ∧ Below w.heap.size w w' := by
  obtain ⟨B, hB⟩ : ∃ B, w.heap.size = B := ⟨_, rfl⟩
  have HV := Lib.hid hv
  have HM := Lib.hid hm
  clear hv hm
  go_enter Tryd.func38, Tryd.ntmps38
  go_upto_region 5 with fail
  go_loopw [4, 7] (fun s4 s7 wx => ∃ (i : Nat) (st : St), i ≤ g.size ∧ s7 = .int .i64 i ∧ s4 = .bool st.ev ∧ st = after (valAt g) i ∧ Arr wx B st.y0 st.y1 ∧ Arr wx (B + 1) st.x0 st.x1 ∧ Below B w wx) (fun _ s7 _ => g.size - (intOf s7).toNat)
  case atStart =>
    refine ⟨0, St.start, Nat.zero_le _, rfl, rfl, rfl, ⟨22, ?_⟩, ⟨22, ?_⟩, ((Below.refl _ _).alloc (by omega) _).alloc (by simp; omega) _⟩
    · show ((w.heap.push _).push _)[B]? = _
      rw [Array.getElem?_push, if_neg (by simp; omega), Array.getElem?_push, if_pos hB.symm]; rfl
    · show ((w.heap.push _).push _)[B + 1]? = _
      rw [Array.getElem?_push, if_pos (by simp; omega)]; rfl
  case round =>
    obtain ⟨i, st, hi, rfl, rfl, hst, hy, hx, hb⟩ := hrel
    have HS := Lib.hid hst
    have HY := Lib.hid hy
    have HX := Lib.hid hx
    have HBW := Lib.hid hb
    clear hst hy hx hb
    by_cases hlt : i < g.size
    · have hget := fun hh : i < g.size => byte_get g i hh
      obtain ⟨c, hc⟩ : ∃ c, byteAt g i = c := ⟨_, rfl⟩
      have hc256 : c < 256 := by rw [← hc]; exact byteAt_lt g i
      rw [hc] at hget
      obtain ⟨k, hk, hik, hdk⟩ : ∃ k : Nat, k < 32 ∧ idx 32 c = k ∧ decT 32 c = k := by
        have h0 := HV.out i hlt
        rw [hc] at h0
        rcases idx_dec 32 c with ⟨h1, _⟩ | h1
        · omega
        · exact h1
      have HIK := Lib.hid hik
      have HDK := Lib.hid hdk
      have HC := Lib.hid hc
      clear hik hdk hc
      go_upto_region 7 with fail
      go_cut [8] (fun s8 wx => s8 = .int .u64 k ∧ Arr wx B st.y0 st.y1 ∧ Arr wx (B + 1) st.x0 st.x1 ∧ Below B w wx)
      case first =>
        go_region_with (go_at_call 49; refine (enc49 _).mono ?_; rintro e w2 ⟨b, rfl, h1, h2, h3⟩; have hcell := h2.cell c hc256; rw [HDK.out] at hcell)
        all_goals go_wp2_with fail
        all_goals go_meet
        all_goals
          have hsz := HBW.out.size
          exact ⟨congrArg (Value.int .u64) (wrap_k k hk), (Arr.block (w' := wr.drew) HY.out rfl).below h3, (Arr.block (w' := wr.drew) HX.out rfl).below h3, HBW.out.drew.trans (h3.mono (by show B ≤ wr.heap.size; omega))⟩
      case rest =>
        obtain ⟨rfl, hy, hx, hb⟩ := hcut
        have hgood := Lib.hid (by rw [HS.out]; exact good_after (valAt g) i : Good st)
        go_upto_region 9 with fail
        go_loopw [4, 9] (fun s4 s9 wx => ∃ j : Nat, j ≤ 5 ∧ s9 = .int .i64 j ∧ s4 = .bool (five k st j).ev ∧ Arr wx B (five k st j).y0 (five k st j).y1 ∧ Arr wx (B + 1) (five k st j).x0 (five k st j).x1 ∧ Below B w wx) (fun _ s9 _ => 5 - (intOf s9).toNat)
        case atStart => exact ⟨0, by omega, rfl, rfl, hy, hx, hb⟩
        case round =>
          clear hy hx hb
          obtain ⟨j, hj, rfl, rfl, hy, hx, hb⟩ := hrel
          have HGF := Lib.hid (good_five hgood.out k j)
          have hstep : Hid (five k st (j + 1) = half (five k st j) (k.testBit (4 - j))) := Lib.hid rfl
          generalize hsj : five k st j = sj at *
          have HSJ := Lib.hid hsj
          clear hsj
          have HY2 := Lib.hid hy
          have HX2 := Lib.hid hx
          have HB2 := Lib.hid hb
          by_cases hj5 : j < 5
          · obtain ⟨hpos, hle, _⟩ := bv_facts j hj5
            have hz := bitu_of k j hk hj5
            have hmask := HM.out.cells j hj5
            rw [← hb.cell (p := ⟨2, j, none⟩) (by show 2 < B; have := HM.out.many; omega)] at hmask
            generalize 16 / 2^j = bv at *
            have y0 := hy.c0
            have y1 := hy.c1
            have x0 := hx.c0
            have x1 := hx.c1
            have fy0 := hy.fr 0
            have fx0 := hx.fr 0
            have fy1 := hy.fr 1
            have fx1 := hx.fr 1
            clear hy hx hb
            obtain ⟨s, qs, qm, _⟩ := mid_law HGF.out.x
            obtain ⟨t, rs, rm, _⟩ := mid_law HGF.out.y
            have ha := fun w => run_float_arith (P := Tryd.prog) w .add 22 .f64 _ _ _ qs
            have hd := fun w => run_float_arith (P := Tryd.prog) w .quo 22 .f64 _ _ _ qm
            have ha2 := fun w => run_float_arith (P := Tryd.prog) w .add 22 .f64 _ _ _ rs
            have hd2 := fun w => run_float_arith (P := Tryd.prog) w .quo 22 .f64 _ _ _ rm
            clear qs qm rs rm
            cases hev : sj.ev with
            | true =>
              have HE := Lib.hid hev
              clear hev
              cases hbit : k.testBit (4 - j) with
              | true =>
                have e5 := hstep.out
                rw [half_lon HE.out, hbit] at e5
                have E5 := Lib.hid e5
                clear e5
                rw [hbit] at hz
                rw [if_pos rfl] at hz
                clear hbit
                go_upto_region 13 with fail
                go_region
                go_wp2
                go_roundw
                case rel => exact ⟨j + 1, by omega, by go_num, by rw [E5.out], by rw [E5.out]; exact (HY2.out.other _ _ (by simp)).block rfl, by rw [E5.out]; exact (HX2.out.set0 _).block rfl, (HB2.out.setCell (by exact Nat.le_succ _) _).drew⟩
                case measure => simp [intOf]; omega
              | false =>
                have e5 := hstep.out
                rw [half_lon HE.out, hbit] at e5
                have E5 := Lib.hid e5
                clear e5
                rw [hbit] at hz
                rw [if_neg (by decide)] at hz
                clear hbit
                go_upto_region 14 with fail
                go_region
                go_wp2
                go_roundw
                case rel => exact ⟨j + 1, by omega, by go_num, by rw [E5.out], by rw [E5.out]; exact (HY2.out.other _ _ (by simp)).block rfl, by rw [E5.out]; exact (HX2.out.set1 _).block rfl, (HB2.out.setCell (by exact Nat.le_succ _) _).drew⟩
                case measure => simp [intOf]; omega
            | false =>
              have HE := Lib.hid hev
              clear hev
              cases hbit : k.testBit (4 - j) with
              | true =>
                have e5 := hstep.out
                rw [half_lat HE.out, hbit] at e5
                have E5 := Lib.hid e5
                clear e5
                rw [hbit] at hz
                rw [if_pos rfl] at hz
                clear hbit
                go_upto_region 16 with fail
                go_region
                go_wp2
                go_roundw
                case rel => exact ⟨j + 1, by omega, by go_num, by rw [E5.out], by rw [E5.out]; exact (HY2.out.set0 _).block rfl, by rw [E5.out]; exact (HX2.out.other _ _ (by simp)).block rfl, (HB2.out.setCell (by exact Nat.le_refl _) _).drew⟩
                case measure => simp [intOf]; omega
              | false =>
                have e5 := hstep.out
                rw [half_lat HE.out, hbit] at e5
                have E5 := Lib.hid e5
                clear e5
                rw [hbit] at hz
                rw [if_neg (by decide)] at hz
                clear hbit
                go_upto_region 17 with fail
                go_region
                go_wp2
                go_roundw
                case rel => exact ⟨j + 1, by omega, by go_num, by rw [E5.out], by rw [E5.out]; exact (HY2.out.set1 _).block rfl, by rw [E5.out]; exact (HX2.out.other _ _ (by simp)).block rfl, (HB2.out.setCell (by exact Nat.le_refl _) _).drew⟩
                case measure => simp [intOf]; omega
          · have hje : j = 5 := by omega
            subst hje
            clear hy hx hb
            go_wp2
            go_roundw
            case rel =>
              have hvi : valAt g i = k := by unfold valAt; rw [HC.out, HIK.out]; rfl
              refine ⟨i + 1, sj, by omega, by go_num, rfl, ?_, HY2.out, HX2.out, HB2.out⟩
              show sj = five (valAt g i) (after (valAt g) i) 5
              rw [hvi, ← HS.out, HSJ.out]
            case measure => simp [intOf]; omega
    · have hie : i = g.size := by omega
      subst hie
      have hgood : Good st := by rw [HS.out]; exact good_after (valAt g) g.size
      have y0 := HY.out.c0
      have y1 := HY.out.c1
      have x0 := HX.out.c0
      have x1 := HX.out.c1
      obtain ⟨s, qs, qm, _⟩ := mid_law hgood.x
      obtain ⟨t, rs, rm, _⟩ := mid_law hgood.y
      have ha := fun w => run_float_arith (P := Tryd.prog) w .add 22 .f64 _ _ _ qs
      have hd := fun w => run_float_arith (P := Tryd.prog) w .quo 22 .f64 _ _ _ qm
      have ha2 := fun w => run_float_arith (P := Tryd.prog) w .add 22 .f64 _ _ _ rs
      have hd2 := fun w => run_float_arith (P := Tryd.prog) w .quo 22 .f64 _ _ _ rm
      clear qs qm rs rm hgood
      go_upto_region 19 with fail
      go_quiet (fail)
      go_wp2
      go_ret2
      rw [← HS.out, hB]
      exact ⟨rfl, HBW.out.trans (Joins.below_draws _ _ _)⟩
end Go.Proofs.YtobloagecjhhiaaDoor
