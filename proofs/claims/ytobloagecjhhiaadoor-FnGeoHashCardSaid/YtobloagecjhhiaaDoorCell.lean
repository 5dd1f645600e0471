/-
  The walk of spec.GeoCell, for every text.
-/
import Derived.Test.YtobloagecjhhiaaDoorGeo
import Derived.Lib.SmallJoins
namespace Go.Proofs.YtobloagecjhhiaaDoor
open Go.RowKit Go.PlainAid Fl

/-- A block of two doubles. -/
def Arr (w : World) (b a0 a1 : Nat) : Prop := ∃ t, w.heap[b]? = some (.cells #[.float .f64 a0, .float .f64 a1] t (0, 0))

theorem Arr.c0 {w : World} {b a0 a1 : Nat} (h : Arr w b a0 a1) : w.cell? ⟨b, 0, none⟩ = some (.float .f64 a0) := by
  obtain ⟨t, h⟩ := h
  unfold World.cell?; rw [h]; rfl
theorem Arr.c1 {w : World} {b a0 a1 : Nat} (h : Arr w b a0 a1) : w.cell? ⟨b, 1, none⟩ = some (.float .f64 a1) := by
  obtain ⟨t, h⟩ := h
  unfold World.cell?; rw [h]; rfl
theorem Arr.fr {w : World} {b a0 a1 : Nat} (h : Arr w b a0 a1) (i : Nat) : w.frozen? ⟨b, i, none⟩ = false := by
  obtain ⟨t, h⟩ := h
  unfold World.frozen?; rw [h]; simp
theorem Arr.set0 {w : World} {b a0 a1 : Nat} (h : Arr w b a0 a1) (m : Nat) : Arr (w.setCell ⟨b, 0, none⟩ (.float .f64 m)) b m a1 := by
  obtain ⟨t, h⟩ := h
  exact ⟨t, heap_setCell_same w b 0 _ t _ h⟩
theorem Arr.set1 {w : World} {b a0 a1 : Nat} (h : Arr w b a0 a1) (m : Nat) : Arr (w.setCell ⟨b, 1, none⟩ (.float .f64 m)) b a0 m := by
  obtain ⟨t, h⟩ := h
  exact ⟨t, heap_setCell_same w b 1 _ t _ h⟩
theorem Arr.block {w w' : World} {b a0 a1 : Nat} (h : Arr w b a0 a1) (e : w'.heap[b]? = w.heap[b]?) : Arr w' b a0 a1 := by
  obtain ⟨t, h⟩ := h
  exact ⟨t, by rw [e]; exact h⟩
theorem Arr.other {w : World} {b a0 a1 : Nat} (h : Arr w b a0 a1) (p : Addr) (v : Value) (hp : b ≠ p.block) : Arr (w.setCell p v) b a0 a1 := h.block (heap_setCell_other w p b v hp)
theorem Arr.below {w w' : World} {b a0 a1 : Nat} (h : Arr w b a0 a1) (hb : Below w.heap.size w w') : Arr w' b a0 a1 := by
  refine h.block (hb.block b ?_)
  obtain ⟨t, h⟩ := h
  exact (Array.getElem?_eq_some_iff.1 h).1

theorem results22 (tmps : Array Value) (w : World) (B0 B1 a0 a1 b0 b1 : Nat) (h2 : tmps.getD 2 undef = .pointer (some ⟨B0, 0, none⟩)) (h3 : tmps.getD 3 undef = .pointer (some ⟨B1, 0, none⟩)) (A0 : Arr w B0 a0 a1) (A1 : Arr w B1 b0 b1) :
    (results Tryd.f22 tmps).run Tryd.prog w = .ok (.tuple #[.agg #[.float .f64 a0, .float .f64 a1], .agg #[.float .f64 b0, .float .f64 b1], tmps.getD 4 undef]) w := by
  obtain ⟨t0, g0⟩ := A0
  obtain ⟨t1, g1⟩ := A1
  have l0 := run_loadVar_row w B0 t0 41 _ _ _ g0 Tryd.underlying41 rfl (by kernel_rfl)
  have l1 := run_loadVar_row w B1 t1 41 _ _ _ g1 Tryd.underlying41 rfl (by kernel_rfl)
  have h2' : tmps[2]?.getD undef = .pointer (some ⟨B0, 0, none⟩) := by simpa using h2
  have h3' : tmps[3]?.getD undef = .pointer (some ⟨B1, 0, none⟩) := by simpa using h3
  simp [results, h2', h3', asAddr, l0, l1, Sem.run_bind, Result.andThen]

/-- The byte of letter i; its value, if it has one. -/
def byteAt (g : ByteArray) (i : Nat) : Nat := (bt g i).toNat
def valAt (g : ByteArray) (i : Nat) : Nat := (idx 32 (byteAt g i)).toNat
theorem byte_get (g : ByteArray) (i : Nat) (h : i < g.size) : (g[i]'h).toNat = byteAt g i := by
  unfold byteAt bt
  rw [dif_pos h, Int.toNat_natCast]

theorem bit_all : ((List.range 32).all fun k => (List.range 5).all fun j => decide (bits .and .i64 ((k : Nat) : Int) ((16 / 2^j : Nat) : Int) = if k.testBit (4 - j) then ((16 / 2^j : Nat) : Int) else 0)) = true := by decide +kernel
theorem bit_of (k j : Nat) (hk : k < 32) (hj : j < 5) : bits .and .i64 ((k : Nat) : Int) ((16 / 2^j : Nat) : Int) = if k.testBit (4 - j) then ((16 / 2^j : Nat) : Int) else 0 :=
  of_decide_eq_true (List.all_eq_true.1 (List.all_eq_true.1 bit_all k (List.mem_range.2 hk)) j (List.mem_range.2 hj))
theorem bv_facts (j : Nat) (hj : j < 5) : 0 < 16 / 2^j ∧ 16 / 2^j ≤ 16 ∧ 16 / 2^(j + 1) = 16 / 2^j / 2 := by
  have : j = 0 ∨ j = 1 ∨ j = 2 ∨ j = 3 ∨ j = 4 := by omega
  rcases this with h | h | h | h | h <;> (subst h; decide)
theorem half_lon {s : St} (h : s.ev = true) (b : Bool) : half s b = ⟨false, if b then mid s.x0 s.x1 else s.x0, if b then s.x1 else mid s.x0 s.x1, s.y0, s.y1⟩ := by unfold half; rw [if_pos h]
theorem half_lat {s : St} (h : s.ev = false) (b : Bool) : half s b = ⟨true, s.x0, s.x1, if b then mid s.y0 s.y1 else s.y0, if b then s.y1 else mid s.y0 s.y1⟩ := by unfold half; rw [if_neg (by rw [h]; decide)]

set_option maxRecDepth 100000 in
set_option maxHeartbeats 1000000 in
theorem cell22 (g : ByteArray) (w : World) (hg : g.size ≤ 2147483647) :
    Calls Tryd.prog 22 #[.string g] w fun e w' => ∃ a0 a1 b0 b1 ok, e = .returned (.tuple #[.agg #[.float .f64 a0, .float .f64 a1], .agg #[.float .f64 b0, .float .f64 b1], .bool ok]) ∧
      (ok = true → (∀ i, i < g.size → 0 ≤ idx 32 (byteAt g i)) ∧ a0 = (after (valAt g) g.size).y0 ∧ a1 = (after (valAt g) g.size).y1 ∧ b0 = (after (valAt g) g.size).x0 ∧ b1 = (after (valAt g) g.size).x1) ∧ Below w.heap.size w w' := by
  obtain ⟨B, hB⟩ : ∃ B, w.heap.size = B := ⟨_, rfl⟩
  have hbt := Lib.hid letters_bt
  have hsz : alph.size = 32 := rfl
  go_enter Tryd.func22, Tryd.ntmps22
  go_upto_region 4 with fail
  generalize hal : (ByteArray.mk #[48, 49, 50, 51, 52, 53, 54, 55, 56, 57, 98, 99, 100, 101, 102, 103, 104, 106, 107, 109, 110, 112, 113, 114, 115, 116, 117, 118, 119, 120, 121, 122]) = al
  have hal2 : alph = al := hal
  rw [hal2] at hsz hbt
  clear hal hal2
  go_loopw [5, 6] (fun s5 s6 wx => ∃ (i : Nat) (st : St), i ≤ g.size ∧ s6 = .int .i64 i ∧ s5 = .bool st.ev ∧ (∀ j, j < i → 0 ≤ idx 32 (byteAt g j)) ∧ st = after (valAt g) i ∧ Arr wx B st.y0 st.y1 ∧ Arr wx (B + 1) st.x0 st.x1 ∧ Below B w wx) (fun _ s6 _ => g.size - (intOf s6).toNat)
  case atStart =>
    refine ⟨0, St.start, Nat.zero_le _, rfl, rfl, fun j hj => by omega, rfl, ⟨41, ?_⟩, ⟨41, ?_⟩, ((Below.refl _ _).alloc (by omega) _).alloc (by simp; omega) _⟩
    · show ((w.heap.push _).push _)[B]? = _
      rw [Array.getElem?_push, if_neg (by simp; omega), Array.getElem?_push, if_pos hB.symm]; rfl
    · show ((w.heap.push _).push _)[B + 1]? = _
      rw [Array.getElem?_push, if_pos (by simp; omega)]; rfl
  case round =>
    obtain ⟨i, st, hi, rfl, rfl, hv, hst, hy, hx, hb⟩ := hrel
    have HV := Lib.hid hv
    have HS := Lib.hid hst
    have HY := Lib.hid hy
    have HX := Lib.hid hx
    have HBW := Lib.hid hb
    clear hv hst hy hx hb
    by_cases hlt : i < g.size
    · have hget := fun hh : i < g.size => byte_get g i hh
      obtain ⟨c, hc⟩ : ∃ c, byteAt g i = c := ⟨_, rfl⟩
      rw [hc] at hget
      go_upto_region 8 with fail
      go_loopw [7, 8] (fun s7 s8 wx => ∃ (j : Nat), j ≤ 32 ∧ s8 = .int .i64 j ∧ s7 = .int .i64 (idx j c) ∧ ∃ n, wx = wr.drewN n) (fun _ s8 _ => 32 - (intOf s8).toNat)
      case atStart => exact ⟨0, by omega, rfl, rfl, 0, rfl⟩
      case round =>
        obtain ⟨j, hj, rfl, rfl, n, rfl⟩ := hrel
        by_cases h32 : j < 32
        · have hbj := hbt.out j
          by_cases e : c = lt j
          · have he : (((lt j : Nat) : Int) == ((c : Nat) : Int)) = true := by rw [e]; simp
            go_upto_region 10 with fail
            go_quiet (fail)
            go_wp2
            go_roundw
            case rel => exact ⟨j + 1, by omega, by go_num, by show Value.int .i64 (j : Int) = .int .i64 (if c = lt j then (j : Int) else idx j c); rw [if_pos e], _, rfl⟩
            case measure => simp [intOf]; omega
          · have he : (((lt j : Nat) : Int) == ((c : Nat) : Int)) = false := beq_eq_false_iff_ne.2 (by omega)
            go_upto_region 10 with fail
            go_quiet (fail)
            go_wp2
            go_roundw
            case rel => exact ⟨j + 1, by omega, by go_num, by show Value.int .i64 (idx j c) = .int .i64 (if c = lt j then (j : Int) else idx j c); rw [if_neg e], _, rfl⟩
            case measure => simp [intOf]; omega
        · have hje : j = 32 := by omega
          subst hje
          have y0 := HY.out.c0
          have y1 := HY.out.c1
          have x0 := HX.out.c0
          have x1 := HX.out.c1
          have fy0 := HY.out.fr 0
          have fx0 := HX.out.fr 0
          have fy1 := HY.out.fr 1
          have fx1 := HX.out.fr 1
          rcases idx_dec 32 c with ⟨hi1, _⟩ | ⟨k, hk, hi1, _⟩
          · go_upto_region 12 with fail
            rw [hi1]
            go_wp2
            have A0 : Arr (wr.drewN n) B st.y0 st.y1 := HY.out.block (by simp)
            have A1 : Arr (wr.drewN n) (B + 1) st.x0 st.x1 := HX.out.block (by simp)
            have A0 := (((A0.set0 st.y0).set1 st.y1).other ⟨B + 1, 0, none⟩ (.float .f64 st.x0) (by simp)).other ⟨B + 1, 1, none⟩ (.float .f64 st.x1) (by simp)
            have A1 := (((A1.other ⟨B, 0, none⟩ (.float .f64 st.y0) (by simp)).other ⟨B, 1, none⟩ (.float .f64 st.y1) (by simp)).set0 st.x0).set1 st.x1
            refine bodyPost_ret (results22 _ _ _ _ _ _ _ _ rfl rfl A0 A1) rfl ⟨_, _, _, _, _, rfl, (fun h => by cases h), ?_⟩
            rw [hB]
            exact ((((HBW.out.trans (Joins.below_draws _ _ _)).setCell (by exact Nat.le_refl _) _).setCell (by exact Nat.le_refl _) _).setCell (by exact Nat.le_succ _) _).setCell (by exact Nat.le_succ _) _
          · have hk2 : (k : Int) < 32 := by omega
            go_upto_region 12 with fail
            rw [hi1]
            go_upto_region 15 with fail
            have hgood := Lib.hid (by rw [HS.out]; exact good_after (valAt g) i : Good st)
            go_loopw [5, 9] (fun s5 s9 wx => ∃ j : Nat, j ≤ 5 ∧ s9 = .int .i64 (16 / 2^j : Nat) ∧ s5 = .bool (five k st j).ev ∧ Arr wx B (five k st j).y0 (five k st j).y1 ∧ Arr wx (B + 1) (five k st j).x0 (five k st j).x1 ∧ Below B w wx) (fun _ s9 _ => (intOf s9).toNat)
            case atStart => exact ⟨0, by omega, rfl, rfl, HY.out.block (by simp), HX.out.block (by simp), HBW.out.trans (Joins.below_draws _ _ _)⟩
            case round =>
              obtain ⟨j, hj, rfl, rfl, hy, hx, hb⟩ := hrel
              have HGF := Lib.hid (good_five hgood.out k j)
              have hstep : Hid (five k st (j + 1) = half (five k st j) (k.testBit (4 - j))) := Lib.hid rfl
              generalize hsj : five k st j = sj at *
              have HSJ := Lib.hid hsj
              clear hsj
              clear y0 y1 x0 x1 fy0 fx0 fy1 fx1
              by_cases hj5 : j < 5
              · obtain ⟨hpos, hle, hnx⟩ := bv_facts j hj5
                have hz := bit_of k j hk hj5
                generalize 16 / 2^j = bv at *
                have HNX := Lib.hid hnx
                have HY2 := Lib.hid hy
                have HX2 := Lib.hid hx
                have HB2 := Lib.hid hb
                have y0 := hy.c0
                have y1 := hy.c1
                have x0 := hx.c0
                have x1 := hx.c1
                have fy0 := hy.fr 0
                have fx0 := hx.fr 0
                have fy1 := hy.fr 1
                have fx1 := hx.fr 1
                clear hnx hy hx hb
                obtain ⟨s, qs, qm, _⟩ := mid_law HGF.out.x
                obtain ⟨t, rs, rm, _⟩ := mid_law HGF.out.y
                have ha := fun w => run_float_arith (P := Tryd.prog) w .add 22 .f64 _ _ _ qs
                have hd := fun w => run_float_arith (P := Tryd.prog) w .quo 22 .f64 _ _ _ qm
                have ha2 := fun w => run_float_arith (P := Tryd.prog) w .add 22 .f64 _ _ _ rs
                have hd2 := fun w => run_float_arith (P := Tryd.prog) w .quo 22 .f64 _ _ _ rm
                clear qs qm rs rm
                cases hev : sj.ev with
                | true =>
                  have HE := Lib.hid hev
                  clear hev
                  cases hbit : k.testBit (4 - j) with
                  | true =>
                    have e5 := hstep.out
                    rw [half_lon HE.out, hbit] at e5
                    have E5 := Lib.hid e5
                    clear e5
                    rw [hbit] at hz
                    rw [if_pos rfl] at hz
                    clear hbit
                    go_upto_region 21 with fail
                    go_quiet (fail)
                    go_wp2
                    go_roundw
                    case rel => exact ⟨j + 1, by omega, by rw [HNX.out, Int.natCast_ediv]; rfl, by rw [E5.out], by rw [E5.out]; exact (HY2.out.block (by simp)).other _ _ (by simp), by rw [E5.out]; exact Arr.set0 (HX2.out.block (by simp)) _, (HB2.out.trans (Joins.below_draws _ _ _)).setCell (by exact Nat.le_succ _) _⟩
                    case measure => simp [intOf]; omega
                  | false =>
                    have e5 := hstep.out
                    rw [half_lon HE.out, hbit] at e5
                    have E5 := Lib.hid e5
                    clear e5
                    rw [hbit] at hz
                    rw [if_neg (by decide)] at hz
                    clear hbit
                    go_upto_region 21 with fail
                    go_quiet (fail)
                    go_wp2
                    go_roundw
                    case rel => exact ⟨j + 1, by omega, by rw [HNX.out, Int.natCast_ediv]; rfl, by rw [E5.out], by rw [E5.out]; exact (HY2.out.block (by simp)).other _ _ (by simp), by rw [E5.out]; exact Arr.set1 (HX2.out.block (by simp)) _, (HB2.out.trans (Joins.below_draws _ _ _)).setCell (by exact Nat.le_succ _) _⟩
                    case measure => simp [intOf]; omega
                | false =>
                  have HE := Lib.hid hev
                  clear hev
                  cases hbit : k.testBit (4 - j) with
                  | true =>
                    have e5 := hstep.out
                    rw [half_lat HE.out, hbit] at e5
                    have E5 := Lib.hid e5
                    clear e5
                    rw [hbit] at hz
                    rw [if_pos rfl] at hz
                    clear hbit
                    go_upto_region 21 with fail
                    go_quiet (fail)
                    go_wp2
                    go_roundw
                    case rel => exact ⟨j + 1, by omega, by rw [HNX.out, Int.natCast_ediv]; rfl, by rw [E5.out], by rw [E5.out]; exact Arr.set0 (HY2.out.block (by simp)) _, by rw [E5.out]; exact (HX2.out.block (by simp)).other _ _ (by simp), (HB2.out.trans (Joins.below_draws _ _ _)).setCell (by exact Nat.le_refl _) _⟩
                    case measure => simp [intOf]; omega
                  | false =>
                    have e5 := hstep.out
                    rw [half_lat HE.out, hbit] at e5
                    have E5 := Lib.hid e5
                    clear e5
                    rw [hbit] at hz
                    rw [if_neg (by decide)] at hz
                    clear hbit
                    go_upto_region 21 with fail
                    go_quiet (fail)
                    go_wp2
                    go_roundw
                    case rel => exact ⟨j + 1, by omega, by rw [HNX.out, Int.natCast_ediv]; rfl, by rw [E5.out], by rw [E5.out]; exact Arr.set1 (HY2.out.block (by simp)) _, by rw [E5.out]; exact (HX2.out.block (by simp)).other _ _ (by simp), (HB2.out.trans (Joins.below_draws _ _ _)).setCell (by exact Nat.le_refl _) _⟩
                    case measure => simp [intOf]; omega
              · have hje : j = 5 := by omega
                subst hje
                have HY2 := Lib.hid hy
                have HX2 := Lib.hid hx
                have HB2 := Lib.hid hb
                clear hy hx hb
                have h0 : ((16 / 2^5 : Nat) : Int) = 0 := rfl
                rw [h0]
                go_wp2
                go_roundw
                case rel =>
                  have hvi : valAt g i = k := by unfold valAt; rw [hc, hi1]; rfl
                  refine ⟨i + 1, sj, by omega, by go_num, rfl, fun j' hj' => ?_, ?_, HY2.out, HX2.out, HB2.out⟩
                  · by_cases e : j' = i
                    · rw [e, hc, hi1]; omega
                    · exact HV.out j' (by omega)
                  · show sj = five (valAt g i) (after (valAt g) i) 5
                    rw [hvi, ← HS.out, HSJ.out]
                case measure => simp [intOf]; omega
    · have hie : i = g.size := by omega
      subst hie
      have y0 := HY.out.c0
      have y1 := HY.out.c1
      have x0 := HX.out.c0
      have x1 := HX.out.c1
      have fy0 := HY.out.fr 0
      have fx0 := HX.out.fr 0
      have fy1 := HY.out.fr 1
      have fx1 := HX.out.fr 1
      go_wp2
      have A0 := (((HY.out.set0 st.y0).set1 st.y1).other ⟨B + 1, 0, none⟩ (.float .f64 st.x0) (by simp)).other ⟨B + 1, 1, none⟩ (.float .f64 st.x1) (by simp)
      have A1 := (((HX.out.other ⟨B, 0, none⟩ (.float .f64 st.y0) (by simp)).other ⟨B, 1, none⟩ (.float .f64 st.y1) (by simp)).set0 st.x0).set1 st.x1
      refine bodyPost_ret (results22 _ _ _ _ _ _ _ _ rfl rfl A0 A1) rfl ⟨_, _, _, _, _, rfl, (fun _ => ⟨HV.out, by rw [← HS.out], by rw [← HS.out], by rw [← HS.out], by rw [← HS.out]⟩), ?_⟩
      rw [hB]
      exact (((HBW.out.setCell (by exact Nat.le_refl _) _).setCell (by exact Nat.le_refl _) _).setCell (by exact Nat.le_succ _) _).setCell (by exact Nat.le_succ _) _
end Go.Proofs.YtobloagecjhhiaaDoor
