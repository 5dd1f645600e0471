/-
  The numbers of laws.FnDistance: hundredths over a hundred, times a unit's metres: plain laws on doubles.
-/
import Derived.Test.YtobloagecjhhiaaDoorTxt
import Derived.Test.YtobloagecjhhiaaDoorNear
namespace Go.Proofs.YtobloagecjhhiaaDoor
open Go.RowKit Fl

theorem c_100 : V 4636737291354636288 = ((7036874417766400 * 2^1028 : Nat) : Int) ∧ Fin64 4636737291354636288 := V_const 1028 7036874417766400 (by omega) (Or.inr (by omega)) (by omega)

theorem pow_le_top (n : Nat) (hn : n ≤ 2045) (P : Nat) (hP : 0 < P) : 2^n ≤ top * P :=
  Nat.le_trans (top_ge n hn) (Nat.le_mul_of_pos_right _ hP)

/-- h hundredths as a double. -/
theorem number_ex (h : Nat) (hh : h ≤ 4294967295) : ∃ r, Ieee.double.div (floatOfInt .f64 h) 4636737291354636288 = some r ∧ numOf h 2 r ∧ Fin64 r ∧ 0 ≤ V r ∧ V r ≤ ((2^1106 : Nat) : Int) := by
  have hW := W_eq
  obtain ⟨fx, hx⟩ := ofInt_V (h : Int) (by omega) (by omega)
  have hb : (V (floatOfInt .f64 (h : Int))).natAbs ≤ 2^32 * U := by
    rw [hx, Int.natAbs_mul, Int.natAbs_natCast, Int.natAbs_natCast]
    exact Nat.mul_le_mul_right _ (by omega)
  obtain ⟨L, hL⟩ : ∃ L, L = 1106 := ⟨_, rfl⟩
  have e1 : 2^32 * U = 2^L := by rw [U_eq, ← Nat.pow_add]; congr 1; omega
  rw [← hL]
  rw [e1] at hb
  obtain ⟨r, h1, h2⟩ := div_const fx c_100.2 (by omega) c_100.1 (e := 46) (by omega) (by
    have h3 : (V (floatOfInt .f64 (h : Int))).natAbs * 2^46 ≤ 2^L * 2^46 := Nat.mul_le_mul_right _ hb
    rw [← Nat.pow_add] at h3
    exact Nat.le_trans h3 (pow_le_top _ (by omega) _ (by omega)))
  have hpos : 0 ≤ V (floatOfInt .f64 (h : Int)) := by rw [hx]; exact Int.mul_nonneg (by omega) (by omega)
  have g0 := h2.ge (c := 0) (by omega) fin_zero (by rw [V_zero]; omega)
  have g1 := h2.le (by omega) fx (by omega)
  rw [V_zero] at g0
  refine ⟨r, h1, ?_, h2.fin, g0, by omega⟩
  by_cases h0 : h = 0
  · left
    refine ⟨h0, ?_⟩
    subst h0
    have e0 : Ieee.double.div (floatOfInt .f64 ((0 : Nat) : Int)) 4636737291354636288 = some 0 := by decide +kernel
    rw [e0] at h1
    exact (Option.some.inj h1).symm
  · right; right
    exact ⟨h0, rfl, h1⟩

theorem cv_all : ((List.range 9).all fun i => decide (cv i ≤ 1034 * 2^52)) = true := by decide +kernel
theorem cv_fin (i : Nat) (hi : i < 9) : Fin64 (cv i) ∧ 0 ≤ V (cv i) ∧ V (cv i) ≤ ((2^1085 : Nat) : Int) := by
  have h := of_decide_eq_true (List.all_eq_true.1 cv_all i (List.mem_range.2 hi))
  have hg := G_le h
  obtain ⟨L, hL⟩ : ∃ L, L = 1033 := ⟨_, rfl⟩
  have hf := G_form L (2^52) (by omega) (Or.inr (by omega))
  have e1 : L * 2^52 + 2^52 = 1034 * 2^52 := by omega
  have e2 : 2^52 * 2^L = 2^1085 := by rw [← Nat.pow_add, show 52 + L = 1085 by omega]
  rw [e1, e2] at hf
  rw [hf] at hg
  have e3 : cv i / 2^63 % 2 = 0 := by omega
  have e4 : cv i % 2^63 = cv i := by omega
  have hv : V (cv i) = (G (cv i) : Int) := by unfold V; rw [e3, e4]; simp
  exact ⟨⟨by omega, by omega⟩, by rw [hv]; omega, by rw [hv]; omega⟩

/-- Its product with a unit's metres. -/
theorem product_ex {r c : Nat} (fr : Fin64 r) (fc : Fin64 c) (r0 : 0 ≤ V r) (r1 : V r ≤ ((2^1106 : Nat) : Int)) (c0 : 0 ≤ V c) (c1 : V c ≤ ((2^1085 : Nat) : Int)) :
    ∃ q, Ieee.double.mul r c = some q ∧ Fin64 q ∧ 0 ≤ V q ∧ V q ≤ ((2^1120 : Nat) : Int) ∧ (V c = ((2^1074 : Nat) : Int) → V q = V r) := by
  have hW := W_eq
  obtain ⟨a, ha⟩ : ∃ a, a = 1106 := ⟨_, rfl⟩
  obtain ⟨b, hb⟩ : ∃ b, b = 1085 := ⟨_, rfl⟩
  obtain ⟨m, hm⟩ : ∃ m, m = 1120 := ⟨_, rfl⟩
  rw [← ha] at r1
  rw [← hb] at c1
  rw [← hm]
  have h0 : 0 ≤ V r * V c := Int.mul_nonneg r0 c0
  have h1 : V r * V c ≤ ((2^a : Nat) : Int) * ((2^b : Nat) : Int) := Int.mul_le_mul r1 c1 c0 (by omega)
  have h2 : ((2^a : Nat) : Int) * ((2^b : Nat) : Int) = ((2^(a + b) : Nat) : Int) := by rw [← Int.natCast_mul, ← Nat.pow_add]
  have h3 : 2^(a + b) ≤ 2^m * U := by rw [U_eq, ← Nat.pow_add]; exact Nat.pow_le_pow_right (by omega) (by omega)
  rw [h2] at h1
  obtain ⟨q, hq1, hq2⟩ := mul_rnd fr fc (by
    have h4 : 2^m * U ≤ top * U := Nat.mul_le_mul_right _ (top_ge m (by omega))
    omega)
  obtain ⟨d, hd1, hd2⟩ := rep 1 m (by omega) (by omega)
  rw [Nat.one_mul] at hd2
  have g0 := hq2.ge (c := 0) U_pos fin_zero (by rw [V_zero]; omega)
  have g1 := hq2.le U_pos hd1 (by rw [hd2, ← Int.natCast_mul]; omega)
  rw [V_zero] at g0
  refine ⟨q, hq1, hq2.fin, g0, by omega, fun hc => ?_⟩
  refine hq2.exact U_pos fr ?_
  rw [hc, U_eq, W_eq]

/-- Two doubles of one value are near. -/
theorem near_eq {x y : Nat} (hx : Fin64 x) (hy : Fin64 y) (h : V x = V y) (n : Nat) (hn : n ≤ 1200) (h0 : 0 ≤ V x) (hb : V x ≤ ((2^n : Nat) : Int)) (w : World) :
    Calls Tryd.prog 16 #[.float .f64 x, .float .f64 y, .float .f64 4427486594234968593, .float .f64 0] w fun e w' => e = .returned (.bool true) ∧ w = w' := by
  have m := fmax_abs hx hy
  refine near_true hx hy (near_same hx hy m.1 (by rw [m.2]; omega) h n hn ?_) w
  rw [m.2]
  omega

theorem one_V : V 4607182418800017408 = ((2^1074 : Nat) : Int) ∧ Fin64 4607182418800017408 := by
  have h := V_const 1022 (2^52) (by omega) (Or.inr (by omega)) (by omega)
  refine ⟨?_, by decide, by decide⟩
  obtain ⟨L, hL⟩ : ∃ L, L = 1022 := ⟨_, rfl⟩
  rw [← hL] at h
  have e : 2^52 * 2^L = 2^1074 := by rw [← Nat.pow_add, show 52 + L = 1074 by omega]
  rw [e] at h
  have e2 : L * 2^52 + 2^52 = 4607182418800017408 := by omega
  rw [e2] at h
  exact h.1

/-- What laws.FnDistance wants of the variables. -/
structure LiesD (w : World) : Prop where
  lies : Lies w
  err : ∃ te pe, w.cell? ⟨5, 0, none⟩ = some (.iface te pe)
  tab : ∃ b o c, b < w.heap.size ∧ w.cell? ⟨0, 0, none⟩ = some (.slice (some ⟨b, o, none⟩) 18 c) ∧ ∀ i, i < 18 → w.cell? ⟨b, o + 2 * i, none⟩ = some (.string (nm i)) ∧ w.cell? ⟨b, o + 2 * i + 1, none⟩ = some (.float .f64 (cv (i / 2)))

theorem LiesD.below {w w' : World} (h : LiesD w) (hb : Below w.heap.size w w') : LiesD w' := by
  have hm := h.lies.many
  refine ⟨h.lies.below hb, ?_, ?_⟩
  · obtain ⟨te, pe, he⟩ := h.err
    exact ⟨te, pe, by rw [hb.cell (p := ⟨5, 0, none⟩) (by show 5 < _; omega)]; exact he⟩
  · obtain ⟨b, o, c, hlt, h1, h2⟩ := h.tab
    refine ⟨b, o, c, by have := hb.size; omega, ?_, fun i hi => ⟨?_, ?_⟩⟩
    · rw [hb.cell (p := ⟨0, 0, none⟩) (by show 0 < _; omega)]; exact h1
    · rw [hb.cell (p := ⟨b, o + 2 * i, none⟩) hlt]; exact (h2 i hi).1
    · rw [hb.cell (p := ⟨b, o + 2 * i + 1, none⟩) hlt]; exact (h2 i hi).2

/-! The calls that laws.FnDistance makes. -/
theorem nm_len (k : Nat) : (nm k).size ≤ 20 := nm_size k

theorem numText_size {h : Nat} {S : ByteArray} (hS : NumText h S) : S.size ≤ 12 := hS.decimal.short

theorem dist_unit (h : Nat) (S : ByteArray) (r q K : Nat) (hS : NumText h S) (hn : numOf h 2 r) (hK : K < 18) (hq : Ieee.double.mul r (cv (K / 2)) = some q) (w : World) (hl : Lies w) :
    Calls Tryd.prog 21 #[.string (S ++ nm K)] w fun e w' => e = .returned (.tuple #[.int .u64 q, .bool true]) ∧ Below w.heap.size w w' := by
  obtain ⟨L, c, hL, hc⟩ := hS.last
  have hsz : (S ++ nm K).size ≤ 3000000000 := by
    have h1 := numText_size hS
    have h2 := nm_len K
    rw [size_bl, bl_append, List.length_append, ← size_bl, ← size_bl]
    omega
  refine dist21 _ w q (dist37 (S ++ nm K) w K r q hsz (first_of S L c hL hc K hK) hK (fun w' hb => ?_) hq)
  rw [cut_name]
  exact parse48_dec S w' hS.decimal h 2 r true hS.dec hn (hl.below hb).knows

theorem dist_plain (h : Nat) (S : ByteArray) (r : Nat) (hS : NumText h S) (hn : numOf h 2 r) (w : World) (hl : Lies w) :
    Calls Tryd.prog 21 #[.string S] w fun e w' => e = .returned (.tuple #[.int .u64 r, .bool true]) ∧ Below w.heap.size w w' := by
  obtain ⟨L, c, hL, hc⟩ := hS.last
  refine dist21 _ w r (dist37_none S w r (by have := numText_size hS; omega) (first_none S L c hL hc) (fun w' hb => ?_))
  exact parse48_dec S w' hS.decimal h 2 r true hS.dec hn (hl.below hb).knows

theorem dist_ask (junk : ByteArray) (w : World) (hj : junk.size ≤ 2147483647) (hl : LiesD w) :
    Calls Tryd.prog 21 #[.string (ask ++ junk)] w fun e w' => e = .returned (.tuple #[.int .u64 0, .bool false]) ∧ Below w.heap.size w w' := by
  obtain ⟨K, hK⟩ := first_ex (ask ++ junk)
  have hsz := ask_size junk
  refine dist21_err _ w (dist37_err (ask ++ junk) w K (by omega) hK (fun w' hb t ht1 ht2 => ?_))
  obtain ⟨te, pe, he⟩ := (hl.below hb).err
  have hle := hK.le
  obtain ⟨l, hl2⟩ : ∃ l, bl t = 63 :: l := by
    by_cases h18 : K < 18
    · rw [ht1 h18]; exact ask_cut junk K h18 (hK.yes h18)
    · rw [ht2 (by omega)]; exact ⟨_, ask_bl junk⟩
  have hts : t.size ≤ 3000000000 := by
    by_cases h18 : K < 18
    · rw [ht1 h18, size_bl]
      show ((ask ++ junk).extract 0 ((ask ++ junk).size - (nm K).size)).data.toList.length ≤ _
      rw [Lib.extract_data, List.length_take, List.length_drop]
      have : (ask ++ junk).data.toList.length = junk.size + 1 := by rw [← hsz, size_bl]
      omega
    · rw [ht2 (by omega)]; omega
  obtain ⟨h1, h2⟩ := bt_head t l hl2
  exact parse48_bad t w' h1 hts h2 te pe he

theorem unit_nm (K : Nat) (hK : K < 18) (w : World) : Calls Tryd.prog 19 #[.string (nm K)] w fun e w' => e = .returned (.tuple #[.int .u64 (cv (K / 2)), .bool true]) ∧ Below w.heap.size w w' :=
  unit19 _ w _ (unit36 (nm K) w K _ rfl hK (fun k hk => nm_ne K k hK hk) (by simp))

theorem unit_ask (junk : ByteArray) (w : World) : Calls Tryd.prog 19 #[.string (ask ++ junk)] w fun e w' => e = .returned (.tuple #[.int .u64 0, .bool false]) ∧ Below w.heap.size w w' :=
  unit19_err _ w (unit36_err _ w (fun k hk => ask_ne junk k hk))
end Go.Proofs.YtobloagecjhhiaaDoor
