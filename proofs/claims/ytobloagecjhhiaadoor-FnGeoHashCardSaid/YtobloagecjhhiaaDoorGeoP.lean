/-
  laws.FnGeoPlace over every input: the walk and the numbers joined. Condition: the listed variables hold what the row lists.
-/
import Derived.Test.YtobloagecjhhiaaDoorDecode
namespace Go.Proofs.YtobloagecjhhiaaDoor
open Go.RowKit Go.PlainAid Fl

theorem Masks.below {w w' : World} (h : Masks w) (hb : Below w.heap.size w w') : Masks w' :=
  ⟨fun j hj => by rw [hb.cell (p := ⟨2, j, none⟩) (by show 2 < _; exact h.many)]; exact h.cells j hj, by have := h.many; have := hb.size; omega⟩

set_option maxHeartbeats 400000 in
theorem place23 (g : ByteArray) (w : World) (hg : g.size ≤ 2147483647) (hv : ∀ i, i < g.size → 0 ≤ idx 32 (byteAt g i)) (hm : Masks w) :
    Calls Tryd.prog 23 #[.string g] w fun e w' => e = .returned (.tuple #[.int .u64 (mid (after (valAt g) g.size).y0 (after (valAt g) g.size).y1 : Nat), .int .u64 (mid (after (valAt g) g.size).x0 (after (valAt g) g.size).x1 : Nat)]) ∧ Below w.heap.size w w' := by
  have c := decode38 g w hg hv hm
  have q26 := bits26
  clear hv hm
  generalize mid (after (valAt g) g.size).y0 (after (valAt g) g.size).y1 = a at *
  generalize mid (after (valAt g) g.size).x0 (after (valAt g) g.size).x1 = b at *
  go_enter Tryd.func23, Tryd.ntmps23
  go_wp2_with (go_at_call 38; refine c.mono ?_; rintro e w' ⟨rfl, hb⟩)
  go_ret2
  exact ⟨rfl, hb⟩

/-- The middle lies within the ends, each moved outwards. -/
theorem within_ends {a b : Nat} (h : Ends a b) : ∃ r0 r1, Ieee.double.sub a 4517329193108106637 = some r0 ∧ Ieee.double.add b 4517329193108106637 = some r1 ∧ geB (mid a b) r0 = true ∧ leB (mid a b) r1 = true := by
  obtain ⟨_, _, _, h1, h2⟩ := mid_law h
  have hb := bound_180 _ rfl
  obtain ⟨K, hK⟩ : ∃ K, K = 1083 := ⟨_, rfl⟩
  rw [← hK] at hb
  have ht : 2^200 * 2^K ≤ top := by rw [← Nat.pow_add]; exact top_ge _ (by omega)
  have t0 : 0 ≤ V 4517329193108106637 := by unfold V; rw [if_neg (by decide)]; exact Int.natCast_nonneg _
  have t1 : V 4517329193108106637 ≤ V 4640537203540230144 := by
    unfold V
    rw [if_neg (by decide), if_neg (by decide)]
    exact Int.ofNat_le.2 (G_le (by decide))
  have e1 := h1.lo
  have e2 := h1.le
  have e3 := h2.le
  have e4 := h2.hi
  obtain ⟨r0, q0, s0⟩ := sub_rnd h.fa c_tol.2 (by omega)
  obtain ⟨r1, q1, s1⟩ := add_rnd h.fb c_tol.2 (by omega)
  have g0 := s0.le (by omega) h.fa (by omega)
  have g1 := s1.ge (by omega) h.fb (by omega)
  refine ⟨r0, r1, q0, q1, ?_, ?_⟩
  · rw [geB_V h1.fb s0.fin]; exact decide_eq_true (by omega)
  · rw [leB_V h1.fb s1.fin]; exact decide_eq_true (by omega)

set_option maxHeartbeats 400000 in
theorem geo_long (g : ByteArray) (w : World) (hj : 2147483647 < g.size) : Calls Tryd.prog 7 #[.string g] w fun e w' => e = .returned (.bool true) ∧ Below w.heap.size w w' := by
  go_enter Tryd.func7, Tryd.ntmps7
  go_wp2
  go_ret
  exact ⟨rfl, Below.refl _ _⟩

set_option maxRecDepth 100000 in
set_option maxHeartbeats 1000000 in
theorem geo_any (g : ByteArray) (w : World) (hl : Lies w) (hm : Masks w) : Calls Tryd.prog 7 #[.string g] w fun e w' => e = .returned (.bool true) ∧ Below w.heap.size w w' := by
  by_cases hj : 2147483647 < g.size
  · exact geo_long g w hj
  have hg : g.size ≤ 2147483647 := by omega
  have c22 := cell22 g w hg
  have HL := Lib.hid hl
  have HM := Lib.hid hm
  have q20 := frombits20
  clear hl hm hj
  obtain ⟨B, hB⟩ : ∃ B, w.heap.size = B := ⟨_, rfl⟩
  have HBB := Lib.hid hB
  clear hB
  go_enter Tryd.func7, Tryd.ntmps7
  go_wp2_with fail
  refine c22.mono ?_
  rintro e w1 ⟨a0, a1, b0, b1, ok, rfl, hok, hb1⟩
  have HO := Lib.hid hok
  have hb1 := Lib.hid hb1
  clear hok c22
  have HB3 : Hid (Below w.heap.size w ((w1.alloc (.cells #[.float .f64 a0, .float .f64 a1] 41)).alloc (.cells #[.float .f64 b0, .float .f64 b1] 41))) := Lib.hid ((hb1.out.alloc hb1.out.size _).alloc (by have := hb1.out.size; simp; omega) _)
  have ca := fun w2 (hb : Below w.heap.size w w2) => awake11 w2 (HL.out.below hb)
  cases ok with
  | false =>
    go_wp2_with fail
    refine (ca _ HB3.out).mono ?_
    rintro e w2 ⟨rfl, hb2⟩
    have hb2 := Lib.hid (HB3.out.trans (hb2.mono HB3.out.size))
    go_wp2
    go_ret
    exact ⟨rfl, hb2.out⟩
  | true =>
    obtain ⟨hval, rfl, rfl, rfl, rfl⟩ := HO.out rfl
    clear HO
    have hsz0 : (g.toList == ([] : List UInt8)) = decide (g.size = 0) := by
      rw [Bool.eq_iff_iff, beq_iff_eq, decide_eq_true_eq, ByteArray.toList_eq]
      constructor
      · intro h
        have h2 : g.data.toList.length = 0 := by rw [h]; rfl
        exact h2
      · intro h
        exact List.eq_nil_of_length_eq_zero h
    by_cases h0 : g.size = 0
    · rw [decide_eq_true h0] at hsz0
      clear h0
      go_wp2_with fail
      refine (ca _ HB3.out).mono ?_
      rintro e w2 ⟨rfl, hb2⟩
      have hb2 := Lib.hid (HB3.out.trans (hb2.mono HB3.out.size))
      go_wp2
      go_ret
      exact ⟨rfl, hb2.out⟩
    · rw [decide_eq_false h0] at hsz0
      by_cases h12 : 12 < g.size
      · go_wp2_with fail
        refine (ca _ HB3.out).mono ?_
        rintro e w2 ⟨rfl, hb2⟩
        have hb2 := Lib.hid (HB3.out.trans (hb2.mono HB3.out.size))
        go_wp2
        go_ret
        exact ⟨rfl, hb2.out⟩
      · have cp := place23 g _ hg hval (HM.out.below HB3.out)
        have hgood := good_after (valAt g) g.size
        obtain ⟨r0, r1, k0, k1, k2, k3⟩ := within_ends hgood.y
        obtain ⟨t0, t1, l0, l1, l2, l3⟩ := within_ends hgood.x
        have m0 := fun w => run_float_arith (P := Tryd.prog) w .sub 22 .f64 _ _ _ k0
        have m1 := fun w => run_float_arith (P := Tryd.prog) w .add 22 .f64 _ _ _ k1
        have n0 := fun w => run_float_arith (P := Tryd.prog) w .sub 22 .f64 _ _ _ l0
        have n1 := fun w => run_float_arith (P := Tryd.prog) w .add 22 .f64 _ _ _ l1
        clear k0 k1 l0 l1 hgood hval
        unfold geB at k2 l2
        unfold leB at k3 l3
        have A0 : Arr ((w1.alloc (.cells #[.float .f64 (after (valAt g) g.size).y0, .float .f64 (after (valAt g) g.size).y1] 41)).alloc (.cells #[.float .f64 (after (valAt g) g.size).x0, .float .f64 (after (valAt g) g.size).x1] 41)) w1.heap.size (after (valAt g) g.size).y0 (after (valAt g) g.size).y1 := ⟨41, heap_alloc2_old _ _ _⟩
        have A1 : Arr ((w1.alloc (.cells #[.float .f64 (after (valAt g) g.size).y0, .float .f64 (after (valAt g) g.size).y1] 41)).alloc (.cells #[.float .f64 (after (valAt g) g.size).x0, .float .f64 (after (valAt g) g.size).x1] 41)) (w1.heap.size + 1) (after (valAt g) g.size).x0 (after (valAt g) g.size).x1 := ⟨41, heap_alloc2_new _ _ _⟩
        have A0 := Lib.hid A0
        have A1 := Lib.hid A1
        generalize mid (after (valAt g) g.size).y0 (after (valAt g) g.size).y1 = a at *
        generalize mid (after (valAt g) g.size).x0 (after (valAt g) g.size).x1 = b at *
        generalize after (valAt g) g.size = st at *
        go_wp2_with fail
        refine cp.mono ?_
        rintro e w2 ⟨rfl, hb2⟩
        have A0 := Lib.hid (A0.out.below hb2)
        have A1 := Lib.hid (A1.out.below hb2)
        have hb2 := Lib.hid (HB3.out.trans (hb2.mono HB3.out.size))
        go_wp2_with fail
        refine (ca _ hb2.out).mono ?_
        rintro e w3 ⟨rfl, hb3⟩
        have y0 := (A0.out.below hb3).c0
        have y1 := (A0.out.below hb3).c1
        have x0 := (A1.out.below hb3).c0
        have x1 := (A1.out.below hb3).c1
        have hb3 := Lib.hid (hb2.out.trans (hb3.mono hb2.out.size))
        go_wp2
        go_ret
        exact ⟨rfl, hb3.out⟩
end Go.Proofs.YtobloagecjhhiaaDoor
