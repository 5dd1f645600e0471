/-
  laws.FnMorton over every input; what the row's listed variables give its walk: the tables of masks and shifts.
-/
import Derived.Test.YtobloagecjhhiaaDoorOpen
import Derived.Test.YtobloagecjhhiaaDoorMortA
namespace Go.Proofs.YtobloagecjhhiaaDoor
open Go.ChangeShapes Go.WideShapes Go.ChangeAt Go.WideMaps Go.WideElems Go.RowKit Go.Lib Fl

section
variable {H : Type} {enc : TypeId × Value → H} {P : Program} {w : World} {base : Nat} {spare : Nat → Bool} {t : TypeId} {fuel : Nat} {cs : List Value} {p : List MemPlace} {held : Bool}
theorem array_ints {n : Nat} {e : TypeId} {k : IntKind} {ds : List (DataW H)} (ht : P.underlying t = some (.array n e)) (he : P.underlying e = some (.int k)) (hc : P.cellsOf e = 1)
    (h : DataW.trod enc P w base spare held fuel t cs = some (.agg ds, p)) : ∀ (i : Nat) (z : Int), ds[i]? = some (DataW.lit (Lit.int k z)) → cs[i]? = some (Value.int k z) := by
  intro i z hd
  obtain ⟨ys, m, rfl, hx, _, hl, hel⟩ := DataW.trod_array ht h
  simp only [Prod.mk.injEq, DataW.agg.injEq] at hx
  obtain ⟨rfl, _⟩ := hx
  rw [List.getElem?_map] at hd
  cases hy : ys[i]? with
  | none => simp [hy] at hd
  | some y =>
    rw [hy] at hd
    simp only [Option.map_some, Option.some.injEq] at hd
    have hi : i < n := by
      have := (List.getElem?_eq_some_iff.1 hy).1
      omega
    have g := hel i hi
    rw [hc, Nat.mul_one, hy] at g
    obtain ⟨z', e1, e2, _⟩ := DataW.trod_int he g
    rw [e2] at hd
    simp only [DataW.lit.injEq, Lit.int.injEq, true_and] at hd
    rw [hd] at e1
    have := congrArg (·[0]?) e1
    simpa [List.getElem?_take] using this
end

theorem gMagic : Tryd.prog.globalNamed "pub-thornbush/pub/bleve/numeric.interleaveMagic" = some 3 := by kernel_rfl
theorem gShift : Tryd.prog.globalNamed "pub-thornbush/pub/bleve/numeric.interleaveShift" = some 4 := by kernel_rfl
theorem tMagic : (Tryd.prog.globals[3]?).map (·.type) = some 84 := by kernel_rfl
theorem tShift : (Tryd.prog.globals[4]?).map (·.type) = some 85 := by kernel_rfl
theorem cells36 : Tryd.prog.cellsOf 36 = 1 := by kernel_rfl

theorem magic_of {W : World} (hm : VarReads Tryd.prog W "pub-thornbush/pub/bleve/numeric.interleaveMagic" Rows.laid_pub_thornbush_pub_bleve_numeric_interleaveMagic)
    (hs : VarReads Tryd.prog W "pub-thornbush/pub/bleve/numeric.interleaveShift" Rows.laid_pub_thornbush_pub_bleve_numeric_interleaveShift) : Magic W := by
  obtain ⟨g, t, cs, f, p, hg, ht, hv, hd⟩ := hm
  obtain rfl := Option.some.inj (gMagic.symm.trans hg)
  obtain rfl := Option.some.inj (tMagic.symm.trans ht)
  have a := array_ints Tryd.underlying84 Tryd.underlying36 cells36 hd
  have a' : ∀ (i : Nat) (z : Int), _ → W.cell? ⟨3, i, none⟩ = some (.int .u64 z) := fun i z h => by
    rw [World.var?_cell gMagic hv i]
    have := a i z h
    simpa using this
  obtain ⟨g2, t2, cs2, f2, p2, hg2, ht2, hv2, hd2⟩ := hs
  obtain rfl := Option.some.inj (gShift.symm.trans hg2)
  obtain rfl := Option.some.inj (tShift.symm.trans ht2)
  have b := array_ints Tryd.underlying85 Tryd.underlying52 cells52 hd2
  have b' : ∀ (i : Nat) (z : Int), _ → W.cell? ⟨4, i, none⟩ = some (.int .u64 z) := fun i z h => by
    rw [World.var?_cell gShift hv2 i]
    have := b i z h
    simpa using this
  exact ⟨a' 0 _ rfl, a' 1 _ rfl, a' 2 _ rfl, a' 3 _ rfl, a' 4 _ rfl, a' 5 _ rfl, b' 0 _ rfl, b' 1 _ rfl, b' 2 _ rfl, b' 3 _ rfl, b' 4 _ rfl⟩

theorem placeB_V {x y : Nat} (hx : x < 2^64) (hy : y < 2^64) (h : placeB x y = true) :
    Fin64 x ∧ Fin64 y ∧ V 13863909240395005952 ≤ V x ∧ V x ≤ - V 13863909240395005952 ∧ V 13859405640767635456 ≤ V y ∧ V y ≤ - V 13859405640767635456 := by
  unfold placeB at h
  simp only [Bool.and_eq_true] at h
  obtain ⟨⟨⟨g1, g2⟩, g3⟩, g4⟩ := h
  have f1 : Fin64 13863909240395005952 := ⟨by decide, by decide⟩
  have f2 : Fin64 4640537203540230144 := ⟨by decide, by decide⟩
  have f3 : Fin64 13859405640767635456 := ⟨by decide, by decide⟩
  have f4 : Fin64 4636033603912859648 := ⟨by decide, by decide⟩
  have n1 : V 13863909240395005952 = - V 4640537203540230144 := V_neg 4640537203540230144 (by decide)
  have n2 : V 13859405640767635456 = - V 4636033603912859648 := V_neg 4636033603912859648 (by decide)
  have fx : Fin64 x := fin_of_between hx f2 f1 g2 g1
  have fy : Fin64 y := fin_of_between hy f4 f3 g4 g3
  rw [geB_V fx f1, decide_eq_true_eq] at g1
  rw [leB_V fx f2, decide_eq_true_eq] at g2
  rw [geB_V fy f3, decide_eq_true_eq] at g3
  rw [leB_V fy f4, decide_eq_true_eq] at g4
  exact ⟨fx, fy, g1, by rw [n1, Int.neg_neg]; exact g2, g3, by rw [n2, Int.neg_neg]; exact g4⟩

theorem mort_any (x0 y0 x1 y1 : Nat) (w : World) (hl : Lies w) (hm : Magic w) (l0 : x0 < 2^64) (l1 : y0 < 2^64) (l2 : x1 < 2^64) (l3 : y1 < 2^64) :
    Calls Tryd.prog 8 #[.float .f64 x0, .float .f64 y0, .float .f64 x1, .float .f64 y1] w fun e w' => e = .returned (.bool true) ∧ Below w.heap.size w w' := by
  cases h0 : placeB x0 y0 with
  | false => exact mort_out1 x0 y0 x1 y1 w hl h0
  | true =>
    cases h1 : placeB x1 y1 with
    | false => exact mort_out2 x0 y0 x1 y1 w hl h0 h1
    | true =>
      obtain ⟨fx0, fy0, a1, a2, a3, a4⟩ := placeB_V l0 l1 h0
      obtain ⟨fx1, fy1, b1, b2, b3, b4⟩ := placeB_V l2 l3 h1
      obtain ⟨s0, p0, n0, S0, q, r, q1, r1, fr, nr⟩ := scale_lon fx0 a1 a2
      obtain ⟨s1, p1, k0, S1, q', t, q2, r2, ft, nt⟩ := scale_lat fy0 a3 a4
      obtain ⟨s2, p2, n1, S2, _⟩ := scale_lon fx1 b1 b2
      obtain ⟨s3, p3, k1, S3, _⟩ := scale_lat fy1 b3 b4
      have hsm : Hid (Magic w) := Lib.hid hm
      have g28 := fun a ha => gather28 a w ha hm
      refine mort_in x0 y0 x1 y1 (inter n0 k0) (inter n1 k1) n0 k0 n1 k1 r t w hl h0 h1 (morton25 S0 S1 w hm) (morton25 S2 S3 w hm)
        (place27 _ r t w (unhash40 n0 k0 q r S0.lt S1.lt q1 r1 w hm) (unhash41 n0 k0 q' t S0.lt S1.lt q2 r2 w hm))
        (near_true fr fx0 (near_abs fr fx0 (fmax_abs fr fx0).1 nr) w) (near_true ft fy0 (near_abs ft fy0 (fmax_abs ft fy0).1 nt) w) ?_ ?_ ?_ ?_ ?_ ?_
      · have h := g28 (inter n0 k0) (inter_lt _ _)
        rw [gather_low n0 k0 S0.lt S1.lt] at h; exact h
      · have h := g28 (inter n1 k1) (inter_lt _ _)
        rw [gather_low n1 k1 S2.lt S3.lt] at h; exact h
      · have h := g28 (inter n0 k0 / 2) (by have := inter_lt n0 k0; omega)
        rw [gather_high n0 k0 S0.lt S1.lt, Int.natCast_ediv] at h; exact h
      · have h := g28 (inter n1 k1 / 2) (by have := inter_lt n1 k1; omega)
        rw [gather_high n1 k1 S2.lt S3.lt, Int.natCast_ediv] at h; exact h
      · intro h
        rw [ltB_V fx0 fx1, decide_eq_true_eq] at h
        exact S0.mono (by omega) (by omega) S2 h
      · intro h
        rw [ltB_V fy0 fy1, decide_eq_true_eq] at h
        exact S1.mono (by omega) (by omega) S3 h
end Go.Proofs.YtobloagecjhhiaaDoor
