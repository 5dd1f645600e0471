/-
  How rectangles that came in are opened, and what the row's listed variables give the walks.
-/
import Derived.Test.YtobloagecjhhiaaDoorBase
import Derived.ProofKit
import Derived.LaidMore
import Derived.OpenShut
import Derived.Lay
import Derived.Lib.LaidU8
import Derived.Lib.SmallJoins
namespace Go.Proofs.YtobloagecjhhiaaDoor
open Go.ChangeShapes Go.WideShapes Go.ChangeAt Go.WideMaps Go.WideElems Go.RowKit Go.Lib

theorem laidOut : laidOutB Tryd.prog = true := by kernel_rfl
theorem own : ownKnob Tryd.prog.godebug = none := by kernel_rfl
theorem cells22 : Tryd.prog.cellsOf 22 = 1 := by kernel_rfl
theorem cells24 : Tryd.prog.cellsOf 24 = 4 := by kernel_rfl
theorem cells52 : Tryd.prog.cellsOf 52 = 1 := by kernel_rfl
theorem cells3 : Tryd.prog.cellsOf 3 = 1 := by kernel_rfl

section
variable {H : Type} {enc : TypeId × Value → H} {P : Program} {w : World} {base : Nat} {spare : Nat → Bool} {held : Bool} {t : TypeId} {fuel : Nat} {cs : List Value} {x : DataW H × List MemPlace}
theorem trod_float {k : FloatKind} (ht : P.underlying t = some (.float k)) (h : DataW.trod enc P w base spare held fuel t cs = some x) : ∃ n, cs = [.float k n] ∧ x = (.lit (.float k n), []) ∧ (Lit.float k n).wf = true := by
  cases fuel with
  | zero => simp [DataW.trod] at h
  | succ n =>
    unfold DataW.trod at h
    rw [ht] at h
    split at h <;> simp_all
theorem trod_bool (ht : P.underlying t = some .bool) (h : DataW.trod enc P w base spare held fuel t cs = some x) : ∃ b, cs = [.bool b] ∧ x = (.lit (.bool b), []) := by
  cases fuel with
  | zero => simp [DataW.trod] at h
  | succ n =>
    unfold DataW.trod at h
    rw [ht] at h
    split at h <;> simp_all
end

section
variable {H : Type} {enc : TypeId × Value → H} {W : World} {base : Nat} {spare : Nat → Bool} {held : Bool}
set_option maxRecDepth 100000 in
/-- A rectangle that came in. -/
theorem open_rect {r : Reach} {b0 : Nat} {v : Value} {d : DataW H} {ps : List MemPlace} (hval : Value.okWide Tryd.prog W r b0 24 v) (hd : DataW.Trod enc Tryd.prog W base spare held 24 v d ps) :
    ∃ a0 a1 a2 a3 : Nat, v = rect a0 a1 a2 a3 ∧ ps = [] ∧ (a0 < 2^64 ∧ a1 < 2^64 ∧ a2 < 2^64 ∧ a3 < 2^64) := by
  simp only [Value.okWide, Tryd.underlying24] at hval
  obtain ⟨xs, rfl, hsz, _⟩ := hval
  rw [cells24] at hsz
  obtain ⟨c0, c1, c2, c3, rfl⟩ := Joins.array4 hsz
  obtain ⟨fuel, hf⟩ := hd
  obtain ⟨ys, m, rfl, hx, _, hl, hel⟩ := DataW.trod_array Tryd.underlying24 hf
  have g0 := hel 0 (by omega)
  have g1 := hel 1 (by omega)
  have g2 := hel 2 (by omega)
  have g3 := hel 3 (by omega)
  rw [cells22] at g0 g1 g2 g3
  match ys, hl, hx, g0, g1, g2, g3 with
  | [y0, y1, y2, y3], _, hx, g0, g1, g2, g3 =>
    obtain ⟨a0, e0, rfl, w0⟩ := trod_float (x := y0) Tryd.underlying22 g0
    obtain ⟨a1, e1, rfl, w1⟩ := trod_float (x := y1) Tryd.underlying22 g1
    obtain ⟨a2, e2, rfl, w2⟩ := trod_float (x := y2) Tryd.underlying22 g2
    obtain ⟨a3, e3, rfl, w3⟩ := trod_float (x := y3) Tryd.underlying22 g3
    simp [Value.cells] at e0 e1 e2 e3
    subst e0 e1 e2 e3
    simp only [Prod.mk.injEq] at hx
    refine ⟨a0, a1, a2, a3, rfl, by simpa using hx.2, ?_⟩
    simp [Lit.wf] at w0 w1 w2 w3
    omega
end

theorem gOpt : Tryd.prog.globalNamed "internal/strconv.optimize" = some 8 := by kernel_rfl
theorem gInfo : Tryd.prog.globalNamed "internal/strconv.float64info" = some 9 := by kernel_rfl
theorem gPow : Tryd.prog.globalNamed "internal/strconv.float64pow10" = some 12 := by kernel_rfl
theorem tOpt : (Tryd.prog.globals[8]?).map (·.type) = some 4 := by kernel_rfl
theorem tInfo : (Tryd.prog.globals[9]?).map (·.type) = some 113 := by kernel_rfl
theorem tPow : (Tryd.prog.globals[12]?).map (·.type) = some 77 := by kernel_rfl

theorem cell_block {w : World} {a : Addr} {v : Value} (h : w.cell? a = some v) : a.block < w.heap.size := by
  unfold World.cell? at h
  rcases Nat.lt_or_ge a.block w.heap.size with hb | hb
  · exact hb
  · rw [Array.getElem?_eq_none hb] at h
    cases h

/-- What the condition gives the walks. -/
theorem lies_of {W : World} (ho : VarReads Tryd.prog W "internal/strconv.optimize" Rows.laid_internal_strconv_optimize)
    (hi : VarReads Tryd.prog W "internal/strconv.float64info" Rows.laid_internal_strconv_float64info)
    (hp : VarReads Tryd.prog W "internal/strconv.float64pow10" Rows.laid_internal_strconv_float64pow10) : Lies W := by
  have c8 : W.cell? ⟨8, 0, none⟩ = some (.bool true) := by
    obtain ⟨g, t, cs, f, p, hg, ht, hv, hd⟩ := ho
    obtain rfl := Option.some.inj (gOpt.symm.trans hg)
    obtain rfl := Option.some.inj (tOpt.symm.trans ht)
    obtain ⟨b, e1, e2⟩ := trod_bool Tryd.underlying4 hd
    simp only [Prod.mk.injEq, Rows.laid_internal_strconv_optimize, DataW.lit.injEq, Lit.bool.injEq] at e2
    rw [← e2.1] at e1
    rw [World.var?_cell gOpt hv 0]
    have := congrArg (·[0]?) e1
    simpa using this
  have c9 : W.cell? ⟨9, 0, none⟩ = some (.int .u64 52) := by
    obtain ⟨g, t, cs, f, p, hg, ht, hv, hd⟩ := hi
    obtain rfl := Option.some.inj (gInfo.symm.trans hg)
    obtain rfl := Option.some.inj (tInfo.symm.trans ht)
    rw [World.var?_cell gInfo hv 0]
    obtain ⟨xs, n, _, hx, hl, hn, hel⟩ := DataW.trod_struct Tryd.underlying113 hd
    have h0 : DataW.trod (fun _ => ()) Tryd.prog W 0 (fun _ => true) false n 52 ((cs.toList.drop 0).take (Tryd.prog.cellsOf 52)) = xs[0]? := hel 0 _ rfl
    rw [cells52] at h0
    obtain ⟨y, hy⟩ : ∃ y, xs[0]? = some y := ⟨xs[0]'(by rw [hn]; decide), List.getElem?_eq_getElem _⟩
    rw [hy] at h0
    obtain ⟨k, e1, e2, _⟩ := DataW.trod_int Tryd.underlying52 h0
    simp only [Prod.mk.injEq, Rows.laid_internal_strconv_float64info, DataW.agg.injEq] at hx
    have h1 := congrArg (·[0]?) hx.1
    simp only [List.getElem?_cons_zero, List.getElem?_map, hy, Option.map_some, Option.some.injEq] at h1
    rw [e2] at h1
    simp only [DataW.lit.injEq, Lit.int.injEq, true_and] at h1
    rw [← h1] at e1
    have := congrArg (·[0]?) e1
    simpa [List.getElem?_take] using this
  have c12 : ∃ b o c, W.cell? ⟨12, 0, none⟩ = some (.slice (some ⟨b, o, none⟩) 23 c) ∧ W.cell? ⟨b, o + 2, none⟩ = some (.float .f64 4636737291354636288) := by
    obtain ⟨g, t, cs, f, p, hg, ht, hv, hd⟩ := hp
    obtain rfl := Option.some.inj (gPow.symm.trans hg)
    obtain rfl := Option.some.inj (tPow.symm.trans ht)
    obtain ⟨a, cap, e1, _, hel⟩ := open_row Tryd.underlying77 cells22 hd
    obtain ⟨v, n, q, hc, hdv⟩ := hel 2 _ rfl
    obtain ⟨k, e3, e4, _⟩ := trod_float Tryd.underlying22 hdv
    simp only [Prod.mk.injEq, DataW.lit.injEq, Lit.float.injEq, true_and] at e4
    simp only [List.cons.injEq, and_true] at e3
    obtain ⟨v0, n0, q0, hc0, _⟩ := hel 0 _ rfl
    have hs : a.spot = none := World.cell?_spot hc0
    obtain ⟨b, o, s⟩ := a
    obtain rfl : s = none := hs
    have hc : W.cell? ⟨b, o + 2, none⟩ = some v := hc
    refine ⟨b, o, cap, ?_, ?_⟩
    · rw [World.var?_cell gPow hv 0]
      have := congrArg (·[0]?) e1
      simpa using this
    · rw [hc, e3, ← e4.1]
  refine ⟨⟨c8, c9, c12⟩, ?_, fun b o c hc => ?_⟩
  · obtain ⟨b, o, c, h, _⟩ := c12
    exact cell_block h
  · obtain ⟨b', o', c', h, h2⟩ := c12
    rw [h] at hc
    cases hc
    exact cell_block h2
end Go.Proofs.YtobloagecjhhiaaDoor
