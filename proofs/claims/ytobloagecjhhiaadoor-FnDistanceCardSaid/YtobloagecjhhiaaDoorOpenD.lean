/-
  What the row's listed variables give the walk of laws.FnDistance: the table of units and the error's variable.
-/
import Derived.Test.YtobloagecjhhiaaDoorOpen
import Derived.Test.YtobloagecjhhiaaDoorDistA
namespace Go.Proofs.YtobloagecjhhiaaDoor
open Go.ChangeShapes Go.WideShapes Go.ChangeAt Go.WideMaps Go.WideElems Go.RowKit Go.Lib

section
variable {H : Type} {enc : TypeId × Value → H} {P : Program} {w : World} {base : Nat} {spare : Nat → Bool} {t : TypeId} {fuel : Nat} {cs : List Value} {p : List MemPlace}
theorem trod_iface {m : Array (String × TypeId)} {name : String} {d : DataW H} (ht : P.underlying t = some (.interface m)) (h : DataW.trod enc P w base spare false fuel t cs = some (.iface name d, p)) : ∃ u v, cs = [.iface u v] := by
  cases fuel with
  | zero => simp [DataW.trod] at h
  | succ n =>
    unfold DataW.trod at h
    rw [ht] at h
    split at h <;> simp_all

theorem cells_two {a : Addr} {c : List Value} (h : w.cells? base a 2 = some c) : ∃ v0 v1, c = [v0, v1] ∧ w.cell? (a.add 0) = some v0 ∧ w.cell? (a.add 1) = some v1 := by
  unfold World.cells? at h
  split at h
  · simp only [List.range_succ, List.range_zero, List.nil_append, List.mapM_cons, List.mapM_nil, List.cons_append] at h
    cases h0 : w.cell? (a.add 0) with
    | none => simp [h0] at h
    | some v0 =>
      cases h1 : w.cell? (a.add 1) with
      | none => simp [h0, h1] at h
      | some v1 =>
        simp [h0, h1] at h
        exact ⟨v0, v1, h.symm, rfl, rfl⟩
  · cases h

theorem open_row2 {held : Bool} {e : TypeId} {ds : List (DataW H)} (ht : P.underlying t = some (.slice e)) (hc : P.cellsOf e = 2)
    (h : DataW.trod enc P w base spare held fuel t cs = some (.slice ds [], p)) :
    ∃ a cap, cs = [.slice (some a) ds.length cap] ∧ ∀ i d, ds[i]? = some d → ∃ v0 v1 n q, w.cell? ((a.add (2 * i)).add 0) = some v0 ∧ w.cell? ((a.add (2 * i)).add 1) = some v1 ∧ DataW.trod enc P w base spare held n e [v0, v1] = some (d, q) := by
  rcases DataW.trod_slice ht h with ⟨_, hx⟩ | ⟨a, len, cap, elems, rest, n, _, hcs, hx, _, hl, _, hlen, hel, _⟩
  · simp at hx
  · simp only [Prod.mk.injEq, DataW.slice.injEq] at hx
    obtain ⟨⟨rfl, _⟩, _⟩ := hx
    have el : (elems.map (·.1)).length = len := by simpa using hlen
    refine ⟨a, cap, by rw [el]; exact hcs, fun i d hd => ?_⟩
    have hi : i < len := by rw [← el]; exact (List.getElem?_eq_some_iff.1 hd).1
    have hE := hel i hi
    rw [hc, Nat.mul_comm i 2] at hE
    rw [List.getElem?_map] at hd
    cases hy : elems[i]? with
    | none => simp [hy] at hd
    | some y =>
      rw [hy] at hE hd
      simp only [Option.map_some, Option.some.injEq] at hd
      simp only [Option.bind_eq_some_iff] at hE
      obtain ⟨c1, hc1, hy1⟩ := hE
      obtain ⟨v0, v1, rfl, h0, h1⟩ := cells_two hc1
      exact ⟨v0, v1, n, y.2, h0, h1, by rw [hy1, ← hd]⟩
end

theorem add_off (b o k : Nat) : (Addr.mk b o none).add k = ⟨b, o + k, none⟩ := by
  by_cases h : k = 0
  · subst h; simp [Addr.add]
  · simp [Addr.add, h]

theorem gErr : Tryd.prog.globalNamed "strconv.ErrSyntax" = some 5 := by kernel_rfl
theorem gTab : Tryd.prog.globalNamed "pub-thornbush/spec.DistanceUnits" = some 0 := by kernel_rfl
theorem tErr : (Tryd.prog.globals[5]?).map (·.type) = some 59 := by kernel_rfl
theorem tTab : (Tryd.prog.globals[0]?).map (·.type) = some 34 := by kernel_rfl
theorem cells35 : Tryd.prog.cellsOf 35 = 2 := by kernel_rfl
theorem cells9 : Tryd.prog.cellsOf 9 = 1 := by kernel_rfl

def tabD : List (DataW Unit) := (List.range 18).map fun i => .agg [.lit (.string (nm i).data.toList), .lit (.float .f64 (cv (i / 2)))]
theorem tab_eq : (Rows.laid_pub_thornbush_spec_DistanceUnits : DataW Unit) = .slice tabD [] := by rfl

theorem liesD_of {W : World} (hl : Lies W) (he : VarReads Tryd.prog W "strconv.ErrSyntax" Rows.laid_strconv_ErrSyntax)
    (hu : VarReads Tryd.prog W "pub-thornbush/spec.DistanceUnits" Rows.laid_pub_thornbush_spec_DistanceUnits) : LiesD W := by
  refine ⟨hl, ?_, ?_⟩
  · obtain ⟨g, t, cs, f, p, hg, ht, hv, hd⟩ := he
    obtain rfl := Option.some.inj (gErr.symm.trans hg)
    obtain rfl := Option.some.inj (tErr.symm.trans ht)
    obtain ⟨u, v, e1⟩ := trod_iface Tryd.underlying59 hd
    refine ⟨u, v, ?_⟩
    rw [World.var?_cell gErr hv 0]
    have := congrArg (·[0]?) e1
    simpa using this
  · obtain ⟨g, t, cs, f, p, hg, ht, hv, hd⟩ := hu
    obtain rfl := Option.some.inj (gTab.symm.trans hg)
    obtain rfl := Option.some.inj (tTab.symm.trans ht)
    rw [tab_eq] at hd
    obtain ⟨a, cap, e1, hel⟩ := open_row2 Tryd.underlying34 cells35 hd
    have hget : ∀ i, i < 18 → tabD[i]? = some (.agg [.lit (.string (nm i).data.toList), .lit (.float .f64 (cv (i / 2)))]) := by
      intro i hi
      unfold tabD
      rw [List.getElem?_map, List.getElem?_range hi]; rfl
    have hs : a.spot = none := by
      obtain ⟨v0, v1, n, q, h0, _⟩ := hel 0 _ (hget 0 (by omega))
      exact World.cell?_spot h0
    obtain ⟨b, o, s⟩ := a
    obtain rfl : s = none := hs
    have hent : ∀ i, i < 18 → W.cell? ⟨b, o + 2 * i, none⟩ = some (.string (nm i)) ∧ W.cell? ⟨b, o + 2 * i + 1, none⟩ = some (.float .f64 (cv (i / 2))) := by
      intro i hi
      obtain ⟨v0, v1, n, q, h0, h1, ht⟩ := hel i _ (hget i hi)
      obtain ⟨y0, y1, m, hx, _, g0, g1⟩ := trod_struct2 Tryd.underlying35 ht
      simp only [Prod.mk.injEq, DataW.agg.injEq, List.cons.injEq, and_true] at hx
      obtain ⟨⟨x0, x1⟩, _⟩ := hx
      rw [cells9] at g0
      rw [cells22] at g1
      obtain ⟨s, e2, e3, _⟩ := DataW.trod_string Tryd.underlying9 g0
      obtain ⟨k, e4, e5, _⟩ := trod_float Tryd.underlying22 g1
      rw [e3] at x0
      rw [e5] at x1
      simp only [DataW.lit.injEq, Lit.string.injEq] at x0
      simp only [DataW.lit.injEq, Lit.float.injEq, true_and] at x1
      have es : nm i = s := bl_eq x0
      simp at e2 e4
      refine ⟨?_, ?_⟩
      · rw [es, ← e2]; rw [add_off, add_off] at h0; exact h0
      · rw [x1, ← e4]; rw [add_off, add_off] at h1; exact h1
    refine ⟨b, o, cap, cell_block (hent 0 (by omega)).1, ?_, hent⟩
    rw [World.var?_cell gTab hv 0]
    have hlen : tabD.length = 18 := rfl
    rw [hlen] at e1
    have := congrArg (·[0]?) e1
    simpa using this
end Go.Proofs.YtobloagecjhhiaaDoor
