/-
  What the row's listed variables give the walks of the geohashes: the five masks.
-/
import Derived.Test.YtobloagecjhhiaaDoorOpenM
import Derived.Test.YtobloagecjhhiaaDoorDecode
namespace Go.Proofs.YtobloagecjhhiaaDoor
open Go.ChangeShapes Go.WideShapes Go.ChangeAt Go.WideMaps Go.WideElems Go.RowKit Go.Lib Fl

theorem gMasks : Tryd.prog.globalNamed "pub-thornbush/pub/bleve/geo.masks" = some 2 := by kernel_rfl
theorem tMasks : (Tryd.prog.globals[2]?).map (·.type) = some 83 := by kernel_rfl

theorem masks_of {W : World} (hl : Lies W) (hm : VarReads Tryd.prog W "pub-thornbush/pub/bleve/geo.masks" Rows.laid_pub_thornbush_pub_bleve_geo_masks) : Masks W := by
  obtain ⟨g, t, cs, f, p, hg, ht, hv, hd⟩ := hm
  obtain rfl := Option.some.inj (gMasks.symm.trans hg)
  obtain rfl := Option.some.inj (tMasks.symm.trans ht)
  have a := array_ints Tryd.underlying83 Tryd.underlying36 cells36 hd
  have a' : ∀ (i : Nat) (z : Int), _ → W.cell? ⟨2, i, none⟩ = some (.int .u64 z) := fun i z h => by
    rw [World.var?_cell gMasks hv i]
    have := a i z h
    simpa using this
  refine ⟨fun j hj => ?_, by have := hl.many; omega⟩
  have : j = 0 ∨ j = 1 ∨ j = 2 ∨ j = 3 ∨ j = 4 := by omega
  rcases this with h | h | h | h | h <;> (subst h; exact a' _ _ rfl)
end Go.Proofs.YtobloagecjhhiaaDoor
