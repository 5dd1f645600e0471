/-
  'laws.FnGeoPlace' returns true for every input: the tied card of the statement is proved.
  Its conditions are the row's own: the package-level variables that the row lists read as listed (tied to the program's text by the given tie).
-/
import Derived.Test.YtobloagecjhhiaaDoorOpenG
import Derived.Test.YtobloagecjhhiaaDoorGeoP
import Derived.ChangeMaps5
import Derived.Test.YtobloagecjhhiaaDoorCards
import Derived.Test.YtobloagecjhhiaaDoorTie
import Derived.Stop.Joined
namespace Go.Proofs.YtobloagecjhhiaaDoor
open Go.ChangeShapes Go.WideShapes Go.ChangeAt Go.WideMaps Go.WideElems Go.RowKit Go.Lib

set_option maxRecDepth 100000 in
theorem fnGeoPlace_lifted (os : Os) (started : os.Started) (H : Type) (enc : TypeId × Value → H) :
    ReturnsInHanded {} Tryd.checked os 7 .any (fun w args => (Rows.fnGeoPlaceSpec.pre enc Tryd.prog Tryd.f7 [] false w args ∧ laidMetH Tryd.prog Rows.fnGeoPlaceRow.laid w) ∧ sizedMet enc Tryd.prog Tryd.f7 (OpenSpec.ofChange Rows.fnGeoPlaceSpec) false w args)
      (Rows.fnGeoPlaceSpec.post enc Tryd.prog Tryd.f7 false true false false) := by
  refine returnsInHanded_of_change_and (C := Tryd.checked) (X := fun w _ => laidMetH Tryd.prog Rows.fnGeoPlaceRow.laid w) (fun _ _ _ hh h => h.of_heap hh) own started (by kernel_rfl) Tryd.func7
    (ChangeSpec.witness_shaped (enc := enc) (C := Tryd.checked) (os := os) (X := fun w _ => laidMetH Tryd.prog Rows.fnGeoPlaceRow.laid w) false (World.laidAll Tryd.prog os Rows.fnGeoPlaceRow.laid) #[.string ⟨#[]⟩] 8 (World.laidAll_os _ _ _)
      (World.shaped_of_ZipB (by kernel_rfl) (by kernel_rfl)) (by kernel_rfl) (by kernel_rfl) (by kernel_rfl)
      (by rw [MakeChecks.laidMetH_plain _ _ _ (by kernel_rfl)]; exact laidMet_laidAll _ (by kernel_rfl) (by kernel_rfl))) ?_
  intro W base args ds gs before hval0 hW _ _ hL _
  have hval : ∀ (j : Nat) t v, Tryd.f7.params[j]? = some t → args[j]? = some v → Value.okWide Tryd.prog W .any base t v := hval0
  have hW' := hW
  obtain ⟨p, q, hA0, hV, rfl, _, _⟩ := hW
  have hA : DataW.TrodAll enc Tryd.prog W 0 (fun _ => true) true Tryd.f7.params.toList args.toList ds p := hA0
  rw [Tryd.params7] at hA hval
  obtain ⟨v0, d0, rfl, rfl, h0⟩ := trodAll_one hA
  obtain ⟨rfl, rfl⟩ := trodVars_none hV
  obtain ⟨s, rfl, rfl, rfl, ws⟩ := ChangeMaps.open_string Tryd.underlying9 (hval 0 9 v0 rfl rfl) h0
  simp only [List.append_nil] at hW'
  rw [MakeChecks.laidMetH_plain _ _ _ (by kernel_rfl)] at hL
  have hl : Lies W := lies_of (laidMet.reads hL (by simp [Rows.fnGeoPlaceRow])) (laidMet.reads hL (by simp [Rows.fnGeoPlaceRow])) (laidMet.reads hL (by simp [Rows.fnGeoPlaceRow]))
  have hm : Masks W := masks_of hl (laidMet.reads hL (by simp [Rows.fnGeoPlaceRow]))
  refine (geo_any s W hl hm).mono fun e W' ⟨he, hbw⟩ => ?_
  subst he
  exact ⟨_, rfl, _, _, _, [], [], [], hW', trodAll_mk1 (shut_bool Tryd.underlying4 _),
    trodAll_mk1 (Below.trod laidOut (by kernel_rfl) (of_decide_eq_true (by kernel_rfl)) h0 hbw (fun x hx => by cases hx)), rfl, hbw.frame _, fun h => by cases h⟩

theorem fnGeoPlace_holds : Rows.FnGeoPlaceSaid :=
  OpenClaim.holds_of_wide 7 Tryd.f7 rfl rfl rfl rfl rfl rfl rfl ⟨rfl, rfl, rfl, rfl, rfl⟩ rfl rfl rfl rfl rfl (by kernel_rfl) Tryd.func7 (by kernel_rfl)
    (of_decide_eq_true (by kernel_rfl)) (by unfold Func.isWrapper; rw [if_neg (of_decide_eq_false (by kernel_rfl))]; exact ⟨rfl, rfl⟩)
    (fun os started H enc _ => fnGeoPlace_lifted os started H enc)

theorem fnGeoPlace_card : Rows.FnGeoPlaceCardSaid :=
  Claim7.holds_tied_plain_at .later [] [.data, .data, .widerDeep, .widerDeep, .data, .data, .data, .data, .data, .sentinel, .sentinel, .data, .pinned, .pinned] true (true, "e99f9b5bf0b2ec7300739cbd3877becef993a3c704417c96a26f151e3a5b16fe") true
    fnGeoPlace_holds (fun _ h => by cases h) (by kernel_rfl) (fun _ h => by cases h) fnGeoPlace_row_tie rfl ⟨rfl, rfl⟩ (by kernel_rfl) rfl
    (fun f fn hf hfn => by
      obtain rfl : f = 7 := Option.some.inj ((show Tryd.prog.funcNamed "pub-thornbush/laws.FnGeoPlace" = some 7 by kernel_rfl).symm.trans hf) |>.symm
      obtain rfl : fn = Tryd.f7 := (Option.some.inj (Tryd.func7.symm.trans hfn)).symm
      exact ⟨by kernel_rfl, fun j t ht => by
        rw [Tryd.params7] at ht
        have hm : t ∈ [9] := by simpa using Array.mem_of_getElem? ht
        have hall : ([9].all fun u => !Tryd.prog.wantsStandIn u) = true := by kernel_rfl
        exact (show Tryd.prog.wantsStandIn t = false by simpa using List.all_eq_true.1 hall t hm)⟩)
    (by kernel_rfl)
#print axioms fnGeoPlace_card
end Go.Proofs.YtobloagecjhhiaaDoor
