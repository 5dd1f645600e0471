/-
  'laws.FnDistance' returns true for every input: the tied card of the statement is proved.
  Its conditions are the row's own: the package-level variables that the row lists read as listed (tied to the program's text by the given tie).
-/
import Derived.Test.YtobloagecjhhiaaDoorOpenD
import Derived.ChangeMaps5
import Derived.Test.YtobloagecjhhiaaDoorCards
import Derived.Test.YtobloagecjhhiaaDoorTie
import Derived.Stop.Joined
namespace Go.Proofs.YtobloagecjhhiaaDoor
open Go.ChangeShapes Go.WideShapes Go.ChangeAt Go.WideMaps Go.WideElems Go.RowKit Go.Lib

set_option maxRecDepth 100000 in
theorem fnDistance_lifted (os : Os) (started : os.Started) (H : Type) (enc : TypeId × Value → H) :
    ReturnsInHanded {} Tryd.checked os 6 .any (fun w args => (Rows.fnDistanceSpec.pre enc Tryd.prog Tryd.f6 [] false w args ∧ laidMetH Tryd.prog Rows.fnDistanceRow.laid w) ∧ sizedMet enc Tryd.prog Tryd.f6 (OpenSpec.ofChange Rows.fnDistanceSpec) false w args)
      (Rows.fnDistanceSpec.post enc Tryd.prog Tryd.f6 false true false false) := by
  refine returnsInHanded_of_change_and (C := Tryd.checked) (X := fun w _ => laidMetH Tryd.prog Rows.fnDistanceRow.laid w) (fun _ _ _ hh h => h.of_heap hh) own started (by kernel_rfl) Tryd.func6
    (ChangeSpec.witness_shaped (enc := enc) (C := Tryd.checked) (os := os) (X := fun w _ => laidMetH Tryd.prog Rows.fnDistanceRow.laid w) false (World.laidAll Tryd.prog os Rows.fnDistanceRow.laid) #[.int .u32 0, .int .u8 0, .string ⟨#[]⟩] 8 (World.laidAll_os _ _ _)
      (World.shaped_of_ZipB (by kernel_rfl) (by kernel_rfl)) (by kernel_rfl) (by kernel_rfl) (by kernel_rfl)
      (by rw [MakeChecks.laidMetH_plain _ _ _ (by kernel_rfl)]; exact laidMet_laidAll _ (by kernel_rfl) (by kernel_rfl))) ?_
  intro W base args ds gs before hval0 hW _ _ hL _
  have hval : ∀ (j : Nat) t v, Tryd.f6.params[j]? = some t → args[j]? = some v → Value.okWide Tryd.prog W .any base t v := hval0
  have hW' := hW
  obtain ⟨p, q, hA0, hV, rfl, _, _⟩ := hW
  have hA : DataW.TrodAll enc Tryd.prog W 0 (fun _ => true) true Tryd.f6.params.toList args.toList ds p := hA0
  rw [Tryd.params6] at hA hval
  obtain ⟨v0, v1, v2, d0, d1, d2, p0, p1, p2, rfl, rfl, rfl, h0, h1, h2⟩ := trodAll_three hA
  obtain ⟨rfl, rfl⟩ := trodVars_none hV
  obtain ⟨x, rfl, rfl, rfl, wx⟩ := open_int Tryd.underlying32 (hval 0 32 v0 rfl rfl) h0
  obtain ⟨y, rfl, rfl, rfl, wy⟩ := open_int Tryd.underlying5 (hval 1 5 v1 rfl rfl) h1
  obtain ⟨s, rfl, rfl, rfl, ws⟩ := ChangeMaps.open_string Tryd.underlying9 (hval 2 9 v2 rfl rfl) h2
  have lx : 0 ≤ x ∧ x ≤ 4294967295 := by have e1 : IntKind.u32.min = 0 := rfl; have e2 : IntKind.u32.max = 4294967295 := rfl; simp [Lit.wf] at wx; omega
  have ly : 0 ≤ y ∧ y ≤ 255 := by have e1 : IntKind.u8.min = 0 := rfl; have e2 : IntKind.u8.max = 255 := rfl; simp [Lit.wf] at wy; omega
  simp only [List.append_nil] at hW'
  rw [MakeChecks.laidMetH_plain _ _ _ (by kernel_rfl)] at hL
  have hl : LiesD W := liesD_of (lies_of (laidMet.reads hL (by simp [Rows.fnDistanceRow])) (laidMet.reads hL (by simp [Rows.fnDistanceRow])) (laidMet.reads hL (by simp [Rows.fnDistanceRow]))) (laidMet.reads hL (by simp [Rows.fnDistanceRow])) (laidMet.reads hL (by simp [Rows.fnDistanceRow]))
  refine (dist_all x y s W lx.1 lx.2 ly.1 ly.2 hl).mono fun e W' ⟨he, hbw⟩ => ?_
  subst he
  exact ⟨_, rfl, _, _, _, [], [], [], hW', trodAll_mk1 (shut_bool Tryd.underlying4 _),
    trodAll_mk3 (Below.trod laidOut (by kernel_rfl) (of_decide_eq_true (by kernel_rfl)) h0 hbw (fun x hx => by cases hx)) (Below.trod laidOut (by kernel_rfl) (of_decide_eq_true (by kernel_rfl)) h1 hbw (fun x hx => by cases hx)) (Below.trod laidOut (by kernel_rfl) (of_decide_eq_true (by kernel_rfl)) h2 hbw (fun x hx => by cases hx)), rfl, hbw.frame _, fun h => by cases h⟩

theorem fnDistance_holds : Rows.FnDistanceSaid :=
  OpenClaim.holds_of_wide 6 Tryd.f6 rfl rfl rfl rfl rfl rfl rfl ⟨rfl, rfl, rfl, rfl, rfl⟩ rfl rfl rfl rfl rfl (by kernel_rfl) Tryd.func6 (by kernel_rfl)
    (of_decide_eq_true (by kernel_rfl)) (by unfold Func.isWrapper; rw [if_neg (of_decide_eq_false (by kernel_rfl))]; exact ⟨rfl, rfl⟩)
    (fun os started H enc _ => fnDistance_lifted os started H enc)

theorem fnDistance_card : Rows.FnDistanceCardSaid :=
  Claim7.holds_tied_plain_at .later [] [.data, .data, .widerDeep, .widerDeep, .data, .data, .data, .data, .data, .sentinel, .sentinel, .data, .pinned, .pinned] true (true, "e99f9b5bf0b2ec7300739cbd3877becef993a3c704417c96a26f151e3a5b16fe") true
    fnDistance_holds (fun _ h => by cases h) (by kernel_rfl) (fun _ h => by cases h) fnDistance_row_tie rfl ⟨rfl, rfl⟩ (by kernel_rfl) rfl
    (fun f fn hf hfn => by
      obtain rfl : f = 6 := Option.some.inj ((show Tryd.prog.funcNamed "pub-thornbush/laws.FnDistance" = some 6 by kernel_rfl).symm.trans hf) |>.symm
      obtain rfl : fn = Tryd.f6 := (Option.some.inj (Tryd.func6.symm.trans hfn)).symm
      exact ⟨by kernel_rfl, fun j t ht => by
        rw [Tryd.params6] at ht
        have hm : t ∈ [32, 5, 9] := by simpa using Array.mem_of_getElem? ht
        have hall : ([32, 5, 9].all fun u => !Tryd.prog.wantsStandIn u) = true := by kernel_rfl
        exact (show Tryd.prog.wantsStandIn t = false by simpa using List.all_eq_true.1 hall t hm)⟩)
    (by kernel_rfl)
#print axioms fnDistance_card
end Go.Proofs.YtobloagecjhhiaaDoor
