/-
  'laws.FnMorton' returns true for every input: the tied card of the statement is proved.
  Its conditions are the row's own: the package-level variables that the row lists read as listed (tied to the program's text by the given tie).
-/
import Derived.Test.YtobloagecjhhiaaDoorOpenM
import Derived.Test.YtobloagecjhhiaaDoorCards
import Derived.Test.YtobloagecjhhiaaDoorTie
import Derived.Stop.Joined
namespace Go.Proofs.YtobloagecjhhiaaDoor
open Go.ChangeShapes Go.WideShapes Go.ChangeAt Go.WideMaps Go.WideElems Go.RowKit Go.Lib

set_option maxRecDepth 100000 in
theorem fnMorton_lifted (os : Os) (started : os.Started) (H : Type) (enc : TypeId × Value → H) :
    ReturnsInHanded {} Tryd.checked os 8 .any (fun w args => (Rows.fnMortonSpec.pre enc Tryd.prog Tryd.f8 [] false w args ∧ laidMetH Tryd.prog Rows.fnMortonRow.laid w) ∧ sizedMet enc Tryd.prog Tryd.f8 (OpenSpec.ofChange Rows.fnMortonSpec) false w args)
      (Rows.fnMortonSpec.post enc Tryd.prog Tryd.f8 false true false false) := by
  refine returnsInHanded_of_change_and (C := Tryd.checked) (X := fun w _ => laidMetH Tryd.prog Rows.fnMortonRow.laid w) (fun _ _ _ hh h => h.of_heap hh) own started (by kernel_rfl) Tryd.func8
    (ChangeSpec.witness_shaped (enc := enc) (C := Tryd.checked) (os := os) (X := fun w _ => laidMetH Tryd.prog Rows.fnMortonRow.laid w) false (World.laidAll Tryd.prog os Rows.fnMortonRow.laid) #[.float .f64 0, .float .f64 0, .float .f64 0, .float .f64 0] 8 (World.laidAll_os _ _ _)
      (World.shaped_of_ZipB (by kernel_rfl) (by kernel_rfl)) (by kernel_rfl) (by kernel_rfl) (by kernel_rfl)
      (by rw [MakeChecks.laidMetH_plain _ _ _ (by kernel_rfl)]; exact laidMet_laidAll _ (by kernel_rfl) (by kernel_rfl))) ?_
  intro W base args ds gs before hval0 hW _ _ hL _
  have hval : ∀ (j : Nat) t v, Tryd.f8.params[j]? = some t → args[j]? = some v → Value.okWide Tryd.prog W .any base t v := hval0
  have hW' := hW
  obtain ⟨p, q, hA0, hV, rfl, _, _⟩ := hW
  have hA : DataW.TrodAll enc Tryd.prog W 0 (fun _ => true) true Tryd.f8.params.toList args.toList ds p := hA0
  rw [Tryd.params8] at hA hval
  obtain ⟨v0, v1, v2, v3, d0, d1, d2, d3, p0, p1, p2, p3, rfl, rfl, rfl, h0, h1, h2, h3⟩ := trodAll_four hA
  obtain ⟨rfl, rfl⟩ := trodVars_none hV
  obtain ⟨x0, rfl, rfl, rfl, wx0⟩ := open_float Tryd.underlying22 (hval 0 22 v0 rfl rfl) h0
  obtain ⟨y0, rfl, rfl, rfl, wy0⟩ := open_float Tryd.underlying22 (hval 1 22 v1 rfl rfl) h1
  obtain ⟨x1, rfl, rfl, rfl, wx1⟩ := open_float Tryd.underlying22 (hval 2 22 v2 rfl rfl) h2
  obtain ⟨y1, rfl, rfl, rfl, wy1⟩ := open_float Tryd.underlying22 (hval 3 22 v3 rfl rfl) h3
  have lx0 : x0 < 2^64 := by simpa [Lit.wf] using wx0
  have ly0 : y0 < 2^64 := by simpa [Lit.wf] using wy0
  have lx1 : x1 < 2^64 := by simpa [Lit.wf] using wx1
  have ly1 : y1 < 2^64 := by simpa [Lit.wf] using wy1
  simp only [List.append_nil] at hW'
  rw [MakeChecks.laidMetH_plain _ _ _ (by kernel_rfl)] at hL
  have hl : Lies W := lies_of (laidMet.reads hL (by simp [Rows.fnMortonRow])) (laidMet.reads hL (by simp [Rows.fnMortonRow])) (laidMet.reads hL (by simp [Rows.fnMortonRow]))
  have hm : Magic W := magic_of (laidMet.reads hL (by simp [Rows.fnMortonRow])) (laidMet.reads hL (by simp [Rows.fnMortonRow]))
  refine (mort_any x0 y0 x1 y1 W hl hm lx0 ly0 lx1 ly1).mono fun e W' ⟨he, hbw⟩ => ?_
  subst he
  exact ⟨_, rfl, _, _, _, [], [], [], hW', trodAll_mk1 (shut_bool Tryd.underlying4 _),
    trodAll_mk4 (Below.trod laidOut (by kernel_rfl) (of_decide_eq_true (by kernel_rfl)) h0 hbw (fun x hx => by cases hx)) (Below.trod laidOut (by kernel_rfl) (of_decide_eq_true (by kernel_rfl)) h1 hbw (fun x hx => by cases hx)) (Below.trod laidOut (by kernel_rfl) (of_decide_eq_true (by kernel_rfl)) h2 hbw (fun x hx => by cases hx)) (Below.trod laidOut (by kernel_rfl) (of_decide_eq_true (by kernel_rfl)) h3 hbw (fun x hx => by cases hx)), rfl, hbw.frame _, fun h => by cases h⟩

theorem fnMorton_holds : Rows.FnMortonSaid :=
  OpenClaim.holds_of_wide 8 Tryd.f8 rfl rfl rfl rfl rfl rfl rfl ⟨rfl, rfl, rfl, rfl, rfl⟩ rfl rfl rfl rfl rfl (by kernel_rfl) Tryd.func8 (by kernel_rfl)
    (of_decide_eq_true (by kernel_rfl)) (by unfold Func.isWrapper; rw [if_neg (of_decide_eq_false (by kernel_rfl))]; exact ⟨rfl, rfl⟩)
    (fun os started H enc _ => fnMorton_lifted os started H enc)

theorem fnMorton_card : Rows.FnMortonCardSaid :=
  Claim7.holds_tied_plain_at .later [] [.data, .data, .widerDeep, .widerDeep, .data, .data, .data, .data, .data, .data, .data, .sentinel, .sentinel, .pinned, .pinned] true (true, "e99f9b5bf0b2ec7300739cbd3877becef993a3c704417c96a26f151e3a5b16fe") true
    fnMorton_holds (fun _ h => by cases h) (by kernel_rfl) (fun _ h => by cases h) fnMorton_row_tie rfl ⟨rfl, rfl⟩ (by kernel_rfl) rfl
    (fun f fn hf hfn => by
      obtain rfl : f = 8 := Option.some.inj ((show Tryd.prog.funcNamed "pub-thornbush/laws.FnMorton" = some 8 by kernel_rfl).symm.trans hf) |>.symm
      obtain rfl : fn = Tryd.f8 := (Option.some.inj (Tryd.func8.symm.trans hfn)).symm
      exact ⟨by kernel_rfl, fun j t ht => by
        rw [Tryd.params8] at ht
        have hm : t ∈ [22, 22, 22, 22] := by simpa using Array.mem_of_getElem? ht
        have hall : ([22, 22, 22, 22].all fun u => !Tryd.prog.wantsStandIn u) = true := by kernel_rfl
        exact (show Tryd.prog.wantsStandIn t = false by simpa using List.all_eq_true.1 hall t hm)⟩)
    (by kernel_rfl)
#print axioms fnMorton_card
end Go.Proofs.YtobloagecjhhiaaDoor
