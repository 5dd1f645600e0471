/-
  'laws.FnBox' returns true for every input: the tied card of the statement is proved.
  Its conditions are the row's own: the package-level variables that the row lists read as listed (tied to the program's text by the given tie).
-/
import Derived.Test.YtobloagecjhhiaaDoorOpen
import Derived.Test.YtobloagecjhhiaaDoorBoxW
import Derived.Test.YtobloagecjhhiaaDoorCards
import Derived.Test.YtobloagecjhhiaaDoorTie
import Derived.Stop.Joined
namespace Go.Proofs.YtobloagecjhhiaaDoor
open Go.ChangeShapes Go.WideShapes Go.ChangeAt Go.WideMaps Go.WideElems Go.RowKit Go.Lib
open Fl
theorem box_any (x y b0 b1 b2 b3 : Nat) (w : World) (hl : Lies w) (hx : x < 2^64) (hy : y < 2^64) (hb : b0 < 2^64 ∧ b1 < 2^64 ∧ b2 < 2^64 ∧ b3 < 2^64) :
    Calls Tryd.prog 5 #[.float .f64 x, .float .f64 y, rect b0 b1 b2 b3] w fun e w' => e = .returned (.bool true) ∧ Below w.heap.size w w' := by
  cases hr : rightB b0 b1 b2 b3 with
  | false => exact box_not x y b0 b1 b2 b3 w hl hb hr
  | true =>
    cases hs : rightB x y x y with
    | false => exact box_not2 x y b0 b1 b2 b3 w hl hx hy hb hr hs
    | true =>
      obtain ⟨f0, f1, f2, f3, _, _⟩ := right_fin hb.1 hb.2.1 hb.2.2.1 hb.2.2.2 hr
      obtain ⟨fx, fy, _, _, _, _⟩ := right_fin hx hy hx hy hs
      have lim : ∀ {a0 a1 a2 a3 : Nat}, Fin64 a0 → Fin64 a1 → Fin64 a2 → Fin64 a3 → rightB a0 a1 a2 a3 = true → ((V a0).natAbs : Int) ≤ V 4696837146684686336 ∧ ((V a1).natAbs : Int) ≤ V 4696837146684686336 ∧ ((V a2).natAbs : Int) ≤ V 4696837146684686336 ∧ ((V a3).natAbs : Int) ≤ V 4696837146684686336 := by
        intro a0 a1 a2 a3 g0 g1 g2 g3 h
        unfold rightB at h
        simp only [Bool.and_eq_true] at h
        obtain ⟨⟨⟨⟨⟨k0, k1⟩, k2⟩, k3⟩, _⟩, _⟩ := h
        rw [leB_V g0.abs million_fin, decide_eq_true_eq, V_abs_word] at k0
        rw [leB_V g1.abs million_fin, decide_eq_true_eq, V_abs_word] at k1
        rw [leB_V g2.abs million_fin, decide_eq_true_eq, V_abs_word] at k2
        rw [leB_V g3.abs million_fin, decide_eq_true_eq, V_abs_word] at k3
        exact ⟨k0, k1, k2, k3⟩
      obtain ⟨m0, m1, m2, m3⟩ := lim f0 f1 f2 f3 hr
      obtain ⟨mx, my, _, _⟩ := lim fx fy fx fy hs
      obtain ⟨c0, s0, t0, a1, a2, a3, a4, a5, a6, r1, r2, r3, r4⟩ := box_law fx f0 mx m0
      obtain ⟨c1, s1, t1, b1', b2', b3', b4, b5, b6, u1, u2, u3, u4⟩ := box_law fy f1 my m1
      obtain ⟨c2, s2, t2, d1, d2, d3, d4, d5, d6, x1, x2, x3, x4⟩ := box_law fx f2 mx m2
      obtain ⟨c3, s3, t3, e1, e2, e3, e4, e5, e6, y1, y2, y3, y4⟩ := box_law fy f3 my m3
      have k0 := tame_fin a4
      have k1 := tame_fin b4
      have k2 := tame_fin d4
      have k3 := tame_fin e4
      have hG : boxB c0 c2 c1 c3 = (decide (0 ≤ V (tame c0)) && decide (V (tame c2) ≤ 0) && decide (0 ≤ V (tame c1)) && decide (V (tame c3) ≤ 0)) := by
        unfold boxB
        rw [geB_V k0 fin_zero, leB_V k2 fin_zero, geB_V k1 fin_zero, leB_V k3 fin_zero, V_zero]
      refine box_yes x y b0 b1 b2 b3 s0 t2 s1 t3 (boxB c0 c2 c1 c3) w hl hx hy hb hr hs a2 b2' d3 e3 (fun w => has18 x y b0 b1 b2 b3 _ w (fun w => contains35 x y b0 b1 b2 b3 c0 c1 c2 c3 w a1 d1 b1' e1 a4.2 b4.2 d4.2 e4.2)) ?_ ?_
      · intro h
        unfold boxIn at h
        rw [geB_V fx f0, leB_V fx f2, geB_V fy f1, leB_V fy f3] at h
        simp only [Bool.and_eq_true, decide_eq_true_eq] at h
        obtain ⟨⟨⟨h0, h2⟩, h1⟩, h3⟩ := h
        rw [hG]
        simp only [Bool.and_eq_true, decide_eq_true_eq]
        exact ⟨⟨⟨r1 h0, x2 h2⟩, u1 h1⟩, y2 h3⟩
      · intro h
        unfold boxOut at h
        rw [ltB_V fx a5, gtB_V fx d6, ltB_V fy b5, gtB_V fy e6] at h
        simp only [Bool.or_eq_true, decide_eq_true_eq] at h
        rw [hG]
        rcases h with ((h | h) | h) | h
        · have := r3 h
          rw [decide_eq_false (show ¬ 0 ≤ V (tame c0) by omega)]; simp
        · have := x4 h
          rw [decide_eq_false (show ¬ V (tame c2) ≤ 0 by omega)]; simp
        · have := u3 h
          rw [decide_eq_false (show ¬ 0 ≤ V (tame c1) by omega)]; simp
        · have := y4 h
          rw [decide_eq_false (show ¬ V (tame c3) ≤ 0 by omega)]; simp

set_option maxRecDepth 100000 in
theorem fnBox_lifted (os : Os) (started : os.Started) (H : Type) (enc : TypeId × Value → H) :
    ReturnsInHanded {} Tryd.checked os 5 .any (fun w args => (Rows.fnBoxSpec.pre enc Tryd.prog Tryd.f5 [] false w args ∧ laidMetH Tryd.prog Rows.fnBoxRow.laid w) ∧ sizedMet enc Tryd.prog Tryd.f5 (OpenSpec.ofChange Rows.fnBoxSpec) false w args)
      (Rows.fnBoxSpec.post enc Tryd.prog Tryd.f5 false true false false) := by
  refine returnsInHanded_of_change_and (C := Tryd.checked) (X := fun w _ => laidMetH Tryd.prog Rows.fnBoxRow.laid w) (fun _ _ _ hh h => h.of_heap hh) own started (by kernel_rfl) Tryd.func5
    (ChangeSpec.witness_shaped (enc := enc) (C := Tryd.checked) (os := os) (X := fun w _ => laidMetH Tryd.prog Rows.fnBoxRow.laid w) false (World.laidAll Tryd.prog os Rows.fnBoxRow.laid) #[.float .f64 0, .float .f64 0, rect 0 0 0 0] 8 (World.laidAll_os _ _ _)
      (World.shaped_of_ZipB (by kernel_rfl) (by kernel_rfl)) (by kernel_rfl) (by kernel_rfl) (by kernel_rfl)
      (by rw [MakeChecks.laidMetH_plain _ _ _ (by kernel_rfl)]; exact laidMet_laidAll _ (by kernel_rfl) (by kernel_rfl))) ?_
  intro W base args ds gs before hval0 hW _ _ hL _
  have hval : ∀ (j : Nat) t v, Tryd.f5.params[j]? = some t → args[j]? = some v → Value.okWide Tryd.prog W .any base t v := hval0
  have hW' := hW
  obtain ⟨p, q, hA0, hV, rfl, _, _⟩ := hW
  have hA : DataW.TrodAll enc Tryd.prog W 0 (fun _ => true) true Tryd.f5.params.toList args.toList ds p := hA0
  rw [Tryd.params5] at hA hval
  obtain ⟨v0, v1, v2, d0, d1, d2, p0, p1, p2, rfl, rfl, rfl, h0, h1, h2⟩ := trodAll_three hA
  obtain ⟨rfl, rfl⟩ := trodVars_none hV
  obtain ⟨x, rfl, rfl, rfl, wx⟩ := open_float Tryd.underlying22 (hval 0 22 v0 rfl rfl) h0
  obtain ⟨y, rfl, rfl, rfl, wy⟩ := open_float Tryd.underlying22 (hval 1 22 v1 rfl rfl) h1
  have lx : x < 2^64 := by simpa [Lit.wf] using wx
  have ly : y < 2^64 := by simpa [Lit.wf] using wy
  obtain ⟨b0, b1, b2, b3, rfl, rfl, hb⟩ := open_rect (hval 2 24 v2 rfl rfl) h2
  simp only [List.append_nil] at hW'
  rw [MakeChecks.laidMetH_plain _ _ _ (by kernel_rfl)] at hL
  have hl : Lies W := lies_of (laidMet.reads hL (by simp [Rows.fnBoxRow])) (laidMet.reads hL (by simp [Rows.fnBoxRow])) (laidMet.reads hL (by simp [Rows.fnBoxRow]))
  refine (box_any x y b0 b1 b2 b3 W hl lx ly hb).mono fun e W' ⟨he, hbw⟩ => ?_
  subst he
  exact ⟨_, rfl, _, _, _, [], [], [], hW', trodAll_mk1 (shut_bool Tryd.underlying4 _),
    trodAll_mk3 (Below.trod laidOut (by kernel_rfl) (of_decide_eq_true (by kernel_rfl)) h0 hbw (fun x hx => by cases hx)) (Below.trod laidOut (by kernel_rfl) (of_decide_eq_true (by kernel_rfl)) h1 hbw (fun x hx => by cases hx)) (Below.trod laidOut (by kernel_rfl) (of_decide_eq_true (by kernel_rfl)) h2 hbw (fun x hx => by cases hx)), rfl, hbw.frame _, fun h => by cases h⟩

theorem fnBox_holds : Rows.FnBoxSaid :=
  OpenClaim.holds_of_wide 5 Tryd.f5 rfl rfl rfl rfl rfl rfl rfl ⟨rfl, rfl, rfl, rfl, rfl⟩ rfl rfl rfl rfl rfl (by kernel_rfl) Tryd.func5 (by kernel_rfl)
    (of_decide_eq_true (by kernel_rfl)) (by unfold Func.isWrapper; rw [if_neg (of_decide_eq_false (by kernel_rfl))]; exact ⟨rfl, rfl⟩)
    (fun os started H enc _ => fnBox_lifted os started H enc)

theorem fnBox_card : Rows.FnBoxCardSaid :=
  Claim7.holds_tied_plain_at .later [] [.data, .data, .widerDeep, .widerDeep, .data, .data, .data, .data, .data, .sentinel, .sentinel, .pinned, .pinned] true (true, "e99f9b5bf0b2ec7300739cbd3877becef993a3c704417c96a26f151e3a5b16fe") true
    fnBox_holds (fun _ h => by cases h) (by kernel_rfl) (fun _ h => by cases h) fnBox_row_tie rfl ⟨rfl, rfl⟩ (by kernel_rfl) rfl
    (fun f fn hf hfn => by
      obtain rfl : f = 5 := Option.some.inj ((show Tryd.prog.funcNamed "pub-thornbush/laws.FnBox" = some 5 by kernel_rfl).symm.trans hf) |>.symm
      obtain rfl : fn = Tryd.f5 := (Option.some.inj (Tryd.func5.symm.trans hfn)).symm
      exact ⟨by kernel_rfl, fun j t ht => by
        rw [Tryd.params5] at ht
        have hm : t ∈ [22, 22, 24] := by simpa using Array.mem_of_getElem? ht
        have hall : ([22, 22, 24].all fun u => !Tryd.prog.wantsStandIn u) = true := by kernel_rfl
        exact (show Tryd.prog.wantsStandIn t = false by simpa using List.all_eq_true.1 hall t hm)⟩)
    (by kernel_rfl)
#print axioms fnBox_card
end Go.Proofs.YtobloagecjhhiaaDoor
