/-
  The walk of geo.ParseDistance over a text that ends in the name of a unit. Condition: the text has at most 3*10^9 bytes; the number ahead of the name is met by a contract that is handed in.
-/
import Derived.Test.YtobloagecjhhiaaDoorUnits
namespace Go.Proofs.YtobloagecjhhiaaDoor
open Go.RowKit Go.PlainAid

theorem Knows.below {w w' : World} (h : Knows w) (hb : Below w.heap.size w w') (h8 : 12 < w.heap.size) (hp : ∀ b o c, w.cell? ⟨12, 0, none⟩ = some (.slice (some ⟨b, o, none⟩) 23 c) → b < w.heap.size) : Knows w' := by
  obtain ⟨b, o, c, h1, h2⟩ := h.pow
  refine ⟨?_, ?_, b, o, c, ?_, ?_⟩
  · rw [hb.cell (p := ⟨8, 0, none⟩) (by show 8 < _; omega)]; exact h.opt
  · rw [hb.cell (p := ⟨9, 0, none⟩) (by show 9 < _; omega)]; exact h.mant
  · rw [hb.cell (p := ⟨12, 0, none⟩) (by show 12 < _; omega)]; exact h1
  · rw [hb.cell (p := ⟨b, o + 2, none⟩) (hp _ _ _ h1)]; exact h2

theorem nm_size (k : Nat) : (nm k).size ≤ 20 := by
  by_cases h : k < 18
  · have : k = 0 ∨ k = 1 ∨ k = 2 ∨ k = 3 ∨ k = 4 ∨ k = 5 ∨ k = 6 ∨ k = 7 ∨ k = 8 ∨ k = 9 ∨ k = 10 ∨ k = 11 ∨ k = 12 ∨ k = 13 ∨ k = 14 ∨ k = 15 ∨ k = 16 ∨ k = 17 := by omega
    rcases this with h | h | h | h | h | h | h | h | h | h | h | h | h | h | h | h | h | h <;> (subst h; decide)
  · unfold nm
    rw [List.getD_eq_getElem?_getD, List.getElem?_eq_none (by show 18 ≤ k; omega)]; decide

/-- K is the first unit whose name d ends in (18: there is none). -/
structure FirstUnit (d : ByteArray) (K : Nat) : Prop where
  le : K ≤ 18
  no : ∀ k, k < K → sufB d (nm k) = false
  yes : K < 18 → sufB d (nm K) = true

theorem units45' (w : World) : Calls Tryd.prog 45 #[] w fun e w' => e = .returned (.slice (some ⟨w.heap.size + 18, 0, none⟩) 9 9) ∧ (UnitsAt w' w.heap.size ∧ Below w.heap.size w w') :=
  (units45 w).mono fun _ _ ⟨he, hw⟩ => ⟨he, by rw [hw]; exact ⟨unitsAt w, allocs_below _ _⟩⟩

set_option maxRecDepth 100000 in
set_option maxHeartbeats 200000 in
theorem dist37 (d : ByteArray) (w : World) (K r q : Nat) (hd : d.size ≤ 3000000000) (hK : FirstUnit d K) (h18 : K < 18)
    (hcall : ∀ w', Below w.heap.size w w' → Calls Tryd.prog 48 #[.string (d.extract 0 (d.size - (nm K).size)), .int .i64 64] w' fun e w'' => e = .returned (.tuple #[.float .f64 r, .nilIface]) ∧ w' = w'')
    (hq : Ieee.double.mul r (cv (K / 2)) = some q) :
    Calls Tryd.prog 37 #[.string d] w fun e w' => e = .returned (.tuple #[.float .f64 q, .nilIface]) ∧ Below w.heap.size w w' := by
  go_enter Tryd.func37, Tryd.ntmps37
  go_wp2_with (go_at_call 45; refine (units45' w).mono ?_; rintro e w1 ⟨rfl, hu, hb⟩)
  have HC := Lib.hid (hcall w1 hb)
  clear hcall
  have HB := Lib.hid hb
  clear hb
  have HU := Lib.hid hu
  clear hu
  have HQ := Lib.hid hq
  clear hq
  go_loop [14] (fun s14 => ∃ i : Nat, i ≤ 9 ∧ 2 * i ≤ K ∧ s14 = .int .i64 i) (fun s14 => 9 - (intOf s14).toNat)
  case atStart => exact ⟨0, by omega, by omega, rfl⟩
  case round =>
    obtain ⟨i, hi, hiK, rfl⟩ := hrel
    have hi9 : i < 9 := by omega
    have hptr := HU.out.ptr i hi9
    have hsuf := HU.out.suf i hi9
    have hcv := HU.out.conv i hi9
    go_wp2
    go_loop [23] (fun s23 => ∃ j : Nat, j ≤ 2 ∧ 2 * i + j ≤ K ∧ s23 = .int .i64 j) (fun s23 => 2 - (intOf s23).toNat)
    case atStart => exact ⟨0, by omega, by omega, rfl⟩
    case round =>
      obtain ⟨j, hj, hjK, rfl⟩ := hrel
      by_cases hj2 : j < 2
      · have hstr := HU.out.str i j hi9 hj2
        have hsz := nm_size (2 * i + j)
        by_cases hlt : 2 * i + j < K
        · have c47 := suffix47 d (nm (2 * i + j)) w1 (by omega) (by omega)
          rw [hK.no _ hlt] at c47
          go_wp2_with (go_at_call 47; refine c47.mono ?_; rintro e w' ⟨rfl, rfl⟩)
          go_round
          case rel => exact ⟨j + 1, by omega, by omega, by go_num⟩
          case measure => simp [intOf]; omega
        · have hjk : 2 * i + j = K := by omega
          have c47 := suffix47 d (nm (2 * i + j)) w1 (by omega) (by omega)
          have hyes := hK.yes h18
          rw [← hjk] at hyes
          rw [hyes] at c47
          have hle : (nm (2 * i + j)).size ≤ d.size := by
            unfold sufB at hyes
            simp only [Bool.and_eq_true, decide_eq_true_eq] at hyes
            exact hyes.1
          have HC' := HC.out
          rw [← hjk] at HC'
          have hsub : ((d.size : Int) - (nm (2 * i + j)).size).toNat = d.size - (nm (2 * i + j)).size := by omega
          have hpos : 0 ≤ (d.size : Int) - (nm (2 * i + j)).size := by omega
          have hle2 : (d.size : Int) - (nm (2 * i + j)).size ≤ d.size := by omega
          have H48 := Lib.hid HC'
          clear HC' hyes
          have HJ := Lib.hid hjk
          clear hjk
          go_wp2_with (first | (go_at_call 47; refine c47.mono ?_; rintro e w' ⟨rfl, rfl⟩))
          refine H48.out.mono ?_
          rintro e w' ⟨rfl, rfl⟩
          have hq2 : Ieee.double.mul r (cv i) = some q := by
            have := HQ.out
            rw [← HJ.out, show (2 * i + j) / 2 = i by omega] at this
            exact this
          have hmul := fun w => run_float_arith (P := Tryd.prog) w .mul 22 .f64 r (cv i) q hq2
          clear hq2
          go_wp2
          go_ret2
          exact ⟨rfl, HB.out⟩
      · have hje : j = 2 := by omega
        subst hje
        go_wp2
        go_round
        case rel => exact ⟨i + 1, by omega, by omega, by go_num⟩
        case measure => simp [intOf]; omega
end Go.Proofs.YtobloagecjhhiaaDoor
