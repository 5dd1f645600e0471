/-
  The walks of geo.ParseDistance over a text without a unit, and over one whose number is an error; geo.ParseDistanceUnit over a unit's name and over another text. Condition: the text has at most 3*10^9 bytes.
-/
import Derived.Test.YtobloagecjhhiaaDoorErr
namespace Go.Proofs.YtobloagecjhhiaaDoor
open Go.RowKit Go.PlainAid

set_option maxRecDepth 100000 in
set_option maxHeartbeats 400000 in
theorem dist37_none (d : ByteArray) (w : World) (r : Nat) (hd : d.size ≤ 3000000000) (hK : FirstUnit d 18)
    (hcall : ∀ w', Below w.heap.size w w' → Calls Tryd.prog 48 #[.string d, .int .i64 64] w' fun e w'' => e = .returned (.tuple #[.float .f64 r, .nilIface]) ∧ w' = w'') :
    Calls Tryd.prog 37 #[.string d] w fun e w' => e = .returned (.tuple #[.float .f64 r, .nilIface]) ∧ Below w.heap.size w w' := by
  go_enter Tryd.func37, Tryd.ntmps37
  go_wp2_with (go_at_call 45; refine (units45' w).mono ?_; rintro e w1 ⟨rfl, hu, hb⟩)
  have HC := Lib.hid (hcall w1 hb)
  clear hcall
  have HB := Lib.hid hb
  clear hb
  have HU := Lib.hid hu
  clear hu
  go_loop [14] (fun s14 => ∃ i : Nat, i ≤ 9 ∧ s14 = .int .i64 i) (fun s14 => 9 - (intOf s14).toNat)
  case atStart => exact ⟨0, by omega, rfl⟩
  case round =>
    obtain ⟨i, hi, rfl⟩ := hrel
    by_cases hi9 : i < 9
    · have hptr := HU.out.ptr i hi9
      have hsuf := HU.out.suf i hi9
      go_wp2
      go_loop [23] (fun s23 => ∃ j : Nat, j ≤ 2 ∧ s23 = .int .i64 j) (fun s23 => 2 - (intOf s23).toNat)
      case atStart => exact ⟨0, by omega, rfl⟩
      case round =>
        obtain ⟨j, hj, rfl⟩ := hrel
        by_cases hj2 : j < 2
        · have hstr := HU.out.str i j hi9 hj2
          have hsz := nm_size (2 * i + j)
          have c47 := suffix47 d (nm (2 * i + j)) w1 (by omega) (by omega)
          rw [hK.no _ (by omega)] at c47
          go_wp2_with (go_at_call 47; refine c47.mono ?_; rintro e w' ⟨rfl, rfl⟩)
          go_round
          case rel => exact ⟨j + 1, by omega, by go_num⟩
          case measure => simp [intOf]; omega
        · have hje : j = 2 := by omega
          subst hje
          go_wp2
          go_round
          case rel => exact ⟨i + 1, by omega, by go_num⟩
          case measure => simp [intOf]; omega
    · have hie : i = 9 := by omega
      subst hie
      go_wp2_with fail
      refine HC.out.mono ?_
      rintro e w' ⟨rfl, rfl⟩
      go_wp2
      go_ret2
      exact ⟨rfl, HB.out⟩

set_option maxRecDepth 100000 in
set_option maxHeartbeats 400000 in
theorem dist37_err (d : ByteArray) (w : World) (K : Nat) (hd : d.size ≤ 3000000000) (hK : FirstUnit d K)
    (hcall : ∀ w', Below w.heap.size w w' → ∀ t : ByteArray, (K < 18 → t = d.extract 0 (d.size - (nm K).size)) → (K = 18 → t = d) → Calls Tryd.prog 48 #[.string t, .int .i64 64] w' fun e w'' => ∃ N, e = .returned (.tuple #[.float .f64 0, .iface 95 (.pointer (some ⟨N, 0, none⟩))]) ∧ Below w'.heap.size w' w'') :
    Calls Tryd.prog 37 #[.string d] w fun e w' => ∃ N, e = .returned (.tuple #[.float .f64 0, .iface 95 (.pointer (some ⟨N, 0, none⟩))]) ∧ Below w.heap.size w w' := by
  go_enter Tryd.func37, Tryd.ntmps37
  go_wp2_with (go_at_call 45; refine (units45' w).mono ?_; rintro e w1 ⟨rfl, hu, hb⟩)
  have HC := Lib.hid (hcall w1 hb)
  clear hcall
  have HB := Lib.hid hb
  clear hb
  have HU := Lib.hid hu
  clear hu
  have hK18 := hK.le
  go_loop [14] (fun s14 => ∃ i : Nat, i ≤ 9 ∧ 2 * i ≤ K ∧ s14 = .int .i64 i) (fun s14 => 9 - (intOf s14).toNat)
  case atStart => exact ⟨0, by omega, by omega, rfl⟩
  case round =>
    obtain ⟨i, hi, hiK, rfl⟩ := hrel
    by_cases hi9 : i < 9
    · have hptr := HU.out.ptr i hi9
      have hsuf := HU.out.suf i hi9
      have hcv := HU.out.conv i hi9
      go_wp2
      go_loop [23] (fun s23 => ∃ j : Nat, j ≤ 2 ∧ 2 * i + j ≤ K ∧ s23 = .int .i64 j) (fun s23 => 2 - (intOf s23).toNat)
      case atStart => exact ⟨0, by omega, by omega, rfl⟩
      case round =>
        obtain ⟨j, hj, hjK, rfl⟩ := hrel
        by_cases hj2 : j < 2
        · have hstr := HU.out.str i j hi9 hj2
          have hsz := nm_size (2 * i + j)
          by_cases hlt : 2 * i + j < K
          · have c47 := suffix47 d (nm (2 * i + j)) w1 (by omega) (by omega)
            rw [hK.no _ hlt] at c47
            go_wp2_with (go_at_call 47; refine c47.mono ?_; rintro e w' ⟨rfl, rfl⟩)
            go_round
            case rel => exact ⟨j + 1, by omega, by omega, by go_num⟩
            case measure => simp [intOf]; omega
          · have hjk : 2 * i + j = K := by omega
            have c47 := suffix47 d (nm (2 * i + j)) w1 (by omega) (by omega)
            have hyes := hK.yes (by omega)
            rw [← hjk] at hyes
            rw [hyes] at c47
            have hle : (nm (2 * i + j)).size ≤ d.size := by
              unfold sufB at hyes
              simp only [Bool.and_eq_true, decide_eq_true_eq] at hyes
              exact hyes.1
            have HC' := HC.out (d.extract 0 (d.size - (nm (2 * i + j)).size)) (fun _ => by rw [hjk]) (fun h => by omega)
            have hsub : ((d.size : Int) - (nm (2 * i + j)).size).toNat = d.size - (nm (2 * i + j)).size := by omega
            have hpos : 0 ≤ (d.size : Int) - (nm (2 * i + j)).size := by omega
            have hle2 : (d.size : Int) - (nm (2 * i + j)).size ≤ d.size := by omega
            have H48 := Lib.hid HC'
            clear HC' hyes
            have HJ := Lib.hid hjk
            clear hjk
            go_wp2_with (first | (go_at_call 47; refine c47.mono ?_; rintro e w' ⟨rfl, rfl⟩))
            refine H48.out.mono ?_
            rintro e w2 ⟨N, rfl, hb2⟩
            go_wp2
            go_ret2
            exact ⟨N, rfl, HB.out.trans (hb2.mono HB.out.size)⟩
        · have hje : j = 2 := by omega
          subst hje
          go_wp2
          go_round
          case rel => exact ⟨i + 1, by omega, by omega, by go_num⟩
          case measure => simp [intOf]; omega
    · have hie : i = 9 := by omega
      subst hie
      have HC' := Lib.hid (HC.out d (fun h => by omega) (fun _ => rfl))
      go_wp2_with fail
      refine HC'.out.mono ?_
      rintro e w2 ⟨N, rfl, hb2⟩
      go_wp2
      go_ret2
      exact ⟨N, rfl, HB.out.trans (hb2.mono HB.out.size)⟩

set_option maxHeartbeats 400000 in
theorem dist21_err (d : ByteArray) (w : World) (hc : Calls Tryd.prog 37 #[.string d] w fun e w' => ∃ N, e = .returned (.tuple #[.float .f64 0, .iface 95 (.pointer (some ⟨N, 0, none⟩))]) ∧ Below w.heap.size w w') :
    Calls Tryd.prog 21 #[.string d] w fun e w' => e = .returned (.tuple #[.int .u64 0, .bool false]) ∧ Below w.heap.size w w' := by
  have HC := Lib.hid hc
  clear hc
  go_enter Tryd.func21, Tryd.ntmps21
  go_wp2_with (go_at_call 37; refine HC.out.mono ?_; rintro e w1 ⟨N, rfl, hb⟩)
  go_ret2
  exact ⟨rfl, hb⟩
end Go.Proofs.YtobloagecjhhiaaDoor
