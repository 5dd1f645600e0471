/-
  The walks of geo.ParseDistanceUnit and impl.DistanceUnit, over the name of a unit and over another text.
-/
import Derived.Test.YtobloagecjhhiaaDoorDist2
namespace Go.Proofs.YtobloagecjhhiaaDoor
open Go.RowKit Go.PlainAid

set_option maxRecDepth 100000 in
set_option maxHeartbeats 400000 in
theorem unit36 (u : ByteArray) (w : World) (K c : Nat) (hc : cv (K / 2) = c) (h18 : K < 18) (hno : ∀ k, k < K → (u.toList == (nm k).toList) = false) (hyes : (u.toList == (nm K).toList) = true) :
    Calls Tryd.prog 36 #[.string u] w fun e w' => e = .returned (.tuple #[.float .f64 c, .nilIface]) ∧ Below w.heap.size w w' := by
  have HN := Lib.hid hno
  have HY := Lib.hid hyes
  have HCv := Lib.hid hc
  clear hno hyes hc
  go_enter Tryd.func36, Tryd.ntmps36
  go_wp2_with (go_at_call 45; refine (units45' w).mono ?_; rintro e w1 ⟨rfl, hu, hb⟩)
  have HB := Lib.hid hb
  clear hb
  have HU := Lib.hid hu
  clear hu
  go_loop [10] (fun s10 => ∃ i : Nat, i ≤ 9 ∧ 2 * i ≤ K ∧ s10 = .int .i64 i) (fun s10 => 9 - (intOf s10).toNat)
  case atStart => exact ⟨0, by omega, by omega, rfl⟩
  case round =>
    obtain ⟨i, hi, hiK, rfl⟩ := hrel
    have hi9 : i < 9 := by omega
    have hptr := HU.out.ptr i hi9
    have hsuf := HU.out.suf i hi9
    have hcv := HU.out.conv i hi9
    go_wp2
    go_loop [19] (fun s19 => ∃ j : Nat, j ≤ 2 ∧ 2 * i + j ≤ K ∧ s19 = .int .i64 j) (fun s19 => 2 - (intOf s19).toNat)
    case atStart => exact ⟨0, by omega, by omega, rfl⟩
    case round =>
      obtain ⟨j, hj, hjK, rfl⟩ := hrel
      by_cases hj2 : j < 2
      · have hstr := HU.out.str i j hi9 hj2
        by_cases hlt : 2 * i + j < K
        · have hn := HN.out _ hlt
          go_wp2
          go_round
          case rel => exact ⟨j + 1, by omega, by omega, by go_num⟩
          case measure => simp [intOf]; omega
        · have hjk : 2 * i + j = K := by omega
          have hn := HY.out
          rw [← hjk] at hn
          have hki : cv i = c := by rw [← HCv.out]; congr 1; omega
          rw [hki] at hcv
          clear hki
          have HJ := Lib.hid hjk
          clear hjk
          go_wp2
          go_ret2
          exact ⟨rfl, HB.out⟩
      · have hje : j = 2 := by omega
        subst hje
        go_wp2
        go_round
        case rel => exact ⟨i + 1, by omega, by omega, by go_num⟩
        case measure => simp [intOf]; omega

set_option maxRecDepth 100000 in
set_option maxHeartbeats 400000 in
theorem unit36_err (u : ByteArray) (w : World) (hno : ∀ k, k < 18 → (u.toList == (nm k).toList) = false) :
    Calls Tryd.prog 36 #[.string u] w fun e w' => ∃ N, e = .returned (.tuple #[.float .f64 0, .iface 87 (.pointer (some ⟨N, 0, none⟩))]) ∧ Below w.heap.size w w' := by
  have HN := Lib.hid hno
  clear hno
  go_enter Tryd.func36, Tryd.ntmps36
  go_wp2_with (go_at_call 45; refine (units45' w).mono ?_; rintro e w1 ⟨rfl, hu, hb⟩)
  have HB := Lib.hid hb
  clear hb
  have HU := Lib.hid hu
  clear hu
  go_loop [10] (fun s10 => ∃ i : Nat, i ≤ 9 ∧ s10 = .int .i64 i) (fun s10 => 9 - (intOf s10).toNat)
  case atStart => exact ⟨0, by omega, rfl⟩
  case round =>
    obtain ⟨i, hi, rfl⟩ := hrel
    by_cases hi9 : i < 9
    · have hptr := HU.out.ptr i hi9
      have hsuf := HU.out.suf i hi9
      go_wp2
      go_loop [19] (fun s19 => ∃ j : Nat, j ≤ 2 ∧ s19 = .int .i64 j) (fun s19 => 2 - (intOf s19).toNat)
      case atStart => exact ⟨0, by omega, rfl⟩
      case round =>
        obtain ⟨j, hj, rfl⟩ := hrel
        by_cases hj2 : j < 2
        · have hstr := HU.out.str i j hi9 hj2
          have hn := HN.out (2 * i + j) (by omega)
          go_wp2
          go_round
          case rel => exact ⟨j + 1, by omega, by go_num⟩
          case measure => simp [intOf]; omega
        · have hje : j = 2 := by omega
          subst hje
          go_wp2
          go_round
          case rel => exact ⟨i + 1, by omega, by go_num⟩
          case measure => simp [intOf]; omega
    · have hie : i = 9 := by omega
      subst hie
      go_wp2
      go_ret2
      have hb := HB.out
      exact ⟨⟨_, rfl⟩, hb.trans ((Below.refl _ _).alloc hb.size _)⟩

set_option maxHeartbeats 400000 in
theorem unit19 (u : ByteArray) (w : World) (c : Nat) (hc : Calls Tryd.prog 36 #[.string u] w fun e w' => e = .returned (.tuple #[.float .f64 c, .nilIface]) ∧ Below w.heap.size w w') :
    Calls Tryd.prog 19 #[.string u] w fun e w' => e = .returned (.tuple #[.int .u64 c, .bool true]) ∧ Below w.heap.size w w' := by
  have HC := Lib.hid hc
  clear hc
  have q26 := bits26
  go_enter Tryd.func19, Tryd.ntmps19
  go_wp2_with (go_at_call 36; refine HC.out.mono ?_; rintro e w1 ⟨rfl, hb⟩)
  go_ret2
  exact ⟨rfl, hb⟩

set_option maxHeartbeats 400000 in
theorem unit19_err (u : ByteArray) (w : World) (hc : Calls Tryd.prog 36 #[.string u] w fun e w' => ∃ N, e = .returned (.tuple #[.float .f64 0, .iface 87 (.pointer (some ⟨N, 0, none⟩))]) ∧ Below w.heap.size w w') :
    Calls Tryd.prog 19 #[.string u] w fun e w' => e = .returned (.tuple #[.int .u64 0, .bool false]) ∧ Below w.heap.size w w' := by
  have HC := Lib.hid hc
  clear hc
  go_enter Tryd.func19, Tryd.ntmps19
  go_wp2_with (go_at_call 36; refine HC.out.mono ?_; rintro e w1 ⟨N, rfl, hb⟩)
  go_ret2
  exact ⟨rfl, hb⟩
end Go.Proofs.YtobloagecjhhiaaDoor
