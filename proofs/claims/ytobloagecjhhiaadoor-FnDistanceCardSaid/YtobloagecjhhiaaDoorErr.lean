/-
  The walks of strconv.ParseFloat over a text that begins with '?': an error. Condition: the text has at most 3*10^9 bytes.
-/
import Derived.Test.YtobloagecjhhiaaDoorDist
import Derived.LaidEql
import Derived.Test.YtobloagecjhhiaaDoorShelf
namespace Go.Proofs.YtobloagecjhhiaaDoor
open Go.RowKit Go.PlainAid

set_option maxHeartbeats 400000 in
theorem special_any (s : ByteArray) (w : World) (hp : 0 < s.size) (hm : s.size ≤ 3000000000) (h1 : 48 ≤ bt s 0) (h2 : bt s 0 ≤ 63) :
    Calls Tryd.prog 77 #[.string s] w fun e w' => e = .returned (.tuple #[.float .f64 0, .int .i64 0, .bool false]) ∧ w = w' := by
  have hb := get_bt s
  go_enter Tryd.func77, Tryd.ntmps77
  go_wp2
  go_ret3
  exact ⟨rfl, rfl⟩

set_option maxRecDepth 100000 in
set_option maxHeartbeats 1000000 in
theorem readFloat_bad (s : ByteArray) (w : World) (hp : 0 < s.size) (hs : s.size ≤ 3000000000) (h0 : bt s 0 = 63) :
    Calls Tryd.prog 78 #[.string s] w fun e w' => e = .returned (.tuple #[.int .u64 0, .int .i64 0, .bool false, .bool false, .bool false, .int .i64 0, .bool false]) ∧ w = w' := by
  have hb := get_bt s
  have hse : ¬ s = ByteArray.empty := by rintro rfl; exact absurd hp (by decide)
  have H0 := Lib.hid h0
  have t1 : (bt s 0 == 43) = false := beq_eq_false_iff_ne.2 (by omega)
  have t2 : (bt s 0 == 45) = false := beq_eq_false_iff_ne.2 (by omega)
  have t3 : (bt s 0 == 48) = false := beq_eq_false_iff_ne.2 (by omega)
  have t4 : (bt s 0 == 95) = false := beq_eq_false_iff_ne.2 (by omega)
  have t5 : (bt s 0 == 46) = false := beq_eq_false_iff_ne.2 (by omega)
  have t6 : 48 ≤ bt s 0 := by omega
  have t7 : ¬ bt s 0 ≤ 57 := by omega
  clear h0
  by_cases h3 : 2 < s.size
  · go_enter Tryd.func78, Tryd.ntmps78
    go_wp2
    go_step3
    go_wp2
    go_step3
    go_wp2
    refine wp_loop_rounds 1 ?_
    rw [rounds_succ]
    go_wp2
    rw [Exit.noGoto_ret]
    exact bodyPost_ret (results_tmp7 rfl _ _) rfl ⟨rfl, rfl⟩
  · go_enter Tryd.func78, Tryd.ntmps78
    go_wp2
    go_step3
    go_wp2
    go_step3
    go_wp2
    refine wp_loop_rounds 1 ?_
    rw [rounds_succ]
    go_wp2
    rw [Exit.noGoto_ret]
    exact bodyPost_ret (results_tmp7 rfl _ _) rfl ⟨rfl, rfl⟩

set_option maxRecDepth 100000 in
set_option maxHeartbeats 1000000 in
theorem atof64_bad (s : ByteArray) (w : World) (hp : 0 < s.size) (hs : s.size ≤ 3000000000) (h0 : bt s 0 = 63) :
    Calls Tryd.prog 74 #[.string s] w fun e w' => e = .returned (.tuple #[.float .f64 0, .int .i64 0, .iface 94 (.int .i64 2)]) ∧ w = w' := by
  have c77 := special_any s w hp hs (by omega) (by omega)
  have c78 := readFloat_bad s w hp hs h0
  clear h0
  go_enter Tryd.func74, Tryd.ntmps74
  go_wp2_with (first | (go_at_call 77; refine c77.mono ?_; rintro e w' ⟨rfl, rfl⟩) | (go_at_call 78; refine c78.mono ?_; rintro e w' ⟨rfl, rfl⟩))
  go_ret3
  exact ⟨rfl, rfl⟩

set_option maxHeartbeats 400000 in
theorem prefix_bad (s : ByteArray) (w : World) (hp : 0 < s.size) (hs : s.size ≤ 3000000000) (h0 : bt s 0 = 63) :
    Calls Tryd.prog 68 #[.string s, .int .i64 64] w fun e w' => e = .returned (.tuple #[.float .f64 0, .int .i64 0, .iface 94 (.int .i64 2)]) ∧ w = w' := by
  have c74 := atof64_bad s w hp hs h0
  clear h0
  go_enter Tryd.func68, Tryd.ntmps68
  go_wp2_with (go_at_call 74; refine c74.mono ?_; rintro e w' ⟨rfl, rfl⟩)
  go_ret3
  exact ⟨rfl, rfl⟩

set_option maxHeartbeats 400000 in
theorem parse65_bad (s : ByteArray) (w : World) (hp : 0 < s.size) (hs : s.size ≤ 3000000000) (h0 : bt s 0 = 63) :
    Calls Tryd.prog 65 #[.string s, .int .i64 64] w fun e w' => e = .returned (.tuple #[.float .f64 0, .iface 94 (.int .i64 2)]) ∧ w = w' := by
  have c := prefix_bad s w hp hs h0
  have t : ((0 : Int) != s.size) = true := by simp; omega
  clear h0
  go_enter Tryd.func65, Tryd.ntmps65
  go_wp2_with (go_at_call 68; refine c.mono ?_; rintro e w' ⟨rfl, rfl⟩)
  go_ret2
  exact ⟨rfl, rfl⟩

set_option maxHeartbeats 400000 in
theorem parse48_bad (s : ByteArray) (w : World) (hp : 0 < s.size) (hs : s.size ≤ 3000000000) (h0 : bt s 0 = 63) (te : TypeId) (pe : Value) (hv : w.cell? ⟨5, 0, none⟩ = some (.iface te pe)) :
    Calls Tryd.prog 48 #[.string s, .int .i64 64] w fun e w' => ∃ N, e = .returned (.tuple #[.float .f64 0, .iface 95 (.pointer (some ⟨N, 0, none⟩))]) ∧ Below w.heap.size w w' := by
  have c := parse65_bad s w hp hs h0
  have c66 := Lib.hid (Tryd.strconv_toError_syntax ⟨#[80, 97, 114, 115, 101, 70, 108, 111, 97, 116]⟩ s 0 64 _ w (by omega) hv (Or.inr ⟨te, pe, rfl⟩))
  clear h0 hv
  go_enter Tryd.func48, Tryd.ntmps48
  go_wp2_with fail
  refine c.mono ?_
  rintro e w' ⟨rfl, rfl⟩
  go_wp2_with fail
  refine c66.out.mono ?_
  rintro e w1 ⟨N, rfl, _, _, hb⟩
  go_wp2
  go_ret2
  exact ⟨N, rfl, hb⟩
end Go.Proofs.YtobloagecjhhiaaDoor
