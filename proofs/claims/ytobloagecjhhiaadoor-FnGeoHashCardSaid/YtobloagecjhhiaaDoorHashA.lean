/-
  laws.FnGeoHash over every input: the walk and the numbers joined. Condition: the listed variables hold what the row lists.
-/
import Derived.Test.YtobloagecjhhiaaDoorHashB
import Derived.Test.YtobloagecjhhiaaDoorGeoP
namespace Go.Proofs.YtobloagecjhhiaaDoor
open Go.RowKit Go.PlainAid Fl

theorem letter_lt : ∀ k, k < 32 → (letter k).toNat = lt k ∧ idx 32 (lt k) = k := by
  intro k hk
  have h : ((List.range 32).all fun k => decide ((letter k).toNat = lt k) && decide (idx 32 (lt k) = (k : Int))) = true := by decide +kernel
  have h2 := List.all_eq_true.1 h k (List.mem_range.2 hk)
  simp only [Bool.and_eq_true, decide_eq_true_eq] at h2
  exact h2

theorem txt_list (x y n : Nat) : (txt x y n).data.toList = (List.range n).map fun i => letter (kv x y i 5) := by
  induction n with
  | zero => rfl
  | succ n ih =>
    show (txt x y n ++ ⟨#[letter (kv x y n 5)]⟩).data.toList = _
    rw [List.range_succ, List.map_append, ← ih, ByteArray.data_append]
    simp

theorem txt_byte (x y n i : Nat) (h : i < n) : byteAt (txt x y n) i = lt (kv x y i 5) := by
  have hs : i < (txt x y n).size := by rw [txt_size]; exact h
  rw [← byte_get _ i hs]
  have e : (txt x y n)[i]'hs = letter (kv x y i 5) := by
    have h1 : (txt x y n).data.toList[i]? = some ((txt x y n)[i]'hs) := by
      rw [Array.getElem?_toList]; exact Array.getElem?_eq_getElem hs
    rw [txt_list, List.getElem?_map, List.getElem?_range h] at h1
    exact (Option.some.inj h1).symm
  rw [e]
  exact (letter_lt _ (kv_lt x y i 5)).1

set_option maxHeartbeats 400000 in
theorem hash30 (x y : Nat) (w : World) (hm : Masks w) : Calls Tryd.prog 30 #[.int .u64 y, .int .u64 x] w fun e w' => e = .returned (.string (txt x y 12)) ∧ Below w.heap.size w w' := by
  have c := encode43 x y w hm
  have q20 := frombits20
  clear hm
  generalize txt x y 12 = S at *
  go_enter Tryd.func30, Tryd.ntmps30
  go_wp2_with (go_at_call 43; refine c.mono ?_; rintro e w' ⟨rfl, hb⟩)
  go_ret
  exact ⟨rfl, hb⟩

theorem place_txt (x y : Nat) (w : World) (hm : Masks w) :
    Calls Tryd.prog 23 #[.string (txt x y 12)] w fun e w' => e = .returned (.tuple #[.int .u64 (mid (path x y 60).y0 (path x y 60).y1 : Nat), .int .u64 (mid (path x y 60).x0 (path x y 60).x1 : Nat)]) ∧ Below w.heap.size w w' := by
  have hb : ∀ i, i < 12 → idx 32 (byteAt (txt x y 12) i) = (kv x y i 5 : Nat) := fun i hi => by rw [txt_byte x y 12 i hi]; exact (letter_lt _ (kv_lt x y i 5)).2
  have c := place23 (txt x y 12) w (by rw [txt_size]; decide) (fun i hi => by rw [txt_size] at hi; rw [hb i hi]; omega) hm
  rw [txt_size, after_congr (v' := fun i => kv x y i 5) 12 (fun i hi => by unfold valAt; rw [hb i hi]; rfl), path_after] at c
  exact c

set_option maxHeartbeats 1000000 in
theorem gh_any (x y : Nat) (w : World) (hl : Lies w) (hm : Masks w) (lx : x < 2^64) (ly : y < 2^64) :
    Calls Tryd.prog 9 #[.float .f64 x, .float .f64 y] w fun e w' => e = .returned (.bool true) ∧ Below w.heap.size w w' := by
  have HL := Lib.hid hl
  have HM := Lib.hid hm
  have c0 := place24 x y w
  have ca := fun w2 (hb : Below w.heap.size w w2) => awake11 w2 (HL.out.below hb)
  have q20 := frombits20
  have q26 := bits26
  cases hp : placeB x y with
  | false =>
    rw [hp] at c0
    clear hl hm hp lx ly
    go_enter Tryd.func9, Tryd.ntmps9
    go_wp2_with fail
    refine c0.mono ?_
    rintro e w' ⟨rfl, rfl⟩
    go_wp2_with fail
    refine (ca _ (Below.refl _ _)).mono ?_
    rintro e w' ⟨rfl, hb⟩
    go_wp2
    go_ret
    exact ⟨rfl, hb⟩
  | true =>
    rw [hp] at c0
    obtain ⟨fx, fy, _⟩ := placeB_V lx ly hp
    obtain ⟨nx, ny⟩ := path_near x y lx ly hp
    have hg := good_path x y 60
    obtain ⟨_, _, _, ex, _⟩ := mid_law hg.x
    obtain ⟨_, _, _, ey, _⟩ := mid_law hg.y
    have d0 := fun w => near_true ey.fb fy (near_abs ey.fb fy (fmax_abs ey.fb fy).1 ny) w
    have d1 := fun w => near_true ex.fb fx (near_abs ex.fb fx (fmax_abs ex.fb fx).1 nx) w
    clear hl hm hp lx ly nx ny hg ex ey fx fy
    go_enter Tryd.func9, Tryd.ntmps9
    go_wp2_with fail
    refine c0.mono ?_
    rintro e w' ⟨rfl, rfl⟩
    go_wp2_with fail
    refine (hash29 x y _).mono ?_
    rintro e w1 ⟨S, ok, rfl, hS, hb1⟩
    have HS := Lib.hid hS
    have hb1 := Lib.hid hb1
    clear hS
    cases ok with
    | false =>
      go_wp2_with fail
      refine (ca _ hb1.out).mono ?_
      rintro e w2 ⟨rfl, hb2⟩
      have hb2 := Lib.hid (hb1.out.trans (hb2.mono hb1.out.size))
      go_wp2
      go_ret
      exact ⟨rfl, hb2.out⟩
    | true =>
      have hS2 := HS.out rfl
      subst hS2
      clear HS
      go_wp2_with fail
      refine (hash30 x y _ (HM.out.below hb1.out)).mono ?_
      rintro e w2 ⟨rfl, hb2⟩
      have hb2 := Lib.hid (hb1.out.trans (hb2.mono hb1.out.size))
      go_wp2_with fail
      refine (place_txt x y _ (HM.out.below hb2.out)).mono ?_
      rintro e w3 ⟨rfl, hb3⟩
      have hb3 := Lib.hid (hb2.out.trans (hb3.mono hb2.out.size))
      go_wp2_with fail
      refine (ca _ hb3.out).mono ?_
      rintro e w4 ⟨rfl, hb4⟩
      have hb4 := Lib.hid (hb3.out.trans (hb4.mono hb3.out.size))
      go_wp2_with fail
      refine (d0 _).mono ?_
      rintro e w' ⟨rfl, rfl⟩
      go_wp2_with fail
      refine (d1 _).mono ?_
      rintro e w' ⟨rfl, rfl⟩
      go_wp2
      go_ret
      exact ⟨rfl, hb4.out⟩
end Go.Proofs.YtobloagecjhhiaaDoor
