/-
  What geo's distanceUnits lays in memory, and strings.HasSuffix. Condition: texts of at most 4*10^9 bytes.
-/
import Derived.Test.YtobloagecjhhiaaDoorNum
namespace Go.Proofs.YtobloagecjhhiaaDoor
open Go.RowKit Go.PlainAid

theorem run_store_float (P : Program) (w : World) (a : Addr) (m : Mode) (k : FloatKind) (n : Nat) : (store a (.float k n) m).run P w = stored P w a (.float k n) m := run_store P w a _ m rfl
attribute [go_sem] run_store_float

/-- New blocks, one behind the other. -/
def allocs (w : World) : List Obj → World
  | [] => w
  | o :: os => allocs (w.alloc o) os

theorem allocs_below (w : World) (os : List Obj) : Below w.heap.size w (allocs w os) := by
  suffices h : ∀ B, B ≤ w.heap.size → Below B w (allocs w os) from h _ (Nat.le_refl _)
  induction os generalizing w with
  | nil => intro B _; exact Below.refl _ _
  | cons o os ih =>
    intro B hB
    have h1 : Below B w (w.alloc o) := (Below.refl _ _).alloc hB _
    exact h1.trans (ih (w.alloc o) B (by rw [World.size_alloc]; omega))

theorem allocs_heap (w : World) (os : List Obj) (k : Nat) (o : Obj) (h : os[k]? = some o) : (allocs w os).heap[w.heap.size + k]? = some o := by
  induction os generalizing w k with
  | nil => simp at h
  | cons o' os ih =>
    cases k with
    | zero =>
      simp only [List.getElem?_cons_zero, Option.some.injEq] at h
      subst h
      have hb := allocs_below (w.alloc o') os
      have := hb.block w.heap.size (by rw [World.size_alloc]; omega)
      show (allocs (w.alloc o') os).heap[w.heap.size + 0]? = _
      rw [Nat.add_zero, this]
      show (w.heap.push o')[w.heap.size]? = _
      simp
    | succ k =>
      have := ih (w.alloc o') k (by simpa using h)
      rw [World.size_alloc] at this
      show (allocs (w.alloc o') os).heap[w.heap.size + (k + 1)]? = _
      rw [show w.heap.size + (k + 1) = w.heap.size + 1 + k by omega]
      exact this

theorem allocs_cell (w : World) (os : List Obj) (k j : Nat) (c : Array Value) (t : TypeId) (v : Value) (h : os[k]? = some (.cells c t)) (hv : c[j]? = some v) : (allocs w os).cell? ⟨w.heap.size + k, j, none⟩ = some v := by
  unfold World.cell?
  rw [allocs_heap w os k _ h]
  simpa using hv

/-- The names of the units, in the order in which they are looked for. -/
def nms : List ByteArray := [⟨#[105, 110]⟩, ⟨#[105, 110, 99, 104]⟩, ⟨#[121, 100]⟩, ⟨#[121, 97, 114, 100, 115]⟩, ⟨#[102, 116]⟩, ⟨#[102, 101, 101, 116]⟩, ⟨#[107, 109]⟩, ⟨#[107, 105, 108, 111, 109, 101, 116, 101, 114, 115]⟩, ⟨#[110, 109]⟩, ⟨#[110, 97, 117, 116, 105, 99, 97, 108, 109, 105, 108, 101, 115]⟩, ⟨#[109, 109]⟩, ⟨#[109, 105, 108, 108, 105, 109, 101, 116, 101, 114, 115]⟩, ⟨#[99, 109]⟩, ⟨#[99, 101, 110, 116, 105, 109, 101, 116, 101, 114, 115]⟩, ⟨#[109, 105]⟩, ⟨#[109, 105, 108, 101, 115]⟩, ⟨#[109]⟩, ⟨#[109, 101, 116, 101, 114, 115]⟩]
def nm (i : Nat) : ByteArray := nms.getD i .empty
/-- How many metres a unit has. -/
def cvs : List Nat := [4582978272962677414, 4606411402543811579, 4599162408583596029, 4652007308841189376, 4655859997584916480, 4562254508917369340, 4576918229304087675, 4654792785210718028, 4607182418800017408]
def cv (i : Nat) : Nat := cvs.getD i 0

/-- The blocks that distanceUnits makes. -/
def unitBlocks (n : Nat) : List Obj :=
  (List.range 9).flatMap (fun i => [.cells #[.string (nm (2 * i)), .string (nm (2 * i + 1))] 9, .cells #[.float .f64 (cv i), .slice (some ⟨n + 2 * i, 0, none⟩) 2 2] 73]) ++
  [.cells #[.pointer (some ⟨n + 1, 0, none⟩), .pointer (some ⟨n + 3, 0, none⟩), .pointer (some ⟨n + 5, 0, none⟩), .pointer (some ⟨n + 7, 0, none⟩), .pointer (some ⟨n + 9, 0, none⟩), .pointer (some ⟨n + 11, 0, none⟩), .pointer (some ⟨n + 13, 0, none⟩), .pointer (some ⟨n + 15, 0, none⟩), .pointer (some ⟨n + 17, 0, none⟩)] 70]

set_option maxHeartbeats 1000000 in
theorem units45 (w : World) : Calls Tryd.prog 45 #[] w fun e w' => e = .returned (.slice (some ⟨w.heap.size + 18, 0, none⟩) 9 9) ∧ w' = allocs w (unitBlocks w.heap.size) := by
  go_enter Tryd.func45, Tryd.ntmps45
  go_wp2
  go_ret
  exact ⟨rfl, rfl⟩

/-- What the loops over the units read. -/
structure UnitsAt (w : World) (n : Nat) : Prop where
  ptr : ∀ i, i < 9 → w.cell? ⟨n + 18, i, none⟩ = some (.pointer (some ⟨n + 2 * i + 1, 0, none⟩))
  conv : ∀ i, i < 9 → w.cell? ⟨n + 2 * i + 1, 0, none⟩ = some (.float .f64 (cv i))
  suf : ∀ i, i < 9 → w.cell? ⟨n + 2 * i + 1, 1, none⟩ = some (.slice (some ⟨n + 2 * i, 0, none⟩) 2 2)
  str : ∀ i j, i < 9 → j < 2 → w.cell? ⟨n + 2 * i, j, none⟩ = some (.string (nm (2 * i + j)))

theorem unitsAt (w : World) : UnitsAt (allocs w (unitBlocks w.heap.size)) w.heap.size := by
  refine ⟨fun i hi => ?_, fun i hi => ?_, fun i hi => ?_, fun i j hi hj => ?_⟩
  · refine allocs_cell w _ 18 i _ 70 _ rfl ?_
    have : i = 0 ∨ i = 1 ∨ i = 2 ∨ i = 3 ∨ i = 4 ∨ i = 5 ∨ i = 6 ∨ i = 7 ∨ i = 8 := by omega
    rcases this with h | h | h | h | h | h | h | h | h <;> (subst h; rfl)
  · rw [Nat.add_assoc]
    refine allocs_cell w _ (2 * i + 1) 0 #[.float .f64 (cv i), .slice (some ⟨w.heap.size + 2 * i, 0, none⟩) 2 2] 73 _ ?_ rfl
    have : i = 0 ∨ i = 1 ∨ i = 2 ∨ i = 3 ∨ i = 4 ∨ i = 5 ∨ i = 6 ∨ i = 7 ∨ i = 8 := by omega
    rcases this with h | h | h | h | h | h | h | h | h <;> (subst h; rfl)
  · rw [Nat.add_assoc]
    refine allocs_cell w _ (2 * i + 1) 1 #[.float .f64 (cv i), .slice (some ⟨w.heap.size + 2 * i, 0, none⟩) 2 2] 73 _ ?_ rfl
    have : i = 0 ∨ i = 1 ∨ i = 2 ∨ i = 3 ∨ i = 4 ∨ i = 5 ∨ i = 6 ∨ i = 7 ∨ i = 8 := by omega
    rcases this with h | h | h | h | h | h | h | h | h <;> (subst h; rfl)
  · refine allocs_cell w _ (2 * i) j #[.string (nm (2 * i)), .string (nm (2 * i + 1))] 9 _ ?_ ?_
    · have : i = 0 ∨ i = 1 ∨ i = 2 ∨ i = 3 ∨ i = 4 ∨ i = 5 ∨ i = 6 ∨ i = 7 ∨ i = 8 := by omega
      rcases this with h | h | h | h | h | h | h | h | h <;> (subst h; rfl)
    · have : j = 0 ∨ j = 1 := by omega
      rcases this with h | h <;> (subst h; rfl)

/-- Whether s ends in t. -/
def sufB (s t : ByteArray) : Bool := decide (t.size ≤ s.size) && ((s.extract (s.size - t.size) s.size).toList == t.toList)

set_option maxHeartbeats 400000 in
theorem suffix64 (s t : ByteArray) (w : World) (hs : s.size ≤ 4000000000) (ht : t.size ≤ 4000000000) :
    Calls Tryd.prog 64 #[.string s, .string t] w fun e w' => e = .returned (.bool (sufB s t)) ∧ w = w' := by
  by_cases h : t.size ≤ s.size
  · have hsub : ((s.size : Int) - t.size).toNat = s.size - t.size := by omega
    have hpos : 0 ≤ (s.size : Int) - t.size := by omega
    have hle : (s.size : Int) - t.size ≤ s.size := by omega
    go_enter Tryd.func64, Tryd.ntmps64
    go_wp2
    go_ret
    exact ⟨by unfold sufB; rw [decide_eq_true h]; rfl, rfl⟩
  · go_enter Tryd.func64, Tryd.ntmps64
    go_wp2
    go_ret
    exact ⟨by unfold sufB; rw [decide_eq_false h]; rfl, rfl⟩

set_option maxHeartbeats 400000 in
theorem suffix47 (s t : ByteArray) (w : World) (hs : s.size ≤ 4000000000) (ht : t.size ≤ 4000000000) :
    Calls Tryd.prog 47 #[.string s, .string t] w fun e w' => e = .returned (.bool (sufB s t)) ∧ w = w' := by
  go_enter Tryd.func47, Tryd.ntmps47
  go_wp2_with (go_at_call 64; refine (suffix64 s t _ hs ht).mono ?_; rintro e w' ⟨rfl, rfl⟩)
  go_ret
  exact ⟨rfl, rfl⟩
end Go.Proofs.YtobloagecjhhiaaDoor
