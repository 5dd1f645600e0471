/-
  The walk of geo's newEncoding and base32encoding: the table that it makes.
-/
import Derived.Test.YtobloagecjhhiaaDoorBase
import Derived.Deep.DeepCutAuto
import Derived.Deep.QuietTactic
import Derived.BigQuiet
namespace Go.Proofs.YtobloagecjhhiaaDoor
open Go.RowKit Go.PlainAid

def alph : ByteArray := ⟨#[48, 49, 50, 51, 52, 53, 54, 55, 56, 57, 98, 99, 100, 101, 102, 103, 104, 106, 107, 109, 110, 112, 113, 114, 115, 116, 117, 118, 119, 120, 121, 122]⟩
/-- The byte of letter j. -/
def lt (j : Nat) : Nat := (bt alph j).toNat
/-- The table behind j letters. -/
def decT : Nat → Nat → Int
  | 0, _ => 255
  | j + 1, c => if c = lt j then (j : Int) else decT j c

/-- Block b is an encoding whose table is f. -/
def Enc (w : World) (b : Nat) (f : Nat → Int) : Prop :=
  ∃ cs : Array Value, w.heap[b]? = some (.cells cs 80 (0, 0)) ∧ cs[0]? = some (.string alph) ∧ ∀ c, c < 256 → cs[1 + c]? = some (.int .u8 (f c))

theorem Enc.cell {w : World} {b : Nat} {f : Nat → Int} (h : Enc w b f) (c : Nat) (hc : c < 256) : w.cell? ⟨b, 1 + c, none⟩ = some (.int .u8 (f c)) := by
  obtain ⟨cs, h1, _, h3⟩ := h
  unfold World.cell?
  rw [h1]
  exact h3 c hc
theorem Enc.str {w : World} {b : Nat} {f : Nat → Int} (h : Enc w b f) : w.cell? ⟨b, 0, none⟩ = some (.string alph) := by
  obtain ⟨cs, h1, h2, h3⟩ := h
  unfold World.cell?
  rw [h1]
  exact h2
theorem Enc.frozen {w : World} {b : Nat} {f : Nat → Int} (h : Enc w b f) (i : Nat) : w.frozen? ⟨b, i, none⟩ = false := by
  obtain ⟨cs, h1, h2, h3⟩ := h
  unfold World.frozen?
  rw [h1]
  simp
theorem Enc.set {w : World} {b : Nat} {f : Nat → Int} (h : Enc w b f) (i : Nat) (v : Int) : Enc (w.setCell ⟨b, 1 + i, none⟩ (.int .u8 v)) b (fun c => if c = i then v else f c) := by
  obtain ⟨cs, h1, h2, h3⟩ := h
  refine ⟨cs.setIfInBounds (1 + i) (.int .u8 v), heap_setCell_same w b (1 + i) cs 80 _ h1, ?_, fun c hc => ?_⟩
  · rw [Array.getElem?_setIfInBounds, if_neg (by omega)]; exact h2
  · rw [Array.getElem?_setIfInBounds]
    by_cases e : c = i
    · subst e
      have hs : 1 + c < cs.size := (Array.getElem?_eq_some_iff.1 (h3 c hc)).1
      rw [if_pos rfl, if_pos hs]; simp
    · rw [if_neg (by omega), h3 c hc]; simp [e]
theorem Enc.block {w w' : World} {b : Nat} {f : Nat → Int} (h : Enc w b f) (e : w'.heap[b]? = w.heap[b]?) : Enc w' b f := by
  obtain ⟨cs, h1, h2⟩ := h
  exact ⟨cs, by rw [e]; exact h1, h2⟩
theorem Enc.congr {w : World} {b : Nat} {f g : Nat → Int} (h : Enc w b f) (e : ∀ c, c < 256 → f c = g c) : Enc w b g := by
  obtain ⟨cs, h1, h2, h3⟩ := h
  exact ⟨cs, h1, h2, fun c hc => by rw [← e c hc]; exact h3 c hc⟩

def isZ : Option Value → Bool
  | some (.int .u8 0) => true
  | _ => false
theorem isZ_eq {v : Option Value} (h : isZ v = true) : v = some (.int .u8 0) := by
  unfold isZ at h
  split at h
  · rfl
  · cases h
theorem zeros_all : ((List.range 256).all fun c => isZ Tryd.zeroCells80[1 + c]?) = true := by decide +kernel
theorem zeros_size : 0 < Tryd.zeroCells80.size := by decide +kernel

theorem enc_start (w : World) (B : Nat) (hB : w.heap.size = B) : Enc (w.alloc (.cells (Tryd.zeroCells80.setIfInBounds 0 (.string alph)) 80)) B (fun c => if c < 0 then 255 else 0) := by
  refine ⟨Tryd.zeroCells80.setIfInBounds 0 (.string alph), ?_, ?_, fun c hc => ?_⟩
  · show (w.heap.push _)[B]? = _
    rw [Array.getElem?_push, if_pos hB.symm]
  · rw [Array.getElem?_setIfInBounds, if_pos rfl, if_pos zeros_size]
  · rw [Array.getElem?_setIfInBounds, if_neg (by omega)]
    exact isZ_eq (List.all_eq_true.1 zeros_all c (List.mem_range.2 hc))

theorem letters_lt : ∀ j, j < 32 → lt j < 256 := by
  intro j hj
  have h : ((List.range 32).all fun j => decide (lt j < 256)) = true := by decide +kernel
  exact of_decide_eq_true (List.all_eq_true.1 h j (List.mem_range.2 hj))
theorem letters_bt : ∀ j (hj : j < alph.size), (alph[j]'hj).toNat = lt j := by
  intro j hj
  unfold lt bt
  rw [dif_pos hj, Int.toNat_natCast]

set_option maxRecDepth 100000 in
set_option maxHeartbeats 1000000 in
theorem newEnc67 (w : World) : Calls Tryd.prog 67 #[.string alph] w fun e w' => ∃ b, e = .returned (.pointer (some ⟨b, 0, none⟩)) ∧ w.heap.size ≤ b ∧ Enc w' b (decT 32) ∧ Below w.heap.size w w' := by
  obtain ⟨B, hB⟩ : ∃ B, w.heap.size = B := ⟨_, rfl⟩
  have hs := Lib.hid (enc_start w B hB)
  have hsz : alph.size = 32 := rfl
  have hlt := Lib.hid letters_lt
  have hbt := Lib.hid letters_bt
  generalize alph = al at *
  go_enter Tryd.func67, Tryd.ntmps67
  go_upto_region 4 with fail
  go_loopw [4] (fun s4 wx => ∃ i : Nat, i ≤ 256 ∧ s4 = .int .i64 i ∧ Enc wx B (fun c => if c < i then 255 else 0) ∧ Below B w wx) (fun s4 _ => 256 - (intOf s4).toNat)
  case atStart => exact ⟨0, by omega, rfl, hs.out, (Below.refl _ _).alloc (by omega) _⟩
  case round =>
    obtain ⟨i, hi, rfl, he, hb⟩ := hrel
    have HE := Lib.hid he
    have HB := Lib.hid hb
    clear he hb
    by_cases h256 : i < 256
    · have hc := HE.out.cell i h256
      have hf := HE.out.frozen (1 + i)
      go_wp2
      go_roundw
      case rel => exact ⟨i + 1, by omega, by go_num, (HE.out.set i 255).congr (fun c _ => by by_cases e : c = i <;> by_cases e2 : c < i <;> simp [e, e2] <;> omega), HB.out.setCell (by exact Nat.le_refl _) _⟩
      case measure => simp [intOf]; omega
    · have hie : i = 256 := by omega
      subst hie
      go_upto_region 8 with fail
      go_loopw [5] (fun s5 wx => ∃ j : Nat, j ≤ 32 ∧ s5 = .int .i64 j ∧ Enc wx B (decT j) ∧ Below B w wx) (fun s5 _ => 32 - (intOf s5).toNat)
      case atStart => exact ⟨0, by omega, rfl, HE.out.congr (fun c hc => by simp [hc, decT]), HB.out⟩
      case round =>
        obtain ⟨j, hj, rfl, he2, hb2⟩ := hrel
        have HE2 := Lib.hid he2
        have HB2 := Lib.hid hb2
        clear he2 hb2
        by_cases h32 : j < 32
        · have hl := hlt.out j h32
          have hbj := hbt.out j
          have hc2 := HE2.out.cell (lt j) hl
          have hf2 := HE2.out.frozen (1 + lt j)
          go_upto_region 10 with fail
          go_region
          go_wp2
          go_roundw
          case rel => exact ⟨j + 1, by omega, by go_num, (HE2.out.set (lt j) j).block rfl, (HB2.out.setCell (by exact Nat.le_refl _) _).drew⟩
          case measure => simp [intOf]; omega
        · have hje : j = 32 := by omega
          subst hje
          go_wp2
          go_ret
          exact ⟨B, rfl, by omega, HE2.out, by rw [hB]; exact HB2.out⟩

set_option maxHeartbeats 400000 in
theorem enc49 (w : World) : Calls Tryd.prog 49 #[] w fun e w' => ∃ b, e = .returned (.pointer (some ⟨b, 0, none⟩)) ∧ w.heap.size ≤ b ∧ Enc w' b (decT 32) ∧ Below w.heap.size w w' := by
  have c := newEnc67 w
  unfold alph at c
  go_enter Tryd.func49, Tryd.ntmps49
  go_wp2_with (go_at_call 67; refine c.mono ?_; rintro e w' ⟨b, rfl, h1, h2, h3⟩)
  go_ret
  exact ⟨b, rfl, h1, h2, h3⟩
end Go.Proofs.YtobloagecjhhiaaDoor
