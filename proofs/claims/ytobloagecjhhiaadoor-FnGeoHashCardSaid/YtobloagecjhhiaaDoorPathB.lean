/-
  A place lies in each cell of its path, and behind sixty halvings the cell's middle is near it: plain laws.
-/
import Derived.Test.YtobloagecjhhiaaDoorPath
import Derived.Test.YtobloagecjhhiaaDoorOpenM
namespace Go.Proofs.YtobloagecjhhiaaDoor
open Go.RowKit Fl

theorem path_held (x y : Nat) (hx : Fin64 x) (hy : Fin64 y) (h1 : V 13863909240395005952 ≤ V x) (h2 : V x ≤ - V 13863909240395005952) (h3 : V 13859405640767635456 ≤ V y) (h4 : V y ≤ - V 13859405640767635456) (L : Nat) (hL : L = 1032) (t : Nat) :
    Held (path x y t).x0 (path x y t).x1 x ((t + 1) / 2) (2 * V 4640537203540230144) ((2^L : Nat) : Int) ∧ Held (path x y t).y0 (path x y t).y1 y (t / 2) (2 * V 4640537203540230144) ((2^L : Nat) : Int) := by
  have n1 : V 13863909240395005952 = - V 4640537203540230144 := V_neg 4640537203540230144 (by decide)
  have n2 : V 13859405640767635456 = - V 4636033603912859648 := V_neg 4636033603912859648 (by decide)
  have n3 : V 4636033603912859648 ≤ V 4640537203540230144 := by
    unfold V
    rw [if_neg (by decide), if_neg (by decide)]
    exact Int.ofNat_le.2 (G_le (by decide))
  have hE : (0 : Int) ≤ ((2^L : Nat) : Int) := Int.natCast_nonneg _
  induction t with
  | zero =>
    have e0 : ((2^0 : Nat) : Int) = 1 := rfl
    refine ⟨⟨h1, by rw [n1] at h2; show V x ≤ V 4640537203540230144; omega, ?_⟩, ⟨h3, by rw [n2] at h4; show V y ≤ V 4636033603912859648; omega, ?_⟩⟩
    · show ((2^0 : Nat) : Int) * (V 4640537203540230144 - V 13863909240395005952) ≤ 2 * V 4640537203540230144 + ((2^0 : Nat) : Int) * ((2^L : Nat) : Int)
      rw [e0, n1]; omega
    · show ((2^0 : Nat) : Int) * (V 4636033603912859648 - V 13859405640767635456) ≤ 2 * V 4640537203540230144 + ((2^0 : Nat) : Int) * ((2^L : Nat) : Int)
      rw [e0, n2]; omega
  | succ t ih =>
    have hg := good_path x y t
    have hev := path_ev x y t
    have cx := mid_close hg.x L hL
    have cy := mid_close hg.y L hL
    obtain ⟨_, _, _, ex, _⟩ := mid_law hg.x
    obtain ⟨_, _, _, ey, _⟩ := mid_law hg.y
    have hs : path x y (t + 1) = half (path x y t) (beyond (path x y t) x y) := rfl
    generalize path x y t = s at *
    obtain ⟨ihx, ihy⟩ := ih
    by_cases h : t % 2 = 0
    · rw [decide_eq_true h] at hev
      have hb : beyond s x y = decide (V (mid s.x0 s.x1) < V x) := by
        unfold beyond turnV midOf
        rw [if_pos hev, if_pos hev, gtB_V hx ex.fb]
      have e1 : (t + 1 + 1) / 2 = (t + 1) / 2 + 1 := by omega
      have e2 : (t + 1) / 2 = t / 2 := by omega
      rw [hs, hb]
      unfold half
      rw [if_pos hev, e1]
      refine ⟨?_, by show Held s.y0 s.y1 y ((t + 1) / 2) _ _; rw [e2]; exact ihy⟩
      by_cases hc : V (mid s.x0 s.x1) < V x
      · rw [decide_eq_true hc]
        exact ihx.right (mid s.x0 s.x1) (by omega) (by omega)
      · rw [decide_eq_false hc]
        exact ihx.left (mid s.x0 s.x1) (by omega) (by omega)
    · rw [decide_eq_false h] at hev
      have hb : beyond s x y = decide (V (mid s.y0 s.y1) < V y) := by
        unfold beyond turnV midOf
        rw [if_neg (by rw [hev]; decide), if_neg (by rw [hev]; decide), gtB_V hy ey.fb]
      have e1 : (t + 1 + 1) / 2 = (t + 1) / 2 := by omega
      have e2 : (t + 1) / 2 = t / 2 + 1 := by omega
      rw [hs, hb]
      unfold half
      rw [if_neg (by rw [hev]; decide), e1]
      refine ⟨ihx, ?_⟩
      rw [e2]
      by_cases hc : V (mid s.y0 s.y1) < V y
      · rw [decide_eq_true hc]
        exact ihy.right (mid s.y0 s.y1) (by omega) (by omega)
      · rw [decide_eq_false hc]
        exact ihy.left (mid s.y0 s.y1) (by omega) (by omega)

theorem held_near {a b v : Nat} (h : Ends a b) (L : Nat) (hL : L = 1032) (hh : Held a b v 30 (2 * V 4640537203540230144) ((2^L : Nat) : Int)) : ((V (mid a b) - V v).natAbs : Int) ≤ V 4517329193108106637 := by
  obtain ⟨_, _, _, k1, k2⟩ := mid_law h
  have g1 := k1.le
  have g2 := k2.le
  have hl := hh.lo
  have hi := hh.hi
  have hw := hh.wide
  have e30 : 2^L = 2^30 * 2^(L - 30) := by rw [← Nat.pow_add, show 30 + (L - 30) = L by omega]
  have c1 := (c_at (L - 30) 27 6333186975989760 4640537203540230144 (by omega) (by omega) (by omega) (by omega) (by omega)).1
  have c2 := (c_at (L - 30) 0 4722366482869645 4517329193108106637 (by omega) (by omega) (by omega) (by omega) (by omega)).1
  rw [c1, e30] at hw
  rw [c2]
  have hA : 0 < 2^(L - 30) := pow_pos2 _
  clear c1 c2 e30 hL
  generalize 2^(L - 30) = A at *
  omega

/-- The middle of the last cell is near the place. -/
theorem path_near (x y : Nat) (hx : x < 2^64) (hy : y < 2^64) (h : placeB x y = true) :
    ((V (mid (path x y 60).x0 (path x y 60).x1) - V x).natAbs : Int) ≤ V 4517329193108106637 ∧ ((V (mid (path x y 60).y0 (path x y 60).y1) - V y).natAbs : Int) ≤ V 4517329193108106637 := by
  obtain ⟨fx, fy, h1, h2, h3, h4⟩ := placeB_V hx hy h
  obtain ⟨L, hL⟩ : ∃ L, L = 1032 := ⟨_, rfl⟩
  obtain ⟨a, b⟩ := path_held x y fx fy h1 h2 h3 h4 L hL 60
  have hg := good_path x y 60
  exact ⟨held_near hg.x L hL a, held_near hg.y L hL b⟩
end Go.Proofs.YtobloagecjhhiaaDoor
