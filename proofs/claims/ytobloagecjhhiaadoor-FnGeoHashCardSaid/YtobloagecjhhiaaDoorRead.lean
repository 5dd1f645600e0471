/-
  The walk of internal/strconv's readFloat over a decimal text: digits with at most one point, of 1 to 12 bytes, the first of them a digit.
-/
import Derived.Test.YtobloagecjhhiaaDoorRows
import Derived.WalkKit
import Derived.WalkSpells
import Derived.WalkLawsBesides
import Derived.Handy
import Derived.PlainAid
import Derived.Lib.Hide
namespace Go.Proofs.YtobloagecjhhiaaDoor
open Go.RowKit Go.PlainAid

/-- A text of digits and at most one point: its first k bytes read as (the digits' number, is there a point, the digits behind it). -/
def dec (s : ByteArray) : Nat → Nat × Bool × Nat
  | 0 => (0, false, 0)
  | k + 1 => if bt s k = 46 then ((dec s k).1, true, (dec s k).2.2) else (10 * (dec s k).1 + ((bt s k).toNat - 48), (dec s k).2.1, if (dec s k).2.1 then (dec s k).2.2 + 1 else (dec s k).2.2)

/-- It begins with a digit, is of 1 to 12 bytes, which are digits or the one point. -/
structure Decimal (s : ByteArray) : Prop where
  pos : 0 < s.size
  short : s.size ≤ 12
  first : 48 ≤ bt s 0 ∧ bt s 0 ≤ 57
  all : ∀ k, k < s.size → (48 ≤ bt s k ∧ bt s k ≤ 57) ∨ (bt s k = 46 ∧ (dec s k).2.1 = false)

set_option maxHeartbeats 400000 in
theorem lower_dec (c : Int) (w : World) (h1 : 46 ≤ c) (h2 : c ≤ 57) :
    Calls Tryd.prog 94 #[.int .u8 c] w fun e w' => e = .returned (.int .u8 c) ∧ w = w' := by
  have hb : bits BinOp.or IntKind.u8 c 32 = c := by
    have : c = 46 ∨ c = 47 ∨ c = 48 ∨ c = 49 ∨ c = 50 ∨ c = 51 ∨ c = 52 ∨ c = 53 ∨ c = 54 ∨ c = 55 ∨ c = 56 ∨ c = 57 := by omega
    rcases this with h | h | h | h | h | h | h | h | h | h | h | h <;> (subst h; decide +kernel)
  go_enter Tryd.func94, Tryd.ntmps94
  go_wp2
  go_ret
  exact ⟨rfl, rfl⟩

set_option maxHeartbeats 400000 in
theorem special_dec (s : ByteArray) (w : World) (hp : 0 < s.size) (hm : s.size ≤ 1000000) (h1 : 48 ≤ bt s 0) (h2 : bt s 0 ≤ 63) :
    Calls Tryd.prog 77 #[.string s] w fun e w' => e = .returned (.tuple #[.float .f64 0, .int .i64 0, .bool false]) ∧ w = w' := by
  have hb := get_bt s
  go_enter Tryd.func77, Tryd.ntmps77
  go_wp2
  go_ret3
  exact ⟨rfl, rfl⟩

theorem dec_bound (s : ByteArray) (k : Nat) (h : ∀ j, j < k → bt s j ≤ 57) : (dec s k).1 < 10^k := by
  induction k with
  | zero => simp [dec]
  | succ k ih =>
    have h1 := ih (fun j hj => h j (by omega))
    have h2 := h k (by omega)
    have h3 := bt_nonneg s k
    rw [Nat.pow_succ]
    unfold dec
    split
    · simp only; omega
    · simp only; omega

theorem results_tmp7 {fn : Func} {t0 t1 t2 t3 t4 t5 t6 : Tmp} (h : fn.results = #[.tmp t0, .tmp t1, .tmp t2, .tmp t3, .tmp t4, .tmp t5, .tmp t6]) (tmps : Array Value) {P : Program} (w : World) :
    (results fn tmps).run P w = .ok (.tuple #[tmps.getD t0 undef, tmps.getD t1 undef, tmps.getD t2 undef, tmps.getD t3 undef, tmps.getD t4 undef, tmps.getD t5 undef, tmps.getD t6 undef]) w := by simp [results, h]

set_option maxRecDepth 100000 in
set_option maxHeartbeats 4000000 in
theorem readFloat_dec (s : ByteArray) (w : World) (h : Decimal s) (m f : Nat) (p : Bool) (hd : dec s s.size = (m, p, f)) :
    Calls Tryd.prog 78 #[.string s] w fun e w' => e = .returned (.tuple #[.int .u64 m, .int .i64 (if m = 0 then 0 else - (f : Int)), .bool false, .bool false, .bool false, .int .i64 s.size, .bool true]) ∧ w = w' := by
  have hp := h.pos
  have hs := h.short
  have hf := h.first
  obtain ⟨hf1, hf2⟩ := hf
  have hb := get_bt s
  have hse : ¬ s = ByteArray.empty := by rintro rfl; exact absurd hp (by decide)
  have H := Lib.hid hd
  clear hd
  have hpre : (2 < s.size ∧ bt s 0 = 48) ∨ (2 < s.size ∧ ¬ bt s 0 = 48) ∨ ¬ 2 < s.size := by omega
  rcases hpre with ⟨h3, h48⟩ | ⟨h3, h48⟩ | h3
  focus
    have hlow := lower_dec (bt s 1) w (by have := h.all 1 (by omega); omega) (by have := h.all 1 (by omega); omega)
    have hne : (bt s 1 == 120) = false := by
      have := h.all 1 (by omega)
      exact beq_eq_false_iff_ne.2 (by omega)
    have hnot : (48 : Int) ≤ bt s 0 := by omega
    have h48' : (bt s 0 == 48) = true := by simpa using h48
    clear h48
    go_enter Tryd.func78, Tryd.ntmps78
    go_wp2
    go_step3
    go_wp2_with (go_at_call 94; refine hlow.mono ?_; rintro e w' ⟨rfl, rfl⟩)
    go_step3
    go_wp2
    clear hne h48' hnot hlow hse hf1 hf2
  rotate_left
  focus
    have h48' : (bt s 0 == 48) = false := by simpa using h48
    clear h48
    go_enter Tryd.func78, Tryd.ntmps78
    go_wp2
    go_step3
    go_wp2
    go_step3
    go_wp2
    clear h48' hse hf1 hf2
  rotate_left
  focus
    go_enter Tryd.func78, Tryd.ntmps78
    go_wp2
    go_step3
    go_wp2
    go_step3
    go_wp2
    clear hse hf1 hf2
  rotate_left
  all_goals
    go_loop [2, 5, 7, 9, 13, 14, 15, 16, 17] (fun s2 s5 s7 s9 s13 s14 s15 s16 s17 => ∃ (k n : Nat) (d : Int), k ≤ s.size ∧ n ≤ k ∧ s2 = .int .u64 (dec s k).1 ∧ s5 = .bool false ∧ s7 = .int .i64 k ∧ s9 = .bool false ∧ s13 = .bool (dec s k).2.1 ∧ s14 = .bool (decide (0 < k)) ∧ s15 = .int .i64 n ∧ s16 = .int .i64 n ∧ s17 = .int .i64 d ∧ - (k : Int) ≤ d ∧ d ≤ k ∧ (n = 0 ↔ (dec s k).1 = 0) ∧ ((dec s k).2.1 = true → d = (n : Int) - (dec s k).2.2) ∧ ((dec s k).2.1 = false → (dec s k).2.2 = 0)) (fun _ _ s7 _ _ _ _ _ _ => s.size - (intOf s7).toNat)
    case atStart => exact ⟨0, 0, 0, Nat.zero_le _, Nat.le_refl _, rfl, rfl, rfl, rfl, rfl, rfl, rfl, rfl, rfl, by omega, by omega, by simp [dec], by simp [dec], by simp [dec]⟩
    case round =>
      obtain ⟨k, n, d, hk, hnk, rfl, rfl, rfl, rfl, rfl, rfl, rfl, rfl, rfl, hd1, hd2, hnm, hpf, hff⟩ := hrel
      have hmb := dec_bound s k (fun j hj => by have := h.all j (by omega); omega)
      generalize hq : dec s k = q at *
      obtain ⟨mk, pk, fk⟩ := q
      have HQ := Lib.hid hq
      have HP := Lib.hid hpf
      have HF := Lib.hid hff
      have HN := Lib.hid hnm
      clear hq hpf hff hnm
      by_cases hlt : k < s.size
      · have hpow : 10^k ≤ 10^11 := Nat.pow_le_pow_right (by omega) (by omega)
        have hmk : (mk : Int) ≤ 99999999999 := by simp only at hmb; omega
        clear hpow hmb
        have hstep : Hid (dec s (k + 1) = if bt s k = 46 then (mk, true, fk) else (10 * mk + ((bt s k).toNat - 48), pk, if pk then fk + 1 else fk)) := Lib.hid (by
          show (if bt s k = 46 then ((dec s k).1, true, (dec s k).2.2) else (10 * (dec s k).1 + ((bt s k).toNat - 48), (dec s k).2.1, if (dec s k).2.1 then (dec s k).2.2 + 1 else (dec s k).2.2)) = _
          rw [HQ.out])
        rcases h.all k hlt with ⟨c1, c2⟩ | ⟨c46, hdot⟩
        · have t1 : (bt s k == 95) = false := beq_eq_false_iff_ne.2 (by omega)
          have t2 : (bt s k == 46) = false := beq_eq_false_iff_ne.2 (by omega)
          by_cases hz : bt s k = 48
          · have t3 : (bt s k == 48) = true := beq_iff_eq.2 hz
            have HZ := Lib.hid hz
            clear hz
            by_cases hn0 : n = 0
            · have t4 : ((n : Int) == 0) = true := beq_iff_eq.2 (by omega)
              have HN0 := Lib.hid hn0
              clear hn0
              go_wp2
              go_round
              case rel =>
                have hst := hstep.out
                rw [HZ.out, if_neg (by decide)] at hst
                have hmk0 : mk = 0 := HN.out.1 HN0.out
                subst hmk0
                have HP' := HP.out
                have HF' := HF.out
                have hn00 := HN0.out
                exact ⟨k + 1, n, d - 1, by omega, by omega, by rw [hst]; rfl, rfl, by go_num, rfl, by rw [hst], by simp, rfl, rfl, by go_num, by omega, by omega, by rw [hst]; simp; omega, by rw [hst]; intro hp; simp only at hp HP' ⊢; rw [if_pos hp]; have := HP' hp; omega, by rw [hst]; intro hp; simp only at hp HF' ⊢; rw [if_neg (by simp [hp])]; exact HF' hp⟩
              case measure => simp [intOf]; omega
            · have t4 : ((n : Int) == 0) = false := beq_eq_false_iff_ne.2 (by omega)
              go_wp2
              go_round
              case rel =>
                have hst := hstep.out
                rw [HZ.out, if_neg (by decide)] at hst
                have hmk0 : mk ≠ 0 := fun e => hn0 (HN.out.2 e)
                have hz := HZ.out
                have HP' := HP.out
                have HF' := HF.out
                exact ⟨k + 1, n + 1, d, by omega, by omega, by rw [hst]; go_num, rfl, by go_num, rfl, by rw [hst], by simp, by go_num, by go_num, rfl, by omega, by omega, by rw [hst]; simp; omega, by rw [hst]; intro hp; simp only at hp HP' ⊢; rw [if_pos hp]; have := HP' hp; omega, by rw [hst]; intro hp; simp only at hp HF' ⊢; rw [if_neg (by simp [hp])]; exact HF' hp⟩
              case measure => simp [intOf]; omega
          · have t3 : (bt s k == 48) = false := beq_eq_false_iff_ne.2 hz
            go_wp2
            go_round
            case rel =>
              have hst := hstep.out
              rw [if_neg (by omega)] at hst
              have HP' := HP.out
              have HF' := HF.out
              have HN' := HN.out
              simp only at HN'
              exact ⟨k + 1, n + 1, d, by omega, by omega, by rw [hst]; go_num, rfl, by go_num, rfl, by rw [hst], by simp, by go_num, by go_num, rfl, by omega, by omega, by rw [hst]; simp only; omega, by rw [hst]; intro hp; simp only at hp HP' ⊢; rw [if_pos hp]; have := HP' hp; omega, by rw [hst]; intro hp; simp only at hp HF' ⊢; rw [if_neg (by simp [hp])]; exact HF' hp⟩
            case measure => simp [intOf]; omega
        · have t1 : (bt s k == 95) = false := beq_eq_false_iff_ne.2 (by omega)
          have t2 : (bt s k == 46) = true := beq_iff_eq.2 c46
          have HC := Lib.hid c46
          have hk0 : 0 < k := by
            rcases Nat.eq_zero_or_pos k with e | e
            · subst e; have := h.first; omega
            · exact e
          have hpk : pk = false := by have := hdot; rw [HQ.out] at this; exact this
          subst hpk
          clear c46 hdot
          go_wp2
          go_round
          case rel =>
            have hst := hstep.out
            rw [if_pos HC.out] at hst
            have HN' := HN.out
            simp only at HN'
            have hf0 : fk = 0 := HF.out rfl
            exact ⟨k + 1, n, n, by omega, by omega, by rw [hst], rfl, by go_num, rfl, by rw [hst], by simp; omega, rfl, rfl, rfl, by omega, by omega, by rw [hst]; exact HN', by rw [hst]; intro hp; simp only; omega, by rw [hst]; intro hp; cases hp⟩
          case measure => simp [intOf]; omega
      · have hks : k = s.size := by omega
        have t0 : decide (0 < k) = true := by simp; omega
        have hmd : mk = m ∧ pk = p ∧ fk = f := by
          have := HQ.out; rw [hks, H.out] at this
          simp only [Prod.mk.injEq] at this
          exact ⟨this.1.symm, this.2.1.symm, this.2.2.symm⟩
        obtain ⟨rfl, rfl, rfl⟩ := hmd
        have HK := Lib.hid hks
        clear hks
        have hde : pk = true → d = (n : Int) - fk := HP.out
        have hfe : pk = false → fk = 0 := HF.out
        by_cases hm0 : mk = 0
        · have t5 : ((mk : Int) != 0) = false := by simp [hm0]
          have HM := Lib.hid hm0
          clear hm0
          cases pk
          · clear hde hfe
            go_wp2
            refine bodyPost_ret (results_tmp7 rfl _ _) rfl ⟨?_, rfl⟩
            show Ending.returned (.tuple #[.int .u64 0, .int .i64 0, .bool false, .bool false, .bool false, .int .i64 k, .bool true]) = Ending.returned (.tuple #[.int .u64 0, .int .i64 0, .bool false, .bool false, .bool false, .int .i64 s.size, .bool true])
            rw [HK.out]
          · clear hde hfe
            go_wp2
            refine bodyPost_ret (results_tmp7 rfl _ _) rfl ⟨?_, rfl⟩
            show Ending.returned (.tuple #[.int .u64 0, .int .i64 0, .bool false, .bool false, .bool false, .int .i64 k, .bool true]) = Ending.returned (.tuple #[.int .u64 0, .int .i64 0, .bool false, .bool false, .bool false, .int .i64 s.size, .bool true])
            rw [HK.out]
        · have t5 : ((mk : Int) != 0) = true := by simp [hm0]
          cases pk
          · have HE := Lib.hid (hfe rfl)
            clear hde hfe
            go_wp2
            refine bodyPost_ret (results_tmp7 rfl _ _) rfl ⟨?_, rfl⟩
            have hfe := HE.out
            show Ending.returned (.tuple #[.int .u64 mk, .int .i64 0, .bool false, .bool false, .bool false, .int .i64 k, .bool true]) = Ending.returned (.tuple #[.int .u64 mk, .int .i64 (-(fk : Int)), .bool false, .bool false, .bool false, .int .i64 s.size, .bool true])
            rw [HK.out, hfe]; rfl
          · have HE := Lib.hid (hde rfl)
            clear hde hfe
            go_wp2
            refine bodyPost_ret (results_tmp7 rfl _ _) rfl ⟨?_, rfl⟩
            have hde := HE.out
            show Ending.returned (.tuple #[.int .u64 mk, .int .i64 (d - n), .bool false, .bool false, .bool false, .int .i64 k, .bool true]) = Ending.returned (.tuple #[.int .u64 mk, .int .i64 (-(fk : Int)), .bool false, .bool false, .bool false, .int .i64 s.size, .bool true])
            rw [HK.out, show d - (n : Int) = -(fk : Int) by omega]
end Go.Proofs.YtobloagecjhhiaaDoor
