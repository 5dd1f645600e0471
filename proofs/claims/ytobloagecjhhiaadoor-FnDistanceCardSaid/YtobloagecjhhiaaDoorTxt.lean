/-
  The decimal text of a number in hundredths, with the name of a unit behind it: plain laws on lists of bytes.
-/
import Derived.Test.YtobloagecjhhiaaDoorUnit
import Derived.Lib.IndexBytes
namespace Go.Proofs.YtobloagecjhhiaaDoor
open Go.PlainAid

abbrev bl (s : ByteArray) : List UInt8 := s.data.toList

theorem size_bl (s : ByteArray) : s.size = (bl s).length := by cases s; rfl
theorem bl_eq {s t : ByteArray} (h : bl s = bl t) : s = t := by
  obtain ⟨⟨a⟩⟩ := s; obtain ⟨⟨b⟩⟩ := t
  have : a = b := h
  rw [this]
theorem bl_append (s t : ByteArray) : bl (s ++ t) = bl s ++ bl t := by
  obtain ⟨⟨a⟩⟩ := s; obtain ⟨⟨b⟩⟩ := t
  rw [ByteArray.mk_append_mk]
theorem bt_bl (s : ByteArray) (k : Nat) (h : k < s.size) : bt s k = (((bl s)[k]'(by rw [← size_bl]; exact h)).toNat : Int) := by
  unfold bt; rw [dif_pos h]; rfl

/-- One byte more. -/
def stepD (q : Nat × Bool × Nat) (c : UInt8) : Nat × Bool × Nat :=
  if c = 46 then (q.1, true, q.2.2) else (10 * q.1 + (c.toNat - 48), q.2.1, if q.2.1 then q.2.2 + 1 else q.2.2)

theorem dec_foldl (s : ByteArray) (k : Nat) (h : k ≤ s.size) : dec s k = ((bl s).take k).foldl stepD (0, false, 0) := by
  induction k with
  | zero => rfl
  | succ k ih =>
    have hk : k < (bl s).length := by rw [← size_bl]; omega
    rw [List.take_succ_eq_append_getElem hk, List.foldl_append, ← ih (by omega)]
    simp only [List.foldl_cons, List.foldl_nil]
    show (if bt s k = 46 then _ else _) = _
    have hb := bt_bl s k (by omega)
    unfold stepD
    by_cases e : (bl s)[k] = 46
    · rw [if_pos e, if_pos (by rw [hb, e]; rfl)]
    · have e2 : ¬ bt s k = 46 := by
        rw [hb]; intro h2
        apply e
        apply UInt8.toNat_inj.1
        have : (46 : UInt8).toNat = 46 := rfl
        omega
      rw [if_neg e, if_neg e2, hb, Int.toNat_natCast]

/-- The k lowest digits of n, the highest first. -/
def dg (n : Nat) : Nat → List UInt8
  | 0 => []
  | k + 1 => (48 + UInt8.ofNat (n / 10^k % 10)) :: dg n k

theorem dg_length (n k : Nat) : (dg n k).length = k := by
  induction k with
  | zero => rfl
  | succ k ih => simp [dg, ih]

theorem digit_toNat (d : Nat) (h : d < 10) : (48 + UInt8.ofNat d).toNat = 48 + d := by
  have : d = 0 ∨ d = 1 ∨ d = 2 ∨ d = 3 ∨ d = 4 ∨ d = 5 ∨ d = 6 ∨ d = 7 ∨ d = 8 ∨ d = 9 := by omega
  rcases this with h | h | h | h | h | h | h | h | h | h <;> (subst h; rfl)

theorem digit_ne (d : Nat) (h : d < 10) : 48 + UInt8.ofNat d ≠ 46 := by
  intro e
  have := digit_toNat d h
  rw [e] at this
  have h2 : (46 : UInt8).toNat = 46 := rfl
  omega

theorem dg_digits (n k : Nat) : ∀ c ∈ dg n k, 48 ≤ c.toNat ∧ c.toNat ≤ 57 := by
  induction k with
  | zero => intro c hc; cases hc
  | succ k ih =>
    intro c hc
    rcases List.mem_cons.1 hc with h | h
    · rw [h, digit_toNat _ (Nat.mod_lt _ (by omega))]
      have := Nat.mod_lt (n / 10^k) (show 0 < 10 by omega)
      omega
    · exact ih c h

theorem dg_foldl (n k a f : Nat) (p : Bool) : (dg n k).foldl stepD (a, p, f) = (a * 10^k + n % 10^k, p, if p then f + k else f) := by
  induction k generalizing a f with
  | zero => simp [dg, Nat.mod_one]
  | succ k ih =>
    have hd : n / 10^k % 10 < 10 := Nat.mod_lt _ (by omega)
    have hs : stepD (a, p, f) (48 + UInt8.ofNat (n / 10^k % 10)) = (10 * a + n / 10^k % 10, p, if p then f + 1 else f) := by
      unfold stepD
      rw [if_neg (digit_ne _ hd), digit_toNat _ hd]
      simp only [Nat.add_sub_cancel_left]
    show (dg n k).foldl stepD (stepD (a, p, f) _) = _
    rw [hs, ih]
    have h1 : n % 10^(k + 1) = n % 10^k + 10^k * (n / 10^k % 10) := Nat.mod_pow_succ
    rw [h1, Nat.pow_succ]
    have h2 : (10 * a + n / 10^k % 10) * 10^k = a * (10^k * 10) + 10^k * (n / 10^k % 10) := by
      rw [Nat.add_mul, Nat.mul_comm 10 a, Nat.mul_assoc, Nat.mul_comm 10 (10^k), Nat.mul_comm (n / 10^k % 10)]
    rw [h2]
    cases p
    · simp; omega
    · simp only [if_true, Prod.mk.injEq, true_and]; omega

/-- The text of h hundredths: k digits, a point, two digits. -/
structure NumText (h : Nat) (S : ByteArray) : Prop where
  form : ∃ k, 1 ≤ k ∧ k ≤ 8 ∧ h / 100 < 10^k ∧ bl S = dg (h / 100) k ++ [46, 48 + UInt8.ofNat (h % 100 / 10), 48 + UInt8.ofNat (h % 100 % 10)]

theorem NumText.dec {h : Nat} {S : ByteArray} (hS : NumText h S) : dec S S.size = (h, true, 2) := by
  obtain ⟨k, h1, h8, hk, hb⟩ := hS.form
  rw [dec_foldl S S.size (Nat.le_refl _), List.take_of_length_le (by rw [size_bl]; exact Nat.le_refl _), hb, List.foldl_append, dg_foldl]
  have ha : h % 100 / 10 < 10 := by omega
  have hc : h % 100 % 10 < 10 := by omega
  rw [Nat.mod_eq_of_lt hk]
  simp only [List.foldl_cons, List.foldl_nil, stepD, if_true, if_neg (digit_ne _ ha), if_neg (digit_ne _ hc), digit_toNat _ ha, digit_toNat _ hc]
  simp
  omega

theorem NumText.decimal {h : Nat} {S : ByteArray} (hS : NumText h S) : Decimal S := by
  obtain ⟨k, h1, h8, hk, hb⟩ := hS.form
  have hlen : S.size = k + 3 := by rw [size_bl, hb, List.length_append, dg_length]; rfl
  have ha : h % 100 / 10 < 10 := by omega
  have hc : h % 100 % 10 < 10 := by omega
  have dig : ∀ j, j < k → 48 ≤ bt S j ∧ bt S j ≤ 57 := by
    intro j hj
    rw [bt_bl S j (by omega)]
    have hm : (bl S)[j]'(by rw [← size_bl]; omega) ∈ dg (h / 100) k := by
      have : (bl S)[j]'(by rw [← size_bl]; omega) = (dg (h / 100) k)[j]'(by rw [dg_length]; exact hj) := by
        simp only [hb]; rw [List.getElem_append_left]
      rw [this]; exact List.getElem_mem _
    have := dg_digits _ _ _ hm
    omega
  refine ⟨by omega, by omega, dig 0 (by omega), fun j hj => ?_⟩
  by_cases hjk : j < k
  · exact Or.inl (dig j hjk)
  · have hget : ∀ i (hi : i < 3), (bl S)[k + i]'(by rw [← size_bl]; omega) = [46, 48 + UInt8.ofNat (h % 100 / 10), 48 + UInt8.ofNat (h % 100 % 10)][i]'hi := by
      intro i hi
      simp only [hb]
      rw [List.getElem_append_right (by rw [dg_length]; omega)]
      congr 1
      rw [dg_length]; omega
    have : j = k + 0 ∨ j = k + 1 ∨ j = k + 2 := by omega
    rcases this with e | e | e
    · right
      have e' : k = j := by omega
      subst e'
      refine ⟨?_, ?_⟩
      · have hg := hget 0 (by omega)
        simp only [Nat.add_zero] at hg
        rw [bt_bl S k (by omega), hg]; rfl
      · rw [dec_foldl S k (by omega), hb, List.take_left' (dg_length _ _), dg_foldl]
    · left
      subst e
      rw [bt_bl S (k + 1) (by omega), hget 1 (by omega)]
      show 48 ≤ ((48 + UInt8.ofNat (h % 100 / 10)).toNat : Int) ∧ ((48 + UInt8.ofNat (h % 100 / 10)).toNat : Int) ≤ 57
      rw [digit_toNat _ ha]; omega
    · left
      subst e
      rw [bt_bl S (k + 2) (by omega), hget 2 (by omega)]
      show 48 ≤ ((48 + UInt8.ofNat (h % 100 % 10)).toNat : Int) ∧ ((48 + UInt8.ofNat (h % 100 % 10)).toNat : Int) ≤ 57
      rw [digit_toNat _ hc]; omega

/-! Endings. -/
theorem suf_iff (s t : ByteArray) : sufB s t = true ↔ bl t <:+ bl s := by
  unfold sufB
  rw [Bool.and_eq_true, decide_eq_true_eq, beq_iff_eq, ByteArray.toList_eq, ByteArray.toList_eq, Lib.extract_to_end]
  rw [List.suffix_iff_eq_drop, ← size_bl, ← size_bl]
  constructor
  · rintro ⟨_, h⟩; exact h.symm
  · intro h
    refine ⟨?_, h.symm⟩
    have := congrArg List.length h
    rw [List.length_drop, ← size_bl, ← size_bl] at this
    omega

theorem nm_tab : ((List.range 18).all fun K => (List.range K).all fun k => !((bl (nm k)).isSuffixOf (bl (nm K)))) = true := by decide +kernel
theorem nm_letters : ((List.range 18).all fun K => (bl (nm K)).all fun c => decide (97 ≤ c.toNat) && decide (c.toNat ≤ 122)) = true := by decide +kernel
theorem nm_pos : ((List.range 18).all fun K => decide (0 < (bl (nm K)).length)) = true := by decide +kernel

theorem nm_not (K k : Nat) (hK : K < 18) (hk : k < K) : ¬ bl (nm k) <:+ bl (nm K) := by
  have h := List.all_eq_true.1 (List.all_eq_true.1 nm_tab K (List.mem_range.2 hK)) k (List.mem_range.2 hk)
  intro hs
  rw [← List.isSuffixOf_iff_suffix] at hs
  rw [hs] at h
  cases h
theorem nm_letter (K : Nat) (hK : K < 18) (c : UInt8) (hc : c ∈ bl (nm K)) : 97 ≤ c.toNat := by
  have h := List.all_eq_true.1 (List.all_eq_true.1 nm_letters K (List.mem_range.2 hK)) c hc
  simp only [Bool.and_eq_true, decide_eq_true_eq] at h
  exact h.1
theorem nm_size_pos (K : Nat) (hK : K < 18) : 0 < (bl (nm K)).length := by
  have h := List.all_eq_true.1 nm_pos K (List.mem_range.2 hK)
  exact of_decide_eq_true h

/-- A unit's name does not reach into what ends in another byte. -/
theorem nm_short (k : Nat) (hk : k < 18) (L M : List UInt8) (c : UInt8) (hc : c.toNat < 97) (h : bl (nm k) <:+ (L ++ [c]) ++ M) : bl (nm k) <:+ M := by
  rcases List.suffix_or_suffix_of_suffix h (List.suffix_append (L ++ [c]) M) with h1 | h1
  · exact h1
  · obtain ⟨T, hT⟩ := h1
    rcases List.eq_nil_or_concat T with e | ⟨T', x, e⟩
    · rw [e, List.nil_append] at hT
      rw [← hT]; exact List.suffix_rfl
    · exfalso
      obtain ⟨R, hR⟩ := h
      rw [List.concat_eq_append] at e
      rw [← hT, e] at hR
      have h2 : R ++ (T' ++ [x]) = L ++ [c] := by
        rw [← List.append_assoc] at hR
        exact List.append_cancel_right hR
      rw [← List.append_assoc] at h2
      have h3 := List.append_inj' h2 rfl
      have hx : x = c := by simpa using h3.2
      have := nm_letter k hk x (by rw [← hT, e]; simp)
      rw [hx] at this
      omega

/-- A text that ends in a byte that is no letter, and a unit's name behind it. -/
theorem first_of (S : ByteArray) (L : List UInt8) (c : UInt8) (hS : bl S = L ++ [c]) (hc : c.toNat < 97) (K : Nat) (hK : K < 18) : FirstUnit (S ++ nm K) K := by
  refine ⟨by omega, fun k hk => ?_, fun _ => ?_⟩
  · cases h : sufB (S ++ nm K) (nm k) with
    | false => rfl
    | true =>
      exfalso
      rw [suf_iff, bl_append, hS] at h
      exact nm_not K k hK hk (nm_short k (by omega) L _ c hc h)
  · rw [suf_iff, bl_append]
    exact List.suffix_append _ _

theorem first_none (S : ByteArray) (L : List UInt8) (c : UInt8) (hS : bl S = L ++ [c]) (hc : c.toNat < 97) : FirstUnit S 18 := by
  refine ⟨by omega, fun k hk => ?_, fun h => by omega⟩
  cases h : sufB S (nm k) with
  | false => rfl
  | true =>
    exfalso
    rw [suf_iff, hS] at h
    have h2 := nm_short k hk L [] c hc (by rw [List.append_nil]; exact h)
    have h3 := List.IsSuffix.length_le h2
    have h4 := nm_size_pos k hk
    rw [List.length_nil] at h3
    omega

theorem cut_name (S N : ByteArray) : (S ++ N).extract 0 ((S ++ N).size - N.size) = S := by
  apply bl_eq
  show ((S ++ N).extract 0 ((S ++ N).size - N.size)).data.toList = _
  rw [Lib.extract_data]
  have h1 : (S ++ N).data.toList = bl S ++ bl N := bl_append S N
  rw [h1, size_bl, size_bl, bl_append, List.length_append, Nat.add_sub_cancel, Nat.sub_zero, List.drop_zero]
  exact List.take_left

theorem NumText.last {h : Nat} {S : ByteArray} (hS : NumText h S) : ∃ L c, bl S = L ++ [c] ∧ c.toNat < 97 := by
  obtain ⟨k, _, _, _, hb⟩ := hS.form
  refine ⟨dg (h / 100) k ++ [46, 48 + UInt8.ofNat (h % 100 / 10)], _, by rw [hb, List.append_assoc]; rfl, ?_⟩
  rw [digit_toNat _ (by omega)]
  omega

/-! A text that begins with '?'. -/
def ask : ByteArray := ⟨#[63]⟩
theorem ask_bl (junk : ByteArray) : bl (ask ++ junk) = 63 :: bl junk := bl_append ask junk
theorem ask_size (junk : ByteArray) : (ask ++ junk).size = junk.size + 1 := by rw [size_bl, ask_bl, size_bl]; rfl
theorem bt_head (s : ByteArray) (l : List UInt8) (h : bl s = 63 :: l) : 0 < s.size ∧ bt s 0 = 63 := by
  have hp : 0 < s.size := by rw [size_bl, h]; simp
  refine ⟨hp, ?_⟩
  rw [bt_bl s 0 hp]
  simp only [h]
  rfl

/-- The first unit whose name it ends in. -/
theorem first_ex (s : ByteArray) : ∃ K, FirstUnit s K := by
  have : ∀ n, n ≤ 18 → (∃ K, K < n ∧ (∀ k, k < K → sufB s (nm k) = false) ∧ sufB s (nm K) = true) ∨ (∀ k, k < n → sufB s (nm k) = false) := by
    intro n
    induction n with
    | zero => intro _; right; intro k hk; omega
    | succ n ih =>
      intro hn
      rcases ih (by omega) with ⟨K, h1, h2, h3⟩ | h
      · left; exact ⟨K, by omega, h2, h3⟩
      · cases hs : sufB s (nm n) with
        | true => left; exact ⟨n, by omega, h, hs⟩
        | false =>
          right
          intro k hk
          by_cases e : k = n
          · rw [e]; exact hs
          · exact h k (by omega)
  rcases this 18 (Nat.le_refl _) with ⟨K, h1, h2, h3⟩ | h
  · exact ⟨K, ⟨by omega, h2, fun _ => h3⟩⟩
  · exact ⟨18, ⟨Nat.le_refl _, h, fun h => by omega⟩⟩

/-- What stands ahead of a unit's name in such a text begins with '?', too. -/
theorem ask_cut (junk : ByteArray) (K : Nat) (hK : K < 18) (h : sufB (ask ++ junk) (nm K) = true) :
    ∃ l, bl ((ask ++ junk).extract 0 ((ask ++ junk).size - (nm K).size)) = 63 :: l := by
  rw [suf_iff] at h
  obtain ⟨R, hR⟩ := h
  have h1 : ((ask ++ junk).extract 0 ((ask ++ junk).size - (nm K).size)).data.toList = R := by
    rw [Lib.extract_data]
    have h2 : (ask ++ junk).data.toList = R ++ bl (nm K) := hR.symm
    have h3 : (ask ++ junk).size = R.length + (nm K).size := by rw [size_bl, ← hR, List.length_append, size_bl (nm K)]
    rw [h2, h3, Nat.add_sub_cancel, Nat.sub_zero, List.drop_zero]
    exact List.take_left
  show ∃ l, ((ask ++ junk).extract 0 ((ask ++ junk).size - (nm K).size)).data.toList = 63 :: l
  rw [h1]
  rw [ask_bl] at hR
  cases R with
  | nil =>
    exfalso
    rw [List.nil_append] at hR
    have := nm_letter K hK 63 (by rw [hR]; simp)
    have h63 : (63 : UInt8).toNat = 63 := rfl
    omega
  | cons x R =>
    rw [List.cons_append] at hR
    have := (List.cons.inj hR).1
    exact ⟨R, by rw [this]⟩

theorem ask_ne (junk : ByteArray) (k : Nat) (hk : k < 18) : ((ask ++ junk).toList == (nm k).toList) = false := by
  rw [beq_eq_false_iff_ne, ByteArray.toList_eq, ByteArray.toList_eq]
  intro h
  have h1 : bl (nm k) = 63 :: bl junk := by rw [← ask_bl]; exact h.symm
  have := nm_letter k hk 63 (by rw [h1]; simp)
  have h63 : (63 : UInt8).toNat = 63 := rfl
  omega

/-- The names differ. -/
theorem nm_eq_tab : ((List.range 18).all fun K => (List.range K).all fun k => !((nm K).toList == (nm k).toList)) = true := by decide +kernel
theorem nm_ne (K k : Nat) (hK : K < 18) (hk : k < K) : ((nm K).toList == (nm k).toList) = false := by
  have h := List.all_eq_true.1 (List.all_eq_true.1 nm_eq_tab K (List.mem_range.2 hK)) k (List.mem_range.2 hk)
  simpa using h
end Go.Proofs.YtobloagecjhhiaaDoor
