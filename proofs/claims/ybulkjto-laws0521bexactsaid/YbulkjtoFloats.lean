/-
  PLAIN LAWS ON float64 AS THE MODEL HAS IT: small whole numbers are held exactly; times two, times a half, over one, over two are exact.
-/
import Derived.Laws.FloatArith
namespace Go.Proofs.Ybulkjto
open Ieee

abbrev D : Format := Ieee.double

theorem log2_shift (m k : Nat) (h : m ≠ 0) : (m * 2 ^ k).log2 = m.log2 + k := by
  have h2 : m * 2 ^ k ≠ 0 := Nat.mul_ne_zero h (Nat.pos_iff_ne_zero.1 (Nat.two_pow_pos k))
  rw [Nat.log2_eq_iff h2]
  constructor
  · rw [Nat.pow_add]; exact Nat.mul_le_mul_right _ (Nat.log2_self_le h)
  · rw [show m.log2 + k + 1 = (m.log2 + 1) + k by omega, Nat.pow_add]
    exact Nat.mul_lt_mul_of_pos_right Nat.lt_log2_self (Nat.two_pow_pos k)

theorem cut_zero (neg : Bool) (n : Nat) : Toward.even.cut neg n 0 = n := by
  simp [Toward.cut, Nat.mod_one]

theorem cut_exact (neg : Bool) (m d : Nat) : Toward.even.cut neg (m * 2 ^ d) d = m := by
  by_cases hm : m = 0
  · subst hm
    simp [Toward.cut]
  · have hlog := log2_shift m d hm
    have hmin : min d ((m * 2 ^ d).log2 + 2) = d := by rw [hlog]; omega
    have hp : 0 < 2 ^ d := Nat.two_pow_pos d
    simp only [Toward.cut, hmin, Nat.shiftLeft_eq, Nat.one_mul, Nat.mul_mod_left, Nat.mul_div_cancel _ hp]
    simp

/-- The nearest word goes by the number alone, where the number has at most 53 digits and stands high enough. -/
theorem nearest_shift (neg : Bool) (m k : Nat) (e : Int) (hm : m ≠ 0) (hb : m.log2 ≤ 52) (he : D.leastPlace ≤ e + k) :
    D.nearest neg (m * 2 ^ k) e = D.nearest neg m (e + k) := by
  have h2 : m * 2 ^ k ≠ 0 := Nat.mul_ne_zero hm (Nat.pos_iff_ne_zero.1 (Nat.two_pow_pos k))
  have hlog := log2_shift m k hm
  have hfb : (D.fractionBits : Int) = 52 := rfl
  simp only [Format.nearest, if_neg hm, if_neg h2, hlog, hfb]
  have hplace : e + ((m.log2 + k : Nat) : Int) - 52 = e + (k : Int) + (m.log2 : Int) - 52 := by omega
  rw [hplace]
  generalize hl : max (e + (k : Int) + (m.log2 : Int) - 52) D.leastPlace = last
  have hle : last ≤ e + k := by omega
  have key : Toward.even.cut neg ((m * 2 ^ k) <<< (e - last).toNat) (last - e).toNat = Toward.even.cut neg (m <<< (e + k - last).toNat) (last - (e + k)).toNat := by
    have h0 : (last - (e + k)).toNat = 0 := by omega
    rw [h0, cut_zero]
    by_cases hc : last ≤ e
    · have h1 : (last - e).toNat = 0 := by omega
      rw [h1, cut_zero, Nat.shiftLeft_eq, Nat.shiftLeft_eq, Nat.mul_assoc, ← Nat.pow_add]
      congr 2
      omega
    · have h1 : (e - last).toNat = 0 := by omega
      rw [h1, Nat.shiftLeft_zero, Nat.shiftLeft_eq]
      have h3 : 2 ^ k = 2 ^ (e + k - last).toNat * 2 ^ (last - e).toNat := by
        rw [← Nat.pow_add]; congr 1; omega
      rw [h3, ← Nat.mul_assoc, cut_exact]
  rw [key]

/-- A number in its full 53 digits: its word, and what the word reads as. -/
theorem nearest_full (neg : Bool) (M : Nat) (i : Int) (h1 : 2 ^ 52 ≤ M) (h2 : M < 2 ^ 53) (h3 : -1074 ≤ i) (h4 : i ≤ 900) :
    D.nearest neg M i = D.word neg ((i + 1074).toNat * 2 ^ 52 + M) := by
  have hm : M ≠ 0 := by omega
  have hlog : M.log2 = 52 := by rw [Nat.log2_eq_iff hm]; exact ⟨h1, h2⟩
  have hfb : (D.fractionBits : Int) = 52 := rfl
  have hlp : D.leastPlace = -1074 := by decide
  have hbin : D.binade = 2 ^ 52 := rfl
  have hinf : D.infRung = 2047 * 2 ^ 52 := by decide
  simp only [Format.nearest, if_neg hm, hlog, hfb, hlp, hbin, hinf]
  have hl : max (i + ((52 : Nat) : Int) - 52) (-1074) = i := by omega
  rw [hl]
  have hz : (i - i).toNat = 0 := by omega
  rw [hz, cut_zero, Nat.shiftLeft_zero]
  have e1 : (i - -1074).toNat = (i + 1074).toNat := by omega
  have e2 : (i + 1074).toNat ≤ 1974 := by omega
  rw [e1, Nat.min_eq_left (by omega)]

theorem read_full (neg : Bool) (M : Nat) (i : Int) (h1 : 2 ^ 52 ≤ M) (h2 : M < 2 ^ 53) (h3 : -1074 ≤ i) (h4 : i ≤ 900) :
    D.read (D.nearest neg M i) = .number neg M i := by
  rw [nearest_full neg M i h1 h2 h3 h4]
  have hlp : D.leastPlace = -1074 := by decide
  have hbin : D.binade = 2 ^ 52 := rfl
  have hinf : D.infRung = 2047 * 2 ^ 52 := by decide
  have hsw : D.signWeight = 2 ^ 63 := rfl
  obtain ⟨t, ht⟩ : ∃ t : Nat, t = (i + 1074).toNat := ⟨_, rfl⟩
  have hti : i = (t : Int) - 1074 := by omega
  have htb : t ≤ 1974 := by omega
  rw [← ht]
  have hw : D.word neg (t * 2 ^ 52 + M) = (if neg then 2 ^ 63 + (t * 2 ^ 52 + M) else t * 2 ^ 52 + M) := rfl
  have hneg : (D.word neg (t * 2 ^ 52 + M) / 2 ^ 63 % 2 == 1) = neg := by
    rw [hw]; cases neg
    · have : (t * 2 ^ 52 + M) / 2 ^ 63 = 0 := by omega
      simp [this]
    · have : (2 ^ 63 + (t * 2 ^ 52 + M)) / 2 ^ 63 = 1 := by omega
      simp [this]
  have hr : D.word neg (t * 2 ^ 52 + M) % 2 ^ 63 = t * 2 ^ 52 + M := by
    rw [hw]; cases neg <;> simp <;> omega
  simp only [Format.read, hsw, hbin, hinf, hlp, hneg, hr]
  rw [if_neg (by omega), if_pos (by omega)]
  have a1 : 2 ^ 52 + (t * 2 ^ 52 + M) % 2 ^ 52 = M := by omega
  have a2 : (t * 2 ^ 52 + M) / 2 ^ 52 - 1 = t := by omega
  have a3 : (-1074 : Int) + (t : Int) = i := by omega
  rw [a1, a2, a3]

/-! ### Small whole numbers -/
abbrev fl (n : Int) : Nat := floatOfInt .f64 n

/-- The 53 digits of a whole number, and their place. -/
theorem fl_full (n : Int) (h0 : n ≠ 0) (h1 : n.natAbs < 2 ^ 40) : ∃ M k : Nat, 2 ^ 52 ≤ M ∧ M < 2 ^ 53 ∧ k ≤ 52 ∧ M = n.natAbs * 2 ^ k ∧ fl n = D.nearest (n < 0) M (-(k : Int)) := by
  have hn : n.natAbs ≠ 0 := by omega
  have hl : n.natAbs.log2 < 40 := (Nat.log2_lt hn).2 h1
  refine ⟨n.natAbs * 2 ^ (52 - n.natAbs.log2), 52 - n.natAbs.log2, ?_, ?_, by omega, rfl, ?_⟩
  · have := Nat.log2_self_le hn
    calc 2 ^ 52 = 2 ^ n.natAbs.log2 * 2 ^ (52 - n.natAbs.log2) := by rw [← Nat.pow_add]; congr 1; omega
      _ ≤ _ := Nat.mul_le_mul_right _ this
  · have : n.natAbs < 2 ^ (n.natAbs.log2 + 1) := Nat.lt_log2_self
    calc n.natAbs * 2 ^ (52 - n.natAbs.log2) < 2 ^ (n.natAbs.log2 + 1) * 2 ^ (52 - n.natAbs.log2) := Nat.mul_lt_mul_of_pos_right this (Nat.two_pow_pos _)
      _ = 2 ^ 53 := by rw [← Nat.pow_add]; congr 1; omega
  · have hlp : D.leastPlace = -1074 := by decide
    have hs := nearest_shift (n < 0) n.natAbs (52 - n.natAbs.log2) (-((52 - n.natAbs.log2 : Nat) : Int)) hn (by omega) (by rw [hlp]; omega)
    have hz : -((52 - n.natAbs.log2 : Nat) : Int) + ((52 - n.natAbs.log2 : Nat) : Int) = 0 := by omega
    rw [hs, hz]
    rfl

theorem least : D.leastPlace = -1074 := by decide

/-- Twice the number: the same digits, one place up. -/
theorem fl_full2 (n : Int) (h0 : n ≠ 0) (h1 : n.natAbs < 2 ^ 40) : ∃ M k : Nat, 2 ^ 52 ≤ M ∧ M < 2 ^ 53 ∧ k ≤ 52 ∧ fl n = D.nearest (n < 0) M (-(k : Int)) ∧ fl (2 * n) = D.nearest (n < 0) M (1 - (k : Int)) := by
  obtain ⟨M, k, a, b, c, d, e⟩ := fl_full n h0 h1
  refine ⟨M, k, a, b, c, e, ?_⟩
  have hn : n.natAbs ≠ 0 := by omega
  have hl : n.natAbs.log2 < 40 := (Nat.log2_lt hn).2 h1
  have e1 := nearest_shift (n < 0) n.natAbs k (1 - (k : Int)) hn (by omega) (by rw [least]; omega)
  have e2 := nearest_shift (n < 0) n.natAbs 1 0 hn (by omega) (by rw [least]; omega)
  have e3 : (1 - (k : Int)) + (k : Int) = 1 := by omega
  have e4 : (0 : Int) + ((1 : Nat) : Int) = 1 := by omega
  have e5 : (2 * n).natAbs = n.natAbs * 2 ^ 1 := by omega
  have e6 : decide (2 * n < 0) = decide (n < 0) := by rw [decide_eq_decide]; omega
  rw [e3] at e1
  rw [e4] at e2
  rw [d, e1, ← e2]
  show D.nearest (decide (2 * n < 0)) (2 * n).natAbs 0 = _
  rw [e5, e6]

/-! The words of 1, 2, a half. -/
theorem read_one : D.read 4607182418800017408 = .number false (2 ^ 52) (-52) := by decide
theorem read_two : D.read 4611686018427387904 = .number false (2 ^ 52) (-51) := by decide
theorem read_half : D.read 4602678819172646912 = .number false (2 ^ 52) (-53) := by decide
theorem read_onehalf : D.read 4609434218613702656 = .number false 6755399441055744 (-52) := by decide
theorem read_zero : D.read 0 = .number false 0 (-1074) := by decide
theorem fl_zero : fl 0 = 0 := by decide

theorem log2_full {M : Nat} (a : 2 ^ 52 ≤ M) (b : M < 2 ^ 53) : M.log2 = 52 := by
  rw [Nat.log2_eq_iff (by omega)]; exact ⟨a, b⟩

theorem nearest_up (s : Bool) {M : Nat} (a : 2 ^ 52 ≤ M) (b : M < 2 ^ 53) (j : Nat) (e i : Int) (h : e + j = i) (hi : -1074 ≤ i) : D.nearest s (M * 2 ^ j) e = D.nearest s M i := by
  have := nearest_shift s M j e (by omega) (by rw [log2_full a b]; omega) (by rw [least]; omega)
  rw [this, h]

theorem div_full (s : Bool) {M : Nat} (a : 2 ^ 52 ≤ M) (b : M < 2 ^ 53) (i j : Int) (hi : -1074 ≤ i) (hi2 : i ≤ 900) (w : Nat) (hw : D.read w = .number false (2 ^ 52) j) (hij : -1074 ≤ i - j - 52) :
    D.div (D.nearest s M i) w = some (D.nearest s M (i - j - 52)) := by
  have hl := log2_full a b
  have hl2 : (2 ^ 52 : Nat).log2 = 52 := by decide
  have hp : (0 : Nat) < 2 ^ 52 := Nat.two_pow_pos _
  have e1 : M * 2 ^ 54 = (M * 4) * 2 ^ 52 := by omega
  have hd : M * 2 ^ 54 / 2 ^ 52 = M * 4 := by rw [e1, Nat.mul_div_cancel _ hp]
  have hm : M * 2 ^ 54 % 2 ^ 52 = 0 := by rw [e1, Nat.mul_mod_left]
  have hmore : D.fractionBits + 2 + (2 ^ 52 : Nat).log2 - M.log2 = 54 := by rw [hl, hl2]; rfl
  have hne : ¬ ((2 ^ 52 : Nat) = 0) := by omega
  unfold Format.div
  rw [read_full s M i a b hi hi2, hw]
  simp only [Datum.quotient, if_neg hne, hmore, Nat.shiftLeft_eq, hd, hm, Option.map_some, Format.write]
  have e2 : 2 * (M * 4) + ((0 : Nat) != 0).toNat = M * 2 ^ 3 := by simp; omega
  have e3 : (i - j - ((54 : Nat) : Int) - 1) + ((3 : Nat) : Int) = i - j - 52 := by omega
  have e4 : (s ^^ false) = s := by cases s <;> rfl
  rw [e2, e4, nearest_up s a b 3 _ _ e3 hij]

theorem mul_full (s : Bool) {M : Nat} (a : 2 ^ 52 ≤ M) (b : M < 2 ^ 53) (i j : Int) (hi : -1074 ≤ i) (hi2 : i ≤ 900) (w : Nat) (hw : D.read w = .number false (2 ^ 52) j) (hij : -1074 ≤ i + j + 52) :
    D.mul (D.nearest s M i) w = some (D.nearest s M (i + j + 52)) := by
  unfold Format.mul
  rw [read_full s M i a b hi hi2, hw]
  simp only [Datum.product, Option.map_some, Format.write]
  have e4 : (s ^^ false) = s := by cases s <;> rfl
  rw [e4, nearest_up s a b 52 (i + j) _ rfl hij]
  rfl

theorem mul_full' (s : Bool) {M : Nat} (a : 2 ^ 52 ≤ M) (b : M < 2 ^ 53) (i j : Int) (hi : -1074 ≤ i) (hi2 : i ≤ 900) (w : Nat) (hw : D.read w = .number false (2 ^ 52) j) (hij : -1074 ≤ i + j + 52) :
    D.mul w (D.nearest s M i) = some (D.nearest s M (i + j + 52)) := by
  unfold Format.mul
  rw [read_full s M i a b hi hi2, hw]
  simp only [Datum.product, Option.map_some, Format.write]
  have e4 : (false ^^ s) = s := by cases s <;> rfl
  rw [e4, Nat.mul_comm, nearest_up s a b 52 (j + i) (i + j + 52) (by omega) hij]

/-! ### The laws that the walks ask -/
theorem div_one (n : Int) (h : n.natAbs < 2 ^ 40) : D.div (fl n) 4607182418800017408 = some (fl n) := by
  by_cases h0 : n = 0
  · subst h0; decide
  obtain ⟨M, k, a, b, c, e, _⟩ := fl_full2 n h0 h
  have e1 : -(k : Int) - (-52) - 52 = -(k : Int) := by omega
  rw [e, div_full _ a b _ (-52) (by omega) (by omega) _ read_one (by omega), e1]

theorem div_two (n : Int) (h : n.natAbs < 2 ^ 40) : D.div (fl (2 * n)) 4611686018427387904 = some (fl n) := by
  by_cases h0 : n = 0
  · subst h0; decide
  obtain ⟨M, k, a, b, c, e, e'⟩ := fl_full2 n h0 h
  have e1 : 1 - (k : Int) - (-51) - 52 = -(k : Int) := by omega
  rw [e', e, div_full _ a b _ (-51) (by omega) (by omega) _ read_two (by omega), e1]

theorem mul_two (n : Int) (h : n.natAbs < 2 ^ 40) : D.mul 4611686018427387904 (fl n) = some (fl (2 * n)) := by
  by_cases h0 : n = 0
  · subst h0; decide
  obtain ⟨M, k, a, b, c, e, e'⟩ := fl_full2 n h0 h
  have e1 : -(k : Int) + (-51) + 52 = 1 - (k : Int) := by omega
  rw [e', e, mul_full' _ a b _ (-51) (by omega) (by omega) _ read_two (by omega), e1]

theorem mul_half (n : Int) (h : n.natAbs < 2 ^ 40) : D.mul (fl (2 * n)) 4602678819172646912 = some (fl n) := by
  by_cases h0 : n = 0
  · subst h0; decide
  obtain ⟨M, k, a, b, c, e, e'⟩ := fl_full2 n h0 h
  have e1 : 1 - (k : Int) + (-53) + 52 = -(k : Int) := by omega
  rw [e', e, mul_full _ a b _ (-53) (by omega) (by omega) _ read_half (by omega), e1]

theorem half_same (n : Int) (h : n.natAbs < 2 ^ 40) : D.div (fl n) 4611686018427387904 = D.mul (fl n) 4602678819172646912 := by
  by_cases h0 : n = 0
  · subst h0; decide
  obtain ⟨M, k, a, b, c, e, e'⟩ := fl_full2 n h0 h
  have e1 : -(k : Int) - (-51) - 52 = -(k : Int) + (-53) + 52 := by omega
  rw [e, div_full _ a b _ (-51) (by omega) (by omega) _ read_two (by omega), mul_full _ a b _ (-53) (by omega) (by omega) _ read_half (by omega), e1]

/-- A whole number's word reads as a number. -/
theorem fl_number (n : Int) (h : n.natAbs < 2 ^ 40) : ∃ M i, D.read (fl n) = .number (n < 0) M i ∧ (n = 0 ↔ M = 0) ∧ -1074 ≤ i := by
  by_cases h0 : n = 0
  · subst h0; exact ⟨0, -1074, by decide, by simp, by omega⟩
  obtain ⟨M, k, a, b, c, _, e⟩ := fl_full n h0 h
  refine ⟨M, -(k : Int), by rw [e]; exact read_full _ M _ a b (by omega) (by omega), ?_, by omega⟩
  constructor
  · intro hn; exact absurd hn h0
  · intro hM; omega

theorem cmp_lt {a b : Int} (h : a < b) : compare a b = .lt := by simp [compare, compareOfLessAndEq, h]
theorem cmp_gt {a b : Int} (h : b < a) : compare a b = .gt := by
  have h1 : ¬ a < b := by omega
  have h2 : ¬ a = b := by omega
  simp [compare, compareOfLessAndEq, h1, h2]

theorem order_zero (n : Int) (h : n.natAbs < 2 ^ 40) : D.order (fl n) 0 = some (compare n 0) := by
  obtain ⟨M, i, hr, hz, hi⟩ := fl_number n h
  unfold Format.order
  rw [hr, read_zero]
  have hb : min i (-1074) = -1074 := by omega
  simp only [Datum.order, hb, Ieee.signed, Nat.shiftLeft_eq]
  congr 1
  have hp : 0 < 2 ^ (i - -1074).toNat := Nat.two_pow_pos _
  by_cases h0 : n = 0
  · have hM := hz.1 h0
    subst h0; subst hM
    simp
  · have hM : 0 < M := by
      rcases Nat.eq_zero_or_pos M with h' | h'
      · exact absurd (hz.2 h') h0
      · exact h'
    have hpos : 0 < M * 2 ^ (i - -1074).toNat := Nat.mul_pos hM hp
    generalize M * 2 ^ (i - -1074).toNat = X at hpos
    by_cases hn : n < 0
    · simp only [hn, decide_true, if_true]
      rw [cmp_lt hn, cmp_lt (by simp; omega)]
    · simp only [hn, decide_false]
      rw [cmp_gt (show 0 < n by omega), cmp_gt (by simp; omega)]

theorem order_zero' (n : Int) (h : n.natAbs < 2 ^ 40) : D.order 0 (fl n) = some (compare 0 n) := by
  obtain ⟨M, i, hr, hz, hi⟩ := fl_number n h
  unfold Format.order
  rw [hr, read_zero]
  have hb : min (-1074) i = -1074 := by omega
  simp only [Datum.order, hb, Ieee.signed, Nat.shiftLeft_eq]
  congr 1
  have hp : 0 < 2 ^ (i - -1074).toNat := Nat.two_pow_pos _
  by_cases h0 : n = 0
  · have hM := hz.1 h0
    subst h0; subst hM
    simp
  · have hM : 0 < M := by
      rcases Nat.eq_zero_or_pos M with h' | h'
      · exact absurd (hz.2 h') h0
      · exact h'
    have hpos : 0 < M * 2 ^ (i - -1074).toNat := Nat.mul_pos hM hp
    generalize M * 2 ^ (i - -1074).toNat = X at hpos
    by_cases hn : n < 0
    · simp only [hn, decide_true, if_true]
      rw [cmp_gt hn, cmp_gt (by simp; omega)]
    · simp only [hn, decide_false]
      rw [cmp_lt (show 0 < n by omega), cmp_lt (by simp; omega)]

theorem order_self (x : Nat) {s : Bool} {m : Nat} {i : Int} (h : D.read x = .number s m i) : D.order x x = some .eq := by
  unfold Format.order
  rw [h]
  simp [Datum.order]

theorem mul_some (x y : Nat) {s t : Bool} {m n : Nat} {i j : Int} (h : D.read x = .number s m i) (h' : D.read y = .number t n j) : ∃ z, D.mul x y = some z := by
  unfold Format.mul
  rw [h, h']
  exact ⟨_, rfl⟩
end Go.Proofs.Ybulkjto
