/-
  THE PLAIN SIDE: 'int64(0.9 * float64(t))' IS 't * 9 / 10' CUT TOWARDS ZERO, for every t of at most 2^48 in size. No Go in sight.
-/
import Derived.Laws.FloatArith
import Derived.WalkKit
namespace Go.Proofs.Qxb6613438a
open Ieee

theorem read_word (neg : Bool) (E k : Nat) (hE : E ≤ 2000) (h1 : 4503599627370496 ≤ k) (h2 : k < 9007199254740992) :
    double.read (double.word neg (E * 4503599627370496 + k)) = .number neg k (-1074 + (E : Int)) := by
  have hs : double.signWeight = 9223372036854775808 := rfl
  have hb : double.binade = 4503599627370496 := rfl
  have hi : double.infRung = 9218868437227405312 := rfl
  have hl : double.leastPlace = -1074 := rfl
  have hw : double.word neg (E * 4503599627370496 + k) = (if neg then 9223372036854775808 + (E * 4503599627370496 + k) else E * 4503599627370496 + k) := rfl
  have e1 : ((double.word neg (E * 4503599627370496 + k)) / 9223372036854775808 % 2 == 1) = neg := by
    rw [hw]
    cases neg
    · simp; omega
    · simp; omega
  have e2 : (double.word neg (E * 4503599627370496 + k)) % 9223372036854775808 = E * 4503599627370496 + k := by
    rw [hw]
    cases neg
    · simp; omega
    · simp; omega
  unfold Format.read
  simp only [hs, hb, hi, hl, e1, e2]
  rw [if_neg (by omega), if_pos (by omega)]
  have a1 : 4503599627370496 + (E * 4503599627370496 + k) % 4503599627370496 = k := by omega
  have a2 : (E * 4503599627370496 + k) / 4503599627370496 - 1 = E := by omega
  rw [a1, a2]

/-- Rounding drops 'drop' digits, and adds at most one. -/
theorem cut_even (neg : Bool) (n drop : Nat) (h : drop ≤ n.log2 + 2) : ∃ b : Nat, b ≤ 1 ∧ Toward.even.cut neg n drop = n / 2 ^ drop + b := by
  obtain ⟨b, hb⟩ : ∃ b : Bool, Toward.even.cut neg n drop = n / 2 ^ drop + b.toNat := by
    refine ⟨decide (2 ^ drop < 2 * (n % 2 ^ drop)) || (2 ^ drop == 2 * (n % 2 ^ drop) && n / 2 ^ drop % 2 == 1), ?_⟩
    unfold Toward.cut
    simp only [Nat.min_eq_left h, Nat.shiftLeft_eq, Nat.one_mul]
  exact ⟨b.toNat, Bool.toNat_le b, hb⟩
theorem cut_none (neg : Bool) (n : Nat) : Toward.even.cut neg n 0 = n := by
  unfold Toward.cut
  simp
  omega
theorem cut_zero (neg : Bool) (n drop : Nat) (h : drop ≤ n.log2 + 2) : Toward.zero.cut neg n drop = n / 2 ^ drop := by
  unfold Toward.cut
  simp [Nat.min_eq_left h, Nat.shiftLeft_eq]

/-- A whole number of at most 48 digits is a float. -/
theorem nearest_int (neg : Bool) (m L : Nat) (h0 : m ≠ 0) (hL : m.log2 = L) (h48 : L ≤ 48) : double.nearest neg m 0 = double.word neg ((L + 1022) * 4503599627370496 + m * 2 ^ (52 - L)) := by
  have hf : double.fractionBits = 52 := rfl
  have hb : double.binade = 4503599627370496 := rfl
  have hi : double.infRung = 9218868437227405312 := rfl
  have hl : double.leastPlace = -1074 := rfl
  have up : m * 2 ^ (52 - L) < 9007199254740992 := by
    have h1 : m < 2 ^ (L + 1) := by rw [← hL]; exact Nat.lt_log2_self
    calc m * 2 ^ (52 - L) < 2 ^ (L + 1) * 2 ^ (52 - L) := Nat.mul_lt_mul_of_pos_right h1 (Nat.two_pow_pos _)
      _ = 2 ^ 53 := by rw [← Nat.pow_add]; congr 1; omega
      _ = 9007199254740992 := rfl
  unfold Format.nearest
  rw [if_neg h0]
  simp only [hf, hb, hi, hl, hL]
  have e1 : max ((0 : Int) + (L : Int) - ((52 : Nat) : Int)) (-1074) = (L : Int) - 52 := by omega
  rw [e1]
  have e2 : ((0 : Int) - ((L : Int) - 52)).toNat = 52 - L := by omega
  have e3 : ((L : Int) - 52 - 0).toNat = 0 := by omega
  have e4 : ((L : Int) - 52 - -1074).toNat = L + 1022 := by omega
  rw [e2, e3, e4, cut_none, Nat.shiftLeft_eq, Nat.min_eq_left (by omega)]

/-- 0.9's word. -/
theorem read_c : double.read 4606281698874543309 = .number false 8106479329266893 (-53) := rfl

/-- The product of 0.9 and m, rounded: 'k * 2 ^ -D', k of 53 digits, just short of the next whole number. -/
theorem product (neg : Bool) (m L : Nat) (h0 : m ≠ 0) (hL : m.log2 = L) (h48 : m ≤ 281474976710656) :
    ∃ E k D : Nat, double.nearest neg (8106479329266893 * (m * 2 ^ (52 - L))) (-53 + ((L : Int) - 52)) = double.word neg (E * 4503599627370496 + k) ∧ 4503599627370496 ≤ k ∧ k ≤ 9007199254740992 ∧
      (E : Int) = 1074 - (D : Int) ∧ 4 ≤ D ∧ D ≤ 53 ∧ k / 2 ^ D = 9 * m / 10 := by
  have hf : double.fractionBits = 52 := rfl
  have hb : double.binade = 4503599627370496 := rfl
  have hi : double.infRung = 9218868437227405312 := rfl
  have hl : double.leastPlace = -1074 := rfl
  have hLs : 2 ^ L ≤ m := by rw [← hL]; exact Nat.log2_self_le h0
  have hLu : m < 2 ^ (L + 1) := by rw [← hL]; exact Nat.lt_log2_self
  have h48' : L ≤ 48 := by
    rcases Nat.lt_or_ge 48 L with h | h
    · have : 2 ^ 49 ≤ 2 ^ L := Nat.pow_le_pow_right (by omega) (by omega)
      omega
    · exact h
  -- the significand of m
  obtain ⟨s, hs⟩ : ∃ s, s = m * 2 ^ (52 - L) := ⟨_, rfl⟩
  have s1 : 4503599627370496 ≤ s := by
    rw [hs]
    calc 4503599627370496 = 2 ^ L * 2 ^ (52 - L) := by rw [← Nat.pow_add, show L + (52 - L) = 52 from by omega]
      _ ≤ m * 2 ^ (52 - L) := Nat.mul_le_mul_right _ hLs
  have s2 : s < 9007199254740992 := by
    rw [hs]
    calc m * 2 ^ (52 - L) < 2 ^ (L + 1) * 2 ^ (52 - L) := Nat.mul_lt_mul_of_pos_right hLu (Nat.two_pow_pos _)
      _ = 2 ^ 53 := by rw [← Nat.pow_add]; congr 1; omega
      _ = 9007199254740992 := rfl
  rw [← hs]
  obtain ⟨M, hM⟩ : ∃ M, M = 8106479329266893 * s := ⟨_, rfl⟩
  rw [← hM]
  have hM0 : M ≠ 0 := by omega
  have l1 : 104 ≤ M.log2 := by rw [Nat.le_log2 hM0]; show 20282409603651670423947251286016 ≤ M; omega
  have l2 : M.log2 < 106 := by rw [Nat.log2_lt hM0]; show M < 81129638414606681695789005144064; omega
  obtain ⟨ε, hε⟩ : ∃ ε, M.log2 = 104 + ε := ⟨M.log2 - 104, by omega⟩
  have hε1 : ε ≤ 1 := by omega
  -- what is kept
  obtain ⟨b, hb1, hcut⟩ := cut_even neg M (52 + ε) (by omega)
  have hlow : M / 2 ^ (52 + ε) = 8106479329266893 * m / 2 ^ (L + ε) := by
    rw [hM, hs, ← Nat.mul_assoc, show 52 + ε = (L + ε) + (52 - L) from by omega, Nat.pow_add, Nat.mul_div_mul_right _ _ (Nat.two_pow_pos _)]
  have k1 : 4503599627370496 ≤ M / 2 ^ (52 + ε) := by
    rw [Nat.le_div_iff_mul_le (Nat.two_pow_pos _)]
    calc 4503599627370496 * 2 ^ (52 + ε) = 2 ^ 52 * 2 ^ (52 + ε) := rfl
      _ = 2 ^ M.log2 := by rw [← Nat.pow_add, hε]; congr 1; omega
      _ ≤ M := Nat.log2_self_le hM0
  have k2 : M / 2 ^ (52 + ε) < 9007199254740992 := by
    rw [Nat.div_lt_iff_lt_mul (Nat.two_pow_pos _)]
    calc M < 2 ^ (M.log2 + 1) := Nat.lt_log2_self
      _ = 2 ^ 53 * 2 ^ (52 + ε) := by rw [← Nat.pow_add, hε]; congr 1; omega
      _ = 9007199254740992 * 2 ^ (52 + ε) := rfl
  -- the bounds
  have hD : 2 ^ (53 - L - ε) * 2 ^ (L + ε) = 9007199254740992 := by
    rw [← Nat.pow_add, show 53 - L - ε + (L + ε) = 53 from by omega]
  have hY : 2 ^ (L + ε) ≤ 562949953421312 := by
    calc 2 ^ (L + ε) ≤ 2 ^ 49 := Nat.pow_le_pow_right (by omega) (by omega)
      _ = 562949953421312 := rfl
  have hX0 : 0 < 2 ^ (53 - L - ε) := Nat.two_pow_pos _
  have lo : 9 * m / 10 * 2 ^ (53 - L - ε) ≤ 8106479329266893 * m / 2 ^ (L + ε) := by
    rw [Nat.le_div_iff_mul_le (Nat.two_pow_pos _), Nat.mul_assoc, hD]
    omega
  have hi' : 8106479329266893 * m / 2 ^ (L + ε) < (9 * m / 10 + 1) * 2 ^ (53 - L - ε) - 1 := by
    rw [Nat.div_lt_iff_lt_mul (Nat.two_pow_pos _), Nat.sub_mul, Nat.mul_assoc, hD, Nat.one_mul]
    omega
  refine ⟨L + 1021 + ε, M / 2 ^ (52 + ε) + b, 53 - L - ε, ?_, by omega, by omega, by omega, by omega, by omega, ?_⟩
  · unfold Format.nearest
    rw [if_neg hM0]
    simp only [hf, hb, hi, hl, hε]
    have e1 : max (-53 + ((L : Int) - 52) + ((104 + ε : Nat) : Int) - ((52 : Nat) : Int)) (-1074) = (L : Int) - 53 + ε := by omega
    rw [e1]
    have e2 : (-53 + ((L : Int) - 52) - ((L : Int) - 53 + ε)).toNat = 0 := by omega
    have e3 : ((L : Int) - 53 + ε - (-53 + ((L : Int) - 52))).toNat = 52 + ε := by omega
    have e4 : ((L : Int) - 53 + ε - -1074).toNat = L + 1021 + ε := by omega
    rw [e2, e3, e4, Nat.shiftLeft_zero, hcut, Nat.min_eq_left (by omega)]
  · rw [hlow]
    refine Nat.div_eq_of_lt_le ?_ ?_
    · omega
    · omega

/-- The float's word, cut towards zero. -/
theorem cut_word (neg : Bool) (E k D : Nat) (h1 : 4503599627370496 ≤ k) (h2 : k ≤ 9007199254740992) (hE : (E : Int) = 1074 - (D : Int)) (hD : 4 ≤ D) (hD' : D ≤ 53) :
    (double.read (double.word neg (E * 4503599627370496 + k))).toInt .zero = some (signed neg (k / 2 ^ D) 0) := by
  rcases Nat.lt_or_ge k 9007199254740992 with h | h
  · rw [read_word neg E k (by omega) h1 h]
    have hk : 52 ≤ k.log2 := by rw [Nat.le_log2 (by omega)]; exact h1
    have e1 : (-1074 + (E : Int)).toNat = 0 := by omega
    have e2 : (-(-1074 + (E : Int))).toNat = D := by omega
    simp only [Datum.toInt, Datum.integral, e1, e2, Nat.shiftLeft_zero]
    rw [cut_zero _ _ _ (by omega)]
  · have e : k = 9007199254740992 := by omega
    subst e
    have e3 : E * 4503599627370496 + 9007199254740992 = (E + 1) * 4503599627370496 + 4503599627370496 := by omega
    rw [e3, read_word neg (E + 1) 4503599627370496 (by omega) (by omega) (by omega)]
    have hk : 52 ≤ Nat.log2 4503599627370496 := by rw [Nat.le_log2 (by omega)]; exact Nat.le_refl _
    have e1 : (-1074 + ((E + 1 : Nat) : Int)).toNat = 0 := by omega
    have e2 : (-(-1074 + ((E + 1 : Nat) : Int))).toNat = D - 1 := by omega
    simp only [Datum.toInt, Datum.integral, e1, e2, Nat.shiftLeft_zero]
    rw [cut_zero _ _ _ (by omega)]
    have e4 : (9007199254740992 : Nat) / 2 ^ D = 4503599627370496 / 2 ^ (D - 1) := by
      obtain ⟨d, rfl⟩ : ∃ d, D = d + 1 := ⟨D - 1, by omega⟩
      rw [Nat.pow_succ, show (9007199254740992 : Nat) = 4503599627370496 * 2 from rfl, Nat.mul_div_mul_right _ _ (by omega)]
      rfl
    rw [e4]

theorem signed_nine (t : Int) : signed (t < 0) (9 * t.natAbs / 10) 0 = (t * 9).tdiv 10 := by
  unfold signed
  rw [Nat.shiftLeft_zero]
  rcases Int.lt_or_le t 0 with h | h
  · obtain ⟨m, rfl⟩ : ∃ m : Nat, t = -(m : Int) := ⟨t.natAbs, by omega⟩
    rw [if_pos (by simpa using h), Int.natAbs_neg, Int.natAbs_natCast, Int.neg_mul, Int.neg_tdiv]
    congr 1
    rw [show (m : Int) * 9 = ((9 * m : Nat) : Int) from by omega, show (10 : Int) = ((10 : Nat) : Int) from rfl]
    exact (Int.ofNat_tdiv _ _).symm
  · obtain ⟨m, rfl⟩ : ∃ m : Nat, t = (m : Int) := ⟨t.natAbs, by omega⟩
    rw [if_neg (by simp), Int.natAbs_natCast]
    rw [show (m : Int) * 9 = ((9 * m : Nat) : Int) from by omega, show (10 : Int) = ((10 : Nat) : Int) from rfl]
    exact (Int.ofNat_tdiv _ _).symm

/-- THE PLAIN LAW: 'int64(0.9 * float64(t))' is 't * 9 / 10'. -/
theorem nine_tenths (t : Int) (h1 : -281474976710656 ≤ t) (h2 : t ≤ 281474976710656) :
    ∃ r, floatBits .mul .f64 4606281698874543309 (floatOfInt .f64 t) = some r ∧ floatToIntVal .f64 r .i64 = some ((t * 9).tdiv 10) := by
  have hb1 : -9223372036854775808 ≤ (t * 9).tdiv 10 ∧ (t * 9).tdiv 10 ≤ 9223372036854775807 := by
    rw [← signed_nine]; unfold signed; rw [Nat.shiftLeft_zero]; split <;> omega
  by_cases h0 : t = 0
  · subst h0
    exact ⟨0, rfl, rfl⟩
  obtain ⟨L, hL⟩ : ∃ L, t.natAbs.log2 = L := ⟨_, rfl⟩
  have hm : t.natAbs ≠ 0 := by omega
  have h48 : L ≤ 48 := by
    rw [← hL]
    have : t.natAbs.log2 < 49 := by rw [Nat.log2_lt hm]; show t.natAbs < 562949953421312; omega
    omega
  obtain ⟨E, k, D, hn, k1, k2, hE, d1, d2, hq⟩ := product (t < 0) t.natAbs L hm hL (by omega)
  have hx : floatOfInt .f64 t = double.word (t < 0) ((L + 1022) * 4503599627370496 + t.natAbs * 2 ^ (52 - L)) := nearest_int (t < 0) t.natAbs L hm hL h48
  have s1 : 4503599627370496 ≤ t.natAbs * 2 ^ (52 - L) := by
    calc 4503599627370496 = 2 ^ L * 2 ^ (52 - L) := by rw [← Nat.pow_add, show L + (52 - L) = 52 from by omega]
      _ ≤ t.natAbs * 2 ^ (52 - L) := Nat.mul_le_mul_right _ (by rw [← hL]; exact Nat.log2_self_le hm)
  have s2 : t.natAbs * 2 ^ (52 - L) < 9007199254740992 := by
    calc t.natAbs * 2 ^ (52 - L) < 2 ^ (L + 1) * 2 ^ (52 - L) := Nat.mul_lt_mul_of_pos_right (by rw [← hL]; exact Nat.lt_log2_self) (Nat.two_pow_pos _)
      _ = 2 ^ 53 := by rw [← Nat.pow_add]; congr 1; omega
      _ = 9007199254740992 := rfl
  have hr := read_word (t < 0) (L + 1022) (t.natAbs * 2 ^ (52 - L)) (by omega) s1 s2
  have hp : (-1074 + ((L + 1022 : Nat) : Int)) = (L : Int) - 52 := by omega
  rw [hp] at hr
  refine ⟨double.word (t < 0) (E * 4503599627370496 + k), ?_, ?_⟩
  · show Format.mul double 4606281698874543309 (floatOfInt .f64 t) = _
    rw [hx]
    unfold Format.mul
    rw [read_c, hr]
    simp only [Datum.product, Bool.false_xor, Option.map_some, Format.write]
    rw [hn]
  · unfold floatToIntVal
    show (match (double.read (double.word (t < 0) (E * 4503599627370496 + k))).toInt .zero with
      | some n => if IntKind.i64.min ≤ n ∧ n ≤ IntKind.i64.max then some n else none
      | none => none) = _
    rw [cut_word _ E k D k1 k2 hE d1 d2, hq, signed_nine]
    exact if_pos hb1
end Go.Proofs.Qxb6613438a
