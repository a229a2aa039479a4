import Derived.Laws.FloatArith
namespace Go.Proofs.YbulkeeoiDoor.Fl
open Ieee

theorem dbl_lp : double.leastPlace = -1074 := by decide
theorem dbl_binade : double.binade = 4503599627370496 := by decide
theorem dbl_inf : double.infRung = 2047 * 4503599627370496 := by decide
theorem dbl_sw : double.signWeight = 9223372036854775808 := by decide

/-- reading back a word laid from a rung of a normal number -/
theorem read_word (neg : Bool) (t kept : Nat) (ht : t < 2045) (h1 : 4503599627370496 ≤ kept) (h2 : kept < 9007199254740992) :
    double.read (double.word neg (t * 4503599627370496 + kept)) = .number neg kept (-1074 + (t : Int)) := by
  have hr : t * 4503599627370496 + kept < 2047 * 4503599627370496 := by omega
  have e1 : double.word neg (t * 4503599627370496 + kept) / 9223372036854775808 % 2 = neg.toNat := by
    cases neg
    · simp [Format.word]; omega
    · simp [Format.word, dbl_sw]; omega
  have e2 : double.word neg (t * 4503599627370496 + kept) % 9223372036854775808 = t * 4503599627370496 + kept := by
    cases neg
    · simp [Format.word]; omega
    · simp [Format.word, dbl_sw]; omega
  unfold Format.read
  simp only [dbl_sw, dbl_binade, dbl_inf, dbl_lp, e1, e2]
  rw [if_neg (by omega), if_pos hr]
  congr 1
  · cases neg <;> rfl
  · omega
  · omega

theorem cut_low (neg : Bool) (n d : Nat) (hd : d ≤ n.log2 + 2) : n / 2 ^ d ≤ Toward.even.cut neg n d := by
  unfold Toward.cut
  simp only [Nat.min_eq_left hd, Nat.one_shiftLeft]
  omega

theorem cut_high (neg : Bool) (n d b : Nat) (hd : d ≤ n.log2 + 2) (h : n ≤ b * 2 ^ d) : Toward.even.cut neg n d ≤ b := by
  unfold Toward.cut
  simp only [Nat.min_eq_left hd, Nat.one_shiftLeft]
  have hp : 0 < 2 ^ d := Nat.two_pow_pos d
  have hdm := Nat.div_add_mod n (2 ^ d)
  have hml := Nat.mod_lt n hp
  by_cases hz : n % 2 ^ d = 0
  · rw [hz]
    have : n / 2 ^ d ≤ b := Nat.div_le_of_le_mul (by rw [Nat.mul_comm]; exact h)
    have hne : (2 ^ d == 2 * 0) = false := by simp
    simp only [hne]
    simp
    exact this
  · have hlt : n / 2 ^ d < b := by
      rw [Nat.div_lt_iff_lt_mul hp]
      rcases Nat.lt_or_ge n (b * 2 ^ d) with h' | h'
      · exact h'
      · have he : n = b * 2 ^ d := Nat.le_antisymm h h'
        rw [he, Nat.mul_mod_left] at hz
        exact absurd rfl hz
    have : (decide (2 ^ d < 2 * (n % 2 ^ d)) || (2 ^ d == 2 * (n % 2 ^ d) && n / 2 ^ d % 2 == 1)).toNat ≤ 1 := Bool.toNat_le _
    omega

theorem p52 : (2 : Nat) ^ 52 = 4503599627370496 := by decide
theorem p53 : (2 : Nat) ^ 53 = 9007199254740992 := by decide
theorem pow_pred {x : Nat} (h : 0 < x) : (2 : Nat) ^ x = 2 ^ (x - 1) * 2 := by
  cases x with
  | zero => omega
  | succ x => rw [Nat.pow_succ, Nat.add_sub_cancel]
theorem pow_eq {x y : Nat} (h : x = y) : (2 : Nat) ^ x = 2 ^ y := by rw [h]
theorem pow_split {x y : Nat} (h : y ≤ x) : 2 ^ x = 2 ^ y * 2 ^ (x - y) := by rw [← Nat.pow_add]; exact pow_eq (by omega)


theorem nearest_eq (neg : Bool) (mag k L : Nat) (hm : mag ≠ 0) (hLd : mag.log2 = L) (hL : L ≤ k + 52) (hk : k + 52 ≤ L + 1074) :
    double.nearest neg mag (-(k : Int)) = double.word neg (min ((1074 - (k + 52 - L)) * 4503599627370496 + Toward.even.cut neg (mag <<< (52 - L)) (L - 52)) (2047 * 4503599627370496)) := by
  have hlast : max (-(k : Int) + (L : Int) - (double.fractionBits : Int)) (-1074) = -((k + 52 - L : Nat) : Int) := by
    show max (-(k : Int) + (L : Int) - 52) (-1074) = _
    omega
  unfold Format.nearest
  rw [if_neg hm]
  simp only [hLd, dbl_lp, dbl_binade, dbl_inf, hlast]
  rw [show (-(k : Int) - -((k + 52 - L : Nat) : Int)).toNat = 52 - L by omega, show (-((k + 52 - L : Nat) : Int) - -(k : Int)).toNat = L - 52 by omega, show (-((k + 52 - L : Nat) : Int) - -1074).toNat = 1074 - (k + 52 - L) by omega]

theorem kept_bounds (neg : Bool) (mag k a b p L : Nat) (hm : mag ≠ 0) (hLd : mag.log2 = L) (hL : L ≤ k + 52)
    (ha : a < 9007199254740992) (hb : b < 9007199254740992) (h1 : a * 2 ^ k ≤ mag * 2 ^ p) (h2 : mag * 2 ^ p ≤ b * 2 ^ k) :
    4503599627370496 ≤ Toward.even.cut neg (mag <<< (52 - L)) (L - 52) ∧ Toward.even.cut neg (mag <<< (52 - L)) (L - 52) ≤ 9007199254740992 ∧
      a * 2 ^ (k + 52 - L) ≤ Toward.even.cut neg (mag <<< (52 - L)) (L - 52) * 2 ^ p ∧ Toward.even.cut neg (mag <<< (52 - L)) (L - 52) * 2 ^ p ≤ b * 2 ^ (k + 52 - L) := by
  have hlow : 2 ^ L ≤ mag := hLd ▸ Nat.log2_self_le hm
  have hhigh : mag < 2 ^ (L + 1) := hLd ▸ Nat.lt_log2_self
  by_cases h52 : L ≤ 52
  · rw [show L - 52 = 0 by omega, Nat.shiftLeft_eq]
    have hc : Toward.even.cut neg (mag * 2 ^ (52 - L)) 0 = mag * 2 ^ (52 - L) := by
      refine Nat.le_antisymm (cut_high _ _ _ _ (by omega) (by rw [Nat.pow_zero, Nat.mul_one]; exact Nat.le_refl _)) ?_
      have := cut_low neg (mag * 2 ^ (52 - L)) 0 (by omega)
      rw [Nat.pow_zero, Nat.div_one] at this
      exact this
    rw [hc]
    have e1 : 4503599627370496 = 2 ^ L * 2 ^ (52 - L) := by rw [← p52]; exact pow_split h52
    have e2 : 9007199254740992 = 2 ^ (L + 1) * 2 ^ (52 - L) := by rw [← p53, ← Nat.pow_add]; exact pow_eq (by omega)
    have e3 : 2 ^ (k + 52 - L) = 2 ^ k * 2 ^ (52 - L) := by rw [← Nat.pow_add]; exact pow_eq (by omega)
    refine ⟨?_, ?_, ?_, ?_⟩
    · rw [e1]; exact Nat.mul_le_mul_right _ hlow
    · rw [e2]; exact Nat.mul_le_mul_right _ (Nat.le_of_lt hhigh)
    · rw [e3, ← Nat.mul_assoc, Nat.mul_right_comm mag]; exact Nat.mul_le_mul_right _ h1
    · rw [e3, ← Nat.mul_assoc, Nat.mul_right_comm mag]; exact Nat.mul_le_mul_right _ h2
  · have h53 : 52 < L := by omega
    rw [show 52 - L = 0 by omega, Nat.shiftLeft_zero]
    have hlo := cut_low neg mag (L - 52) (by omega)
    have hp : 0 < 2 ^ (L - 52) := Nat.two_pow_pos _
    have e1 : 2 ^ L = 4503599627370496 * 2 ^ (L - 52) := by rw [← p52]; exact pow_split (by omega)
    have e2 : 2 ^ (L + 1) = 9007199254740992 * 2 ^ (L - 52) := by rw [← p53, ← Nat.pow_add]; exact pow_eq (by omega)
    have e3 : 2 ^ k = 2 ^ (k + 52 - L) * 2 ^ (L - 52) := by rw [← Nat.pow_add]; exact pow_eq (by omega)
    have q1 : 4503599627370496 ≤ Toward.even.cut neg mag (L - 52) := Nat.le_trans ((Nat.le_div_iff_mul_le hp).2 (by rw [← e1]; exact hlow)) hlo
    refine ⟨q1, cut_high _ _ _ _ (by omega) (by rw [← e2]; exact Nat.le_of_lt hhigh), ?_, ?_⟩
    · rcases Nat.lt_or_ge (k + 52 - L) p with hp' | hp'
      · have e4 : 9007199254740992 * 2 ^ (k + 52 - L) ≤ 4503599627370496 * 2 ^ p := by
          rw [← p52, ← p53, ← Nat.pow_add, ← Nat.pow_add]; exact Nat.pow_le_pow_right (by omega) (by omega)
        exact Nat.le_trans (Nat.mul_le_mul_right _ (Nat.le_of_lt ha)) (Nat.le_trans e4 (Nat.mul_le_mul_right _ q1))
      · have e4 : 2 ^ (k + 52 - L) = 2 ^ p * 2 ^ (k + 52 - L - p) := pow_split hp'
        have h3 : a * 2 ^ (k + 52 - L - p) * 2 ^ (L - 52) ≤ mag := by
          have h5 : a * 2 ^ (k + 52 - L - p) * 2 ^ (L - 52) * 2 ^ p ≤ mag * 2 ^ p := by
            refine Nat.le_trans (Nat.le_of_eq ?_) h1
            rw [e3, e4]; ac_rfl
          exact Nat.le_of_mul_le_mul_right h5 (Nat.two_pow_pos p)
        have h4 : a * 2 ^ (k + 52 - L - p) ≤ Toward.even.cut neg mag (L - 52) := Nat.le_trans ((Nat.le_div_iff_mul_le hp).2 h3) hlo
        rw [e4, Nat.mul_comm (2 ^ p), ← Nat.mul_assoc]
        exact Nat.mul_le_mul_right _ h4
    · rcases Nat.lt_or_ge (k + 52 - L) p with hp' | hp'
      · exfalso
        have e4 : 9007199254740992 * 2 ^ k ≤ 2 ^ L * 2 ^ p := by
          rw [← p53, ← Nat.pow_add, ← Nat.pow_add]; exact Nat.pow_le_pow_right (by omega) (by omega)
        have h5 : b * 2 ^ k < 9007199254740992 * 2 ^ k := Nat.mul_lt_mul_of_pos_right hb (Nat.two_pow_pos k)
        have h6 : 2 ^ L * 2 ^ p ≤ mag * 2 ^ p := Nat.mul_le_mul_right _ hlow
        exact absurd (Nat.le_trans e4 (Nat.le_trans h6 h2)) (Nat.not_le_of_lt h5)
      · have e4 : 2 ^ (k + 52 - L) = 2 ^ p * 2 ^ (k + 52 - L - p) := pow_split hp'
        have h3 : mag ≤ b * 2 ^ (k + 52 - L - p) * 2 ^ (L - 52) := by
          have h5 : mag * 2 ^ p ≤ b * 2 ^ (k + 52 - L - p) * 2 ^ (L - 52) * 2 ^ p := by
            refine Nat.le_trans h2 (Nat.le_of_eq ?_)
            rw [e3, e4]; ac_rfl
          exact Nat.le_of_mul_le_mul_right h5 (Nat.two_pow_pos p)
        have h4 := cut_high neg mag (L - 52) _ (by omega) h3
        rw [e4, Nat.mul_comm (2 ^ p), ← Nat.mul_assoc]
        exact Nat.mul_le_mul_right _ h4

/-- THE NEAREST WORD LIES BETWEEN ANY TWO NUMBERS OF THE FORMAT THAT THE NUMBER LIES BETWEEN. -/
theorem round_between (neg : Bool) (mag k a b p : Nat) (hm : mag ≠ 0) (hL : mag.log2 ≤ k + 52) (hk : k + 52 ≤ mag.log2 + 1074)
    (ha : a < 9007199254740992) (hb : b < 9007199254740992) (h1 : a * 2 ^ k ≤ mag * 2 ^ p) (h2 : mag * 2 ^ p ≤ b * 2 ^ k) :
    ∃ m' k' : Nat, double.read (double.nearest neg mag (-(k : Int))) = .number neg m' (-(k' : Int)) ∧ 4503599627370496 ≤ m' ∧ m' < 9007199254740992 ∧ a * 2 ^ k' ≤ m' * 2 ^ p ∧ m' * 2 ^ p ≤ b * 2 ^ k' ∧ k' ≤ k + 52 ∧ k ≤ k' + mag.log2 := by
  obtain ⟨g1, g2, g3, g4⟩ := kept_bounds neg mag k a b p _ hm rfl hL ha hb h1 h2
  rw [nearest_eq neg mag k _ hm rfl hL hk]
  generalize Toward.even.cut neg (mag <<< (52 - mag.log2)) (mag.log2 - 52) = kept at *
  generalize mag.log2 = L at *
  have hmin : min ((1074 - (k + 52 - L)) * 4503599627370496 + kept) (2047 * 4503599627370496) = (1074 - (k + 52 - L)) * 4503599627370496 + kept := by
    apply Nat.min_eq_left; omega
  rw [hmin]
  rcases Nat.lt_or_ge kept 9007199254740992 with hlt | hge
  · refine ⟨kept, k + 52 - L, ?_, g1, hlt, g3, g4, by omega, by omega⟩
    rw [read_word neg _ kept (by omega) g1 hlt]
    rw [show -1074 + ((1074 - (k + 52 - L) : Nat) : Int) = -((k + 52 - L : Nat) : Int) by omega]
  · have he : kept = 9007199254740992 := Nat.le_antisymm g2 hge
    clear hmin
    have hpos : 0 < k + 52 - L := by
      rcases Nat.eq_zero_or_pos (k + 52 - L) with h0 | h0
      · exfalso
        rw [h0, Nat.pow_zero, Nat.mul_one] at g4
        have h3 : kept ≤ kept * 2 ^ p := Nat.le_mul_of_pos_right _ (Nat.two_pow_pos p)
        exact absurd (Nat.le_trans hge (Nat.le_trans h3 g4)) (Nat.not_le_of_lt hb)
      · exact h0
    rw [pow_pred hpos, ← Nat.mul_assoc] at g3 g4
    generalize hD : 2 ^ (k + 52 - L - 1) = D at *
    generalize 2 ^ p = E at *
    refine ⟨4503599627370496, k + 52 - L - 1, ?_, Nat.le_refl _, by decide, ?_, ?_, by omega, by omega⟩
    · rw [he, show (1074 - (k + 52 - L)) * 4503599627370496 + 9007199254740992 = (1074 - (k + 52 - L) + 1) * 4503599627370496 + 4503599627370496 by omega, read_word neg _ _ (by omega) (Nat.le_refl _) (by decide)]
      rw [show -1074 + ((1074 - (k + 52 - L) + 1 : Nat) : Int) = -((k + 52 - L - 1 : Nat) : Int) by omega]
    · rw [hD]
      subst he
      generalize a * D = X at *
      omega
    · rw [hD]
      subst he
      generalize b * D = X at *
      omega

/-- A whole number below 2^53 is a number of the format. -/
theorem nearest_whole (neg : Bool) (n : Nat) (hn : n ≠ 0) (hb : n < 9007199254740992) :
    ∃ k : Nat, double.read (double.nearest neg n 0) = .number neg (n * 2 ^ k) (-(k : Int)) ∧ 4503599627370496 ≤ n * 2 ^ k ∧ n * 2 ^ k < 9007199254740992 ∧ k ≤ 52 := by
  have hlog : n.log2 < 53 := (Nat.log2_lt hn).2 (by rw [p53]; exact hb)
  obtain ⟨m', k', e, b1, b2, b3, b4, b5, b6⟩ := round_between neg n 0 n n 0 hn (by omega) (by omega) hb hb (Nat.le_refl _) (Nat.le_refl _)
  rw [Nat.pow_zero, Nat.mul_one] at b3 b4
  have : m' = n * 2 ^ k' := Nat.le_antisymm b4 b3
  subst this
  exact ⟨k', by simpa using e, b1, b2, by omega⟩

theorem log2_of {m : Nat} (h1 : 4503599627370496 ≤ m) (h2 : m < 9007199254740992) : m.log2 = 52 := by
  have hm : m ≠ 0 := by omega
  have a1 : m.log2 < 53 := (Nat.log2_lt hm).2 (by rw [p53]; exact h2)
  have a2 : ¬ m.log2 < 52 := fun h => by
    have := (Nat.log2_lt hm).1 h
    rw [p52] at this
    omega
  omega

theorem read_zero (neg : Bool) : double.read (double.word neg 0) = .number neg 0 (-1074) := by cases neg <;> decide
theorem nearest_zero (neg : Bool) (p : Int) : double.nearest neg 0 p = double.word neg 0 := by simp [Format.nearest]
theorem read_billion : double.read 4741671816366391296 = .number false 8388608000000000 (-23) := by decide

/-- n / 10^9, where 0 < n < 10^9: a number of the format, at least 2^-30 and at most 1 - 2^-30. -/
theorem div_billion (neg : Bool) (n : Nat) (hn : n ≠ 0) (hb : n < 1000000000) :
    ∃ z zm zk : Nat, double.div (double.nearest neg n 0) 4741671816366391296 = some z ∧ double.read z = .number neg zm (-(zk : Int)) ∧ 4503599627370496 ≤ zm ∧ zm < 9007199254740992 ∧ 2 ^ zk ≤ zm * 2 ^ 30 ∧ zm * 2 ^ 30 ≤ 1073741823 * 2 ^ zk ∧ zk ≤ 400 := by
  obtain ⟨k1, e, b1, b2, b3⟩ := nearest_whole neg n hn (by omega)
  have hk1 : 23 ≤ k1 := by
    rcases Nat.lt_or_ge k1 23 with h | h
    · exfalso
      have : n * 2 ^ k1 ≤ 1000000000 * 2 ^ 22 := Nat.mul_le_mul (Nat.le_of_lt hb) (Nat.pow_le_pow_right (by omega) (by omega))
      omega
    · exact h
  unfold Format.div
  rw [e, read_billion]
  have hl := log2_of b1 b2
  have hl2 : (8388608000000000 : Nat).log2 = 52 := by decide
  simp only [Datum.quotient, hl, hl2, double, Bool.xor_false]
  rw [if_neg (by decide)]
  simp only [Option.map_some]
  have hpl : (-(k1 : Int) - -23 - ((52 + 2 + 52 - 52 : Nat) : Int) - 1) = -((k1 + 32 : Nat) : Int) := by omega
  rw [hpl]
  rw [show 52 + 2 + 52 - 52 = 54 from rfl, Nat.shiftLeft_eq]
  generalize hq : n * 2 ^ k1 * 2 ^ 54 / 8388608000000000 = q
  generalize hr : (n * 2 ^ k1 * 2 ^ 54 % 8388608000000000 != 0) = r
  have hr1 : r.toNat ≤ 1 := Bool.toNat_le _
  -- q lies between the two bounds, as numbers with k1 + 1 places
  have hq1 : 2 ^ (k1 + 1) ≤ q := by
    rw [← hq, Nat.le_div_iff_mul_le (by decide)]
    rw [show (2 : Nat) ^ (k1 + 1) = 2 ^ k1 * 2 from Nat.pow_succ ..]
    have : 2 ^ k1 ≤ n * 2 ^ k1 := Nat.le_mul_of_pos_left _ (by omega)
    generalize n * 2 ^ k1 = X at *
    generalize 2 ^ k1 = Y at *
    omega
  have hq2 : q < 1073741823 * 2 ^ (k1 + 1) := by
    rw [← hq, Nat.div_lt_iff_lt_mul (by decide)]
    rw [show (2 : Nat) ^ (k1 + 1) = 2 ^ k1 * 2 from Nat.pow_succ ..]
    have : n * 2 ^ k1 ≤ 999999999 * 2 ^ k1 := Nat.mul_le_mul_right _ (by omega)
    have h0 : 0 < 2 ^ k1 := Nat.two_pow_pos _
    generalize n * 2 ^ k1 = X at *
    generalize 2 ^ k1 = Y at *
    omega
  have hM0 : 2 * q + r.toNat ≠ 0 := by
    have := Nat.two_pow_pos (k1 + 1)
    omega
  have e32 : 2 ^ (k1 + 32) = 2 ^ (k1 + 1) * 2147483648 := by rw [show (2147483648 : Nat) = 2 ^ 31 by decide, ← Nat.pow_add]
  have hlow : k1 + 2 ≤ (2 * q + r.toNat).log2 := by
    refine (Nat.le_log2 hM0).2 ?_
    rw [show (2 : Nat) ^ (k1 + 2) = 2 ^ (k1 + 1) * 2 from Nat.pow_succ ..]
    omega
  have hhigh : (2 * q + r.toNat).log2 < k1 + 32 := by
    refine (Nat.log2_lt hM0).2 ?_
    rw [e32]
    omega
  obtain ⟨m', k', g, c1, c2, c3, c4, c5, c6⟩ := round_between neg (2 * q + r.toNat) (k1 + 32) 1 1073741823 30 hM0 (by omega) (by omega) (by decide) (by decide)
    (by rw [e32]; omega) (by rw [e32]; omega)
  refine ⟨_, m', k', rfl, ?_, c1, c2, by rw [Nat.one_mul] at c3; exact c3, c4, by omega⟩
  exact g

/-- What 'float64(s)' reads as: s itself, with some number of places. -/
theorem read_whole (neg : Bool) (s : Nat) (hs : s < 4194304) : ∃ sk : Nat, double.read (double.nearest neg s 0) = .number neg (s * 2 ^ sk) (-(sk : Int)) ∧ sk ≤ 1074 := by
  by_cases h0 : s = 0
  · subst h0
    obtain ⟨k, hk⟩ : ∃ k : Nat, k = 1074 := ⟨_, rfl⟩
    refine ⟨k, ?_, by omega⟩
    rw [nearest_zero, read_zero, Nat.zero_mul, show (-1074 : Int) = -(k : Int) by omega]
  · obtain ⟨k, e, b1, b2, b3⟩ := nearest_whole neg s h0 (by omega)
    exact ⟨k, e, by omega⟩

theorem signed_eq (neg : Bool) (m up : Nat) : signed neg m up = if neg then -((m * 2 ^ up : Nat) : Int) else ((m * 2 ^ up : Nat) : Int) := by
  unfold signed
  rw [Nat.shiftLeft_eq]

theorem signed_add (neg : Bool) (m i n j : Nat) : signed neg m i + signed neg n j = if neg then -((m * 2 ^ i + n * 2 ^ j : Nat) : Int) else ((m * 2 ^ i + n * 2 ^ j : Nat) : Int) := by
  rw [signed_eq, signed_eq]
  cases neg <;> simp <;> omega

theorem aux1 (Z Y V : Nat) (w1 : V ≤ Y * 2 ^ 30) : Z * 1073741824 + V ≤ (Z + Y) * 2 ^ 30 := by omega
theorem aux2 (Z Y V : Nat) (w2 : Y * 2 ^ 30 ≤ 1073741823 * V) : (Z + Y) * 2 ^ 30 ≤ Z * 1073741824 + 1073741823 * V := by
  rw [show (1073741824 : Nat) = 2 ^ 30 by decide, Nat.add_mul]
  exact Nat.add_le_add_left w2 _

/-- s + z, of one sign, where z has its own places: between s + 2^-30 and s + 1 - 2^-30. -/
theorem add_part (neg neg' : Bool) (s z zm zk : Nat) (hs : s < 4194304) (hneg : s = 0 ∨ neg' = neg) (hz : double.read z = .number neg zm (-(zk : Int))) (z1 : 2 ^ zk ≤ zm * 2 ^ 30) (z2 : zm * 2 ^ 30 ≤ 1073741823 * 2 ^ zk) (zk4 : zk ≤ 400) :
    ∃ t tm tk : Nat, double.add (double.nearest neg' s 0) z = some t ∧ double.read t = .number neg tm (-(tk : Int)) ∧ 4503599627370496 ≤ tm ∧ tm < 9007199254740992 ∧ (s * 1073741824 + 1) * 2 ^ tk ≤ tm * 2 ^ 30 ∧ tm * 2 ^ 30 ≤ (s * 1073741824 + 1073741823) * 2 ^ tk := by
  obtain ⟨sk, e, hsk⟩ := read_whole neg' s hs
  -- the exact sum, with K places
  have hsum : ∃ K mag : Nat, ((Datum.number neg' (s * 2 ^ sk) (-(sk : Int))).sum (.number neg zm (-(zk : Int)))) = some (.number neg mag (-(K : Int))) ∧ mag = s * 2 ^ K + zm * 2 ^ (K - zk) ∧ zk ≤ K ∧ K ≤ 1074 := by
    refine ⟨max sk zk, s * 2 ^ (max sk zk) + zm * 2 ^ (max sk zk - zk), ?_, rfl, by omega, by omega⟩
    simp only [Datum.sum]
    rw [show min (-(sk : Int)) (-(zk : Int)) = -((max sk zk : Nat) : Int) by omega, show (-(sk : Int) - -((max sk zk : Nat) : Int)).toNat = max sk zk - sk by omega, show (-(zk : Int) - -((max sk zk : Nat) : Int)).toNat = max sk zk - zk by omega]
    have hsg : signed neg' (s * 2 ^ sk) (max sk zk - sk) = signed neg (s * 2 ^ sk) (max sk zk - sk) := by
      rcases hneg with h | h
      · subst h; rw [signed_eq, signed_eq, Nat.zero_mul, Nat.zero_mul]; simp
      · rw [h]
    have hp : s * 2 ^ sk * 2 ^ (max sk zk - sk) = s * 2 ^ (max sk zk) := by
      rw [Nat.mul_assoc, ← Nat.pow_add]; congr 2; omega
    rw [hsg, signed_add, hp]
    have hzm : 0 < zm := by
      rcases Nat.eq_zero_or_pos zm with h | h
      · exfalso; rw [h, Nat.zero_mul] at z1; exact absurd z1 (Nat.not_le_of_lt (Nat.two_pow_pos zk))
      · exact h
    have hpos : 0 < zm * 2 ^ (max sk zk - zk) := Nat.mul_pos hzm (Nat.two_pow_pos _)
    generalize s * 2 ^ (max sk zk) = X at *
    generalize zm * 2 ^ (max sk zk - zk) = Y at *
    cases neg
    · simp only [Bool.false_eq_true, if_false]
      rw [if_neg (by omega)]
      rw [show decide (((X + Y : Nat) : Int) < 0) = false by simp; omega, show (((X + Y : Nat) : Int)).natAbs = X + Y by omega]
    · simp only [if_true]
      rw [if_neg (by omega)]
      rw [show decide (-((X + Y : Nat) : Int) < 0) = true by simp; omega, show (-((X + Y : Nat) : Int)).natAbs = X + Y by omega]
  obtain ⟨K, mag, hS, hmag, hKz, hK⟩ := hsum
  have eK : 2 ^ K = 2 ^ zk * 2 ^ (K - zk) := pow_split hKz
  have w1 : 2 ^ K ≤ zm * 2 ^ (K - zk) * 2 ^ 30 := by
    rw [eK, Nat.mul_right_comm]; exact Nat.mul_le_mul_right _ z1
  have w2 : zm * 2 ^ (K - zk) * 2 ^ 30 ≤ 1073741823 * 2 ^ K := by
    rw [eK, Nat.mul_right_comm, ← Nat.mul_assoc]; exact Nat.mul_le_mul_right _ z2
  have hb1 : (s * 1073741824 + 1) * 2 ^ K ≤ mag * 2 ^ 30 := by
    rw [hmag, Nat.add_mul, Nat.mul_right_comm s 1073741824, Nat.one_mul]
    exact aux1 _ _ _ w1
  have hb2 : mag * 2 ^ 30 ≤ (s * 1073741824 + 1073741823) * 2 ^ K := by
    rw [hmag, Nat.add_mul _ _ (2 ^ K), Nat.mul_right_comm s 1073741824]
    exact aux2 _ _ _ w2
  have hKp := Nat.two_pow_pos K
  have hm0 : mag ≠ 0 := by
    rintro rfl
    rw [Nat.zero_mul] at hb1
    exact absurd hb1 (Nat.not_le_of_lt (Nat.mul_pos (by omega) hKp))
  have hlo : K ≤ mag.log2 + 30 := by
    rcases Nat.lt_or_ge (mag.log2 + 30) K with h | h
    · exfalso
      have h1 : mag < 2 ^ (mag.log2 + 1) := Nat.lt_log2_self
      have h2 : 2 ^ (mag.log2 + 1) * 2 ^ 30 ≤ 2 ^ K := by rw [← Nat.pow_add]; exact Nat.pow_le_pow_right (by omega) (by omega)
      have h3 : 2 ^ K ≤ mag * 2 ^ 30 := Nat.le_trans (Nat.le_mul_of_pos_left _ (by omega)) hb1
      have h4 : mag * 2 ^ 30 < 2 ^ (mag.log2 + 1) * 2 ^ 30 := Nat.mul_lt_mul_of_pos_right h1 (by decide)
      exact absurd (Nat.lt_of_lt_of_le h4 (Nat.le_trans h2 h3)) (Nat.lt_irrefl _)
    · exact h
  have hhi : mag.log2 ≤ K + 52 := by
    have h1 : mag < 2 ^ (K + 22) := by
      have h2 : mag * 2 ^ 30 < 2 ^ (K + 22) * 2 ^ 30 := by
        refine Nat.lt_of_le_of_lt hb2 ?_
        rw [Nat.pow_add, Nat.mul_assoc, Nat.mul_comm (2 ^ K)]
        exact Nat.mul_lt_mul_of_pos_right (by omega) hKp
      exact Nat.lt_of_mul_lt_mul_right h2
    have := (Nat.log2_lt hm0).2 h1
    omega
  obtain ⟨tm, tk, g, c1, c2, c3, c4, c5, c6⟩ := round_between neg mag K _ _ 30 hm0 hhi (by omega) (by omega) (by omega) hb1 hb2
  refine ⟨_, tm, tk, ?_, g, c1, c2, c3, c4⟩
  unfold Format.add
  rw [e, hz, hS]
  rfl

theorem cut_up (neg : Bool) (s tm tk : Nat) (c1 : 4503599627370496 ≤ tm) (c2 : tm < 9007199254740992) (c3 : (s * 1073741824 + 1) * 2 ^ tk ≤ tm * 2 ^ 30) (c4 : tm * 2 ^ 30 ≤ (s * 1073741824 + 1073741823) * 2 ^ tk) :
    Toward.up.cut neg tm tk = s + (!neg).toNat := by
  have hp := Nat.two_pow_pos tk
  have l1 : s * 2 ^ tk < tm := by
    rw [Nat.add_mul, Nat.mul_right_comm] at c3
    generalize s * 2 ^ tk = X at *
    omega
  have l2 : tm < (s + 1) * 2 ^ tk := by
    rw [Nat.add_mul, Nat.mul_right_comm] at c4
    rw [Nat.add_mul]
    generalize s * 2 ^ tk = X at *
    omega
  unfold Toward.cut
  rw [log2_of c1 c2, Nat.one_shiftLeft]
  by_cases h54 : tk ≤ 54
  · rw [Nat.min_eq_left h54]
    have d1 : tm / 2 ^ tk = s := by
      refine Nat.le_antisymm ?_ ?_
      · exact Nat.le_of_lt_succ ((Nat.div_lt_iff_lt_mul hp).2 l2)
      · exact (Nat.le_div_iff_mul_le hp).2 (Nat.le_of_lt l1)
    have d2 : tm % 2 ^ tk ≠ 0 := by
      intro h
      have := Nat.div_add_mod tm (2 ^ tk)
      rw [d1, h, Nat.mul_comm] at this
      omega
    simp only [d1]
    have : (tm % 2 ^ tk != 0) = true := by simp [d2]
    rw [this, Bool.and_true]
  · rw [Nat.min_eq_right (by omega)]
    have hs0 : s = 0 := by
      rcases Nat.eq_zero_or_pos s with h | h
      · exact h
      · exfalso
        have : 2 ^ 54 ≤ 2 ^ tk := Nat.pow_le_pow_right (by omega) (by omega)
        have h2 : 2 ^ tk ≤ s * 2 ^ tk := Nat.le_mul_of_pos_left _ h
        omega
    subst hs0
    have d1 : tm / 2 ^ 54 = 0 := Nat.div_eq_of_lt (by omega)
    have d2 : tm % 2 ^ 54 = tm := Nat.mod_eq_of_lt (by omega)
    simp only [d1, d2]
    have : (tm != 0) = true := by simp; omega
    rw [this, Bool.and_true]

/-- Of a whole number the ceiling is itself. -/
theorem cut_whole (way : Toward) (neg : Bool) (s k : Nat) (hw : way ≠ .even) (h : s = 0 ∨ (4503599627370496 ≤ s * 2 ^ k ∧ s * 2 ^ k < 9007199254740992 ∧ k ≤ 52)) : way.cut neg (s * 2 ^ k) k = s := by
  unfold Toward.cut
  rw [Nat.one_shiftLeft]
  rcases h with rfl | ⟨h1, h2, h3⟩
  · simp only [Nat.zero_mul, Nat.zero_div, Nat.zero_mod]
    cases way <;> simp at hw ⊢
  · rw [log2_of h1 h2, Nat.min_eq_left (by omega)]
    dsimp only
    rw [Nat.mul_div_cancel _ (Nat.two_pow_pos k), Nat.mul_mod_left]
    cases way <;> simp at hw ⊢

theorem toInt_whole (neg : Bool) (s : Nat) (hs : s < 9007199254740992) : (double.read (double.nearest neg s 0)).toInt .zero = some (if neg then -(s : Int) else (s : Int)) := by
  by_cases h0 : s = 0
  · subst h0
    rw [nearest_zero, read_zero]
    cases neg <;> decide
  · obtain ⟨k, e, b1, b2, b3⟩ := nearest_whole neg s h0 hs
    rw [e]
    simp only [Datum.toInt, Datum.integral]
    rw [show (-(k : Int)).toNat = 0 by omega, show (- -(k : Int)).toNat = k by omega, Nat.shiftLeft_zero, cut_whole _ _ _ _ (by decide) (Or.inr ⟨b1, b2, b3⟩), signed_eq, Nat.pow_zero, Nat.mul_one]

/-- s + 0 -/
theorem add_none (neg : Bool) (s : Nat) (h0 : s ≠ 0) (hs : s < 4194304) :
    ∃ t tk : Nat, double.add (double.nearest neg s 0) 0 = some t ∧ double.read t = .number neg (s * 2 ^ tk) (-(tk : Int)) ∧ 4503599627370496 ≤ s * 2 ^ tk ∧ s * 2 ^ tk < 9007199254740992 ∧ tk ≤ 52 := by
  obtain ⟨sk, e, b1, b2, b3⟩ := nearest_whole neg s h0 (by omega)
  have hr0 : double.read 0 = .number false 0 (-1074) := read_zero false
  obtain ⟨K, hK⟩ : ∃ K : Nat, K = 1074 := ⟨_, rfl⟩
  have hsum : ((Datum.number neg (s * 2 ^ sk) (-(sk : Int))).sum (.number false 0 (-1074))) = some (.number neg (s * 2 ^ K) (-(K : Int))) := by
    simp only [Datum.sum]
    rw [show min (-(sk : Int)) (-1074) = -(K : Int) by omega, show (-(sk : Int) - -(K : Int)).toNat = K - sk by omega]
    have hz : ∀ j, signed false 0 j = 0 := fun j => by rw [signed_eq, Nat.zero_mul]; rfl
    have hp : s * 2 ^ sk * 2 ^ (K - sk) = s * 2 ^ K := by
      rw [Nat.mul_assoc, ← Nat.pow_add, show sk + (K - sk) = K by omega]
    rw [hz, Int.add_zero, signed_eq, hp]
    have hpos : 0 < s * 2 ^ K := Nat.mul_pos (by omega) (Nat.two_pow_pos _)
    generalize s * 2 ^ K = X at *
    cases neg
    · simp only [Bool.false_eq_true, if_false]
      rw [if_neg (by omega), show decide ((X : Int) < 0) = false by simp, show ((X : Int)).natAbs = X by omega]
    · simp only [if_true]
      rw [if_neg (by omega), show decide (-(X : Int) < 0) = true by simp; omega, show (-(X : Int)).natAbs = X by omega]
  have hm0 : s * 2 ^ K ≠ 0 := Nat.pos_iff_ne_zero.1 (Nat.mul_pos (by omega) (Nat.two_pow_pos _))
  have hlo : K ≤ (s * 2 ^ K).log2 := (Nat.le_log2 hm0).2 (Nat.le_mul_of_pos_left _ (by omega))
  have hhi : (s * 2 ^ K).log2 < K + 22 := (Nat.log2_lt hm0).2 (by
    rw [Nat.pow_add, Nat.mul_comm]
    exact Nat.mul_lt_mul_of_pos_left (by omega) (Nat.two_pow_pos _))
  obtain ⟨tm, tk, g, c1, c2, c3, c4, c5, c6⟩ := round_between neg (s * 2 ^ K) K s s 0 hm0 (by omega) (by omega) (by omega) (by omega) (by rw [Nat.pow_zero, Nat.mul_one]; exact Nat.le_refl _) (by rw [Nat.pow_zero, Nat.mul_one]; exact Nat.le_refl _)
  rw [Nat.pow_zero, Nat.mul_one] at c3 c4
  have : tm = s * 2 ^ tk := Nat.le_antisymm c4 c3
  subst this
  refine ⟨_, tk, ?_, g, c1, c2, ?_⟩
  · unfold Format.add
    rw [e, hr0, hsum]
    rfl
  · rcases Nat.lt_or_ge 52 tk with h | h
    · exfalso
      have h1 : 2 ^ 53 ≤ 2 ^ tk := Nat.pow_le_pow_right (by omega) h
      have h2 : 2 ^ tk ≤ s * 2 ^ tk := Nat.le_mul_of_pos_left _ (by omega)
      rw [p53] at h1
      omega
    · exact h

/-- d nanoseconds as whole seconds, rounded up. -/
def ceilSec (d : Int) : Int := if 0 < d.tmod 1000000000 then d.tdiv 1000000000 + 1 else d.tdiv 1000000000

theorem ofInt_eq (n : Int) : floatOfInt .f64 n = double.nearest (decide (n < 0)) n.natAbs 0 := rfl

/-- THE LAW OF secondsLeft's FLOATS. -/
theorem secs (d : Int) (h1 : -2251799813685248 ≤ d) (h2 : d ≤ 2251799813685248) :
    ∃ z t, floatBits .quo .f64 (floatOfInt .f64 (d.tmod 1000000000)) 4741671816366391296 = some z ∧ floatBits .add .f64 (floatOfInt .f64 (d.tdiv 1000000000)) z = some t ∧
      (∃ s m p, FloatKind.f64.decode t = .number s m p) ∧ floatToIntVal .f64 (FloatKind.f64.encode ((FloatKind.f64.decode t).integral .up)) .i64 = some (ceilSec d) := by
  have hdm : d = 1000000000 * d.tdiv 1000000000 + d.tmod 1000000000 := (Int.mul_tdiv_add_tmod d 1000000000).symm
  have hm1 : (d.tmod 1000000000).natAbs < 1000000000 := by
    rw [Int.natAbs_tmod]; exact Nat.mod_lt _ (by decide)
  have hsg : 0 ≤ d → 0 ≤ d.tmod 1000000000 ∧ 0 ≤ d.tdiv 1000000000 := fun h => ⟨Int.tmod_nonneg _ h, Int.tdiv_nonneg h (by decide)⟩
  have hsg' : d ≤ 0 → d.tmod 1000000000 ≤ 0 ∧ d.tdiv 1000000000 ≤ 0 := fun h => by
    have a := Int.tmod_nonneg (a := -d) 1000000000 (by omega)
    have b := Int.tdiv_nonneg (a := -d) (b := 1000000000) (by omega) (by decide)
    rw [Int.neg_tmod] at a
    rw [Int.neg_tdiv] at b
    omega
  unfold ceilSec
  generalize d.tdiv 1000000000 = s at *
  generalize d.tmod 1000000000 = n at *
  have hs : s.natAbs < 4194304 := by omega
  simp only [floatBits, ofInt_eq, FloatKind.format, FloatKind.decode, FloatKind.encode]
  by_cases hn : n = 0
  · -- no part of a second
    subst hn
    have hz : double.div (double.nearest (decide ((0 : Int) < 0)) (0 : Int).natAbs 0) 4741671816366391296 = some 0 := by decide
    by_cases h0 : s = 0
    · subst h0
      have ha : double.add (double.nearest (decide ((0 : Int) < 0)) (0 : Int).natAbs 0) 0 = some 0 := by decide
      exact ⟨0, 0, hz, ha, ⟨_, _, _, read_zero false⟩, by decide⟩
    · obtain ⟨t, tk, a1, a2, a3, a4, a5⟩ := add_none (decide (s < 0)) s.natAbs (by omega) hs
      refine ⟨0, t, hz, a1, ⟨_, _, _, a2⟩, ?_⟩
      rw [a2]
      simp only [Datum.integral]
      rw [show (-(tk : Int)).toNat = 0 by omega, show (- -(tk : Int)).toNat = tk by omega, Nat.shiftLeft_zero, cut_whole _ _ _ _ (by decide) (Or.inr ⟨a3, a4, a5⟩)]
      have ht := toInt_whole (decide (s < 0)) s.natAbs (by omega)
      simp only [floatToIntVal, FloatKind.decode, FloatKind.format, Format.write]
      rw [ht]
      have hx : (if decide (s < 0) = true then -(s.natAbs : Int) else (s.natAbs : Int)) = s := by
        by_cases hs0 : s < 0
        · rw [if_pos (by simpa using hs0)]; omega
        · rw [if_neg (by simpa using hs0)]; omega
      rw [hx]
      rw [if_neg (by decide)]
      exact if_pos ⟨Int.le_trans (by decide : IntKind.i64.min ≤ -4194304) (by omega), Int.le_trans (by omega) (by decide : (4194304 : Int) ≤ IntKind.i64.max)⟩
  · have hn' : n.natAbs ≠ 0 := by omega
    obtain ⟨z, zm, zk, q1, q2, q3, q4, q5, q6, q7⟩ := div_billion (decide (n < 0)) n.natAbs hn' hm1
    obtain ⟨t, tm, tk, r1, r2, r3, r4, r5, r6⟩ := add_part (decide (n < 0)) (decide (s < 0)) s.natAbs z zm zk hs (by
      by_cases h0 : s = 0
      · exact Or.inl (by omega)
      · right
        by_cases hd : 0 ≤ d
        · have := hsg hd
          rw [decide_eq_false (by omega), decide_eq_false (by omega)]
        · have := hsg' (by omega)
          rw [decide_eq_true (by omega), decide_eq_true (by omega)]) q2 q5 q6 q7
    refine ⟨z, t, q1, r1, ⟨_, _, _, r2⟩, ?_⟩
    rw [r2]
    simp only [Datum.integral]
    rw [show (-(tk : Int)).toNat = 0 by omega, show (- -(tk : Int)).toNat = tk by omega, Nat.shiftLeft_zero, cut_up _ _ _ _ r3 r4 r5 r6]
    have hb : (!decide (n < 0)).toNat ≤ 1 := Bool.toNat_le _
    have ht := toInt_whole (decide (n < 0)) (s.natAbs + (!decide (n < 0)).toNat) (by omega)
    simp only [floatToIntVal, FloatKind.decode, FloatKind.format, Format.write]
    rw [ht]
    have hx : (if decide (n < 0) = true then -((s.natAbs + (!decide (n < 0)).toNat : Nat) : Int) else ((s.natAbs + (!decide (n < 0)).toNat : Nat) : Int)) = if 0 < n then s + 1 else s := by
      by_cases hn0 : n < 0
      · have hd : ¬ 0 ≤ d := fun h => by have := hsg h; omega
        have := hsg' (by omega)
        simp only [hn0, decide_true, if_true, Bool.not_true, Bool.toNat_false]
        rw [if_neg (by omega)]
        omega
      · have hd : ¬ d ≤ 0 := fun h => by have := hsg' h; omega
        have := hsg (by omega)
        simp only [hn0, decide_false, Bool.false_eq_true, if_false, Bool.not_false, Bool.toNat_true]
        rw [if_pos (by omega)]
        omega
    rw [hx]
    exact if_pos ⟨Int.le_trans (by decide : IntKind.i64.min ≤ -4194304) (by split <;> omega), Int.le_trans (by split <;> omega) (by decide : (4194305 : Int) ≤ IntKind.i64.max)⟩

end Go.Proofs.YbulkeeoiDoor.Fl
