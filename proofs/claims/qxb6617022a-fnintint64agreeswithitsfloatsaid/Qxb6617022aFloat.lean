/-
  Plain laws on the words of a double: its value in units of 2^-1074, the order by value, the nearest word of a whole number.
-/
import Derived.Laws.FloatArith
namespace Go.Proofs.Qxb6617022a.floats
open Ieee

theorem sw : double.signWeight = 9223372036854775808 := by decide
theorem bin : double.binade = 4503599627370496 := by decide
theorem inf : double.infRung = 9218868437227405312 := by decide
theorem lst : double.leastPlace = -1074 := by decide

/-- The exponent, behind a name. -/
def ex : Nat := 1074
/-- One, in units of 2^-1074. -/
def K : Nat := 2 ^ ex
theorem K_pos : 0 < K := Nat.two_pow_pos ex

/-- The magnitude, in units of 2^-1074, of a number 'm * 2^e'. -/
def mag (m : Nat) (e : Int) : Nat := m * 2 ^ (e + 1074).toNat

/-- The value, in the same units. -/
def sv (s : Bool) (a : Nat) : Int := if s then -(a : Int) else a

/-! ### reading a word -/

theorem read_word (s : Bool) (r : Nat) (h : r < 9223372036854775808) :
    double.read (double.word s r) = (if r < 4503599627370496 then .number s r (-1074)
      else if r < 9218868437227405312 then .number s (4503599627370496 + r % 4503599627370496) (-1074 + (r / 4503599627370496 - 1 : Nat))
      else if r = 9218868437227405312 then .infinity s else .nan s (r - 9218868437227405312)) := by
  unfold Format.read Format.word
  rw [sw, bin, inf, lst]
  cases s
  · have h1 : r / 9223372036854775808 % 2 = 0 := by omega
    have h2 : r % 9223372036854775808 = r := by omega
    simp [h1, h2]
  · have h1 : (9223372036854775808 + r) / 9223372036854775808 % 2 = 1 := by omega
    have h2 : (9223372036854775808 + r) % 9223372036854775808 = r := by omega
    simp only [if_true, h1, h2]
    rfl

theorem read_num {x : Nat} {s : Bool} {m : Nat} {e : Int} (h : double.read x = .number s m e) : m < 9007199254740992 ∧ -1074 ≤ e := by
  unfold Format.read at h
  rw [sw, bin, inf, lst] at h
  simp only at h
  split at h
  · simp only [Datum.number.injEq] at h
    omega
  · split at h
    · simp only [Datum.number.injEq] at h
      omega
    · split at h <;> simp at h

/-! ### the order -/

theorem shift (m a : Nat) : m <<< a = m * 2 ^ a := Nat.shiftLeft_eq m a

theorem signed_eq (s : Bool) (m a : Nat) : signed s m a = sv s (m * 2 ^ a) := by
  unfold signed sv
  rw [shift]

theorem sv_mul (s : Bool) (a c : Nat) : sv s (a * c) = sv s a * (c : Int) := by
  unfold sv
  cases s <;> simp [Int.neg_mul]

theorem mag_split (m : Nat) (e b : Int) (hb : -1074 ≤ b) (he : b ≤ e) : mag m e = m * 2 ^ (e - b).toNat * 2 ^ (b + 1074).toNat := by
  unfold mag
  rw [Nat.mul_assoc, ← Nat.pow_add]
  congr 2
  omega

theorem cmp_def (x y : Int) : compare x y = if x < y then .lt else if x = y then .eq else .gt := rfl

theorem order_num {s t : Bool} {m n : Nat} {i j : Int} (hi : -1074 ≤ i) (hj : -1074 ≤ j) :
    Datum.order (.number s m i) (.number t n j) = some (compare (sv s (mag m i)) (sv t (mag n j))) := by
  have hb : -1074 ≤ min i j := by omega
  rw [mag_split m i (min i j) hb (by omega), mag_split n j (min i j) hb (by omega), sv_mul s (m * 2 ^ (i - min i j).toNat), sv_mul t (n * 2 ^ (j - min i j).toNat)]
  unfold Datum.order
  simp only [signed_eq]
  have hc : (0 : Int) < ((2 ^ (min i j + 1074).toNat : Nat) : Int) := Int.natCast_pos.mpr (Nat.two_pow_pos _)
  generalize ((2 ^ (min i j + 1074).toNat : Nat) : Int) = c at hc
  generalize sv s (m * 2 ^ (i - min i j).toNat) = x
  generalize sv t (n * 2 ^ (j - min i j).toNat) = y
  rw [cmp_def, cmp_def]
  have h1 : x * c < y * c ↔ x < y := Int.mul_lt_mul_right hc
  have h2 : x * c = y * c ↔ x = y := by
    constructor
    · exact Int.eq_of_mul_eq_mul_right (by omega)
    · rintro rfl; rfl
  simp only [h1, h2]

theorem cmp_eq (x y : Int) : ((some (compare x y)) == some Ordering.eq) = decide (x = y) := by
  simp only [cmp_def]
  by_cases h : x < y
  · rw [if_pos h, decide_eq_false (by omega)]; rfl
  · rw [if_neg h]
    by_cases e : x = y
    · rw [if_pos e, decide_eq_true e]; rfl
    · rw [if_neg e, decide_eq_false e]; rfl

theorem cmp_lt (x y : Int) : ((some (compare x y)) == some Ordering.lt) = decide (x < y) := by
  simp only [cmp_def]
  by_cases h : x < y
  · rw [if_pos h, decide_eq_true h]; rfl
  · rw [if_neg h, decide_eq_false h]
    by_cases e : x = y
    · rw [if_pos e]; rfl
    · rw [if_neg e]; rfl

theorem cmp_gt (x y : Int) : ((some (compare x y)) == some Ordering.gt) = decide (y < x) := by
  simp only [cmp_def]
  by_cases h : x < y
  · rw [if_pos h, decide_eq_false (by omega)]; rfl
  · rw [if_neg h]
    by_cases e : x = y
    · rw [if_pos e, decide_eq_false (by omega)]; rfl
    · rw [if_neg e, decide_eq_true (by omega)]; rfl

/-! ### whole numbers: cut, and the nearest word -/

theorem cut_zero (s : Bool) (n d : Nat) : Toward.zero.cut s n d = n / 2 ^ d := by
  unfold Toward.cut
  simp only [Nat.one_shiftLeft, Bool.toNat_false, Nat.add_zero]
  by_cases h : d ≤ n.log2 + 2
  · rw [Nat.min_eq_left h]
  · rw [Nat.min_eq_right (by omega)]
    have h1 : n < 2 ^ (n.log2 + 1) := Nat.lt_log2_self
    have h2 : 2 ^ (n.log2 + 1) ≤ 2 ^ (n.log2 + 2) := Nat.pow_le_pow_right (by decide) (by omega)
    have h3 : 2 ^ (n.log2 + 2) ≤ 2 ^ d := Nat.pow_le_pow_right (by decide) (by omega)
    rw [Nat.div_eq_of_lt (by omega), Nat.div_eq_of_lt (by omega)]

/-- N / 2^q to the nearest, ties to even. -/
def half (N q : Nat) : Nat := N / 2 ^ q + (decide (2 ^ q < 2 * (N % 2 ^ q)) || (2 ^ q == 2 * (N % 2 ^ q) && N / 2 ^ q % 2 == 1)).toNat

theorem cut_even (s : Bool) (N q : Nat) (h : q ≤ N.log2 + 2) : Toward.even.cut s N q = half N q := by
  unfold Toward.cut half
  simp only [Nat.one_shiftLeft]
  rw [Nat.min_eq_left h]

/-- A whole number as a double has it. -/
def rnd (N : Nat) : Nat := if N.log2 ≤ 52 then N else half N (N.log2 - 52) * 2 ^ (N.log2 - 52)

theorem half_bounds (N q : Nat) : N / 2 ^ q ≤ half N q ∧ half N q ≤ N / 2 ^ q + 1 := by
  unfold half
  generalize (decide (2 ^ q < 2 * (N % 2 ^ q)) || (2 ^ q == 2 * (N % 2 ^ q) && N / 2 ^ q % 2 == 1)) = b
  cases b <;> simp

theorem low_bounds (N : Nat) (h0 : 0 < N) (h : 52 ≤ N.log2) : 4503599627370496 ≤ N / 2 ^ (N.log2 - 52) ∧ N / 2 ^ (N.log2 - 52) < 9007199254740992 := by
  have h1 : 2 ^ N.log2 ≤ N := Nat.log2_self_le (by omega)
  have h2 : N < 2 ^ (N.log2 + 1) := Nat.lt_log2_self
  have e1 : 2 ^ N.log2 = 4503599627370496 * 2 ^ (N.log2 - 52) := by
    rw [show (4503599627370496 : Nat) = 2 ^ 52 from rfl, ← Nat.pow_add]
    congr 1; omega
  have e2 : 2 ^ (N.log2 + 1) = 9007199254740992 * 2 ^ (N.log2 - 52) := by
    rw [show (9007199254740992 : Nat) = 2 ^ 53 from rfl, ← Nat.pow_add]
    congr 1; omega
  have hp : 0 < 2 ^ (N.log2 - 52) := Nat.two_pow_pos _
  constructor
  · rw [Nat.le_div_iff_mul_le hp, ← e1]; exact h1
  · rw [Nat.div_lt_iff_lt_mul hp, ← e2]; exact h2

theorem nearest_zero (s : Bool) : double.read (double.nearest s 0 0) = .number s 0 (-1074) := by
  unfold Format.nearest
  rw [if_pos rfl, read_word s 0 (by decide)]
  rfl

theorem nearest_eq (s : Bool) (N : Nat) (h0 : 0 < N) (kept : Nat) (hk : Toward.even.cut s (N <<< (0 - ((N.log2 : Int) - 52)).toNat) ((N.log2 : Int) - 52 - 0).toNat = kept) (hk2 : kept ≤ 9007199254740992) (hl : N.log2 ≤ 63) :
    double.nearest s N 0 = double.word s ((N.log2 + 1022) * 4503599627370496 + kept) := by
  have hlast : max (0 + (N.log2 : Int) - (double.fractionBits : Nat)) double.leastPlace = (N.log2 : Int) - 52 := by
    rw [lst]
    show max (0 + (N.log2 : Int) - ((52 : Nat) : Int)) (-1074) = _
    omega
  unfold Format.nearest
  rw [if_neg (by omega)]
  simp only [hlast, hk]
  rw [lst, bin, inf]
  congr 1
  have e : ((N.log2 : Int) - 52 - -1074).toNat = N.log2 + 1022 := by omega
  rw [e]
  omega

theorem word_kept (s : Bool) (L kept : Nat) (hL : L ≤ 63) (h1 : 4503599627370496 ≤ kept) (h2 : kept ≤ 9007199254740992) :
    ∃ m e, double.read (double.word s ((L + 1022) * 4503599627370496 + kept)) = .number s m e ∧ -1074 ≤ e ∧ mag m e = kept * 2 ^ (L + 1022) := by
  rw [read_word s _ (by omega), if_neg (by omega), if_pos (by omega)]
  by_cases h : kept < 9007199254740992
  · have e1 : ((L + 1022) * 4503599627370496 + kept) / 4503599627370496 - 1 = L + 1022 := by omega
    have e2 : 4503599627370496 + ((L + 1022) * 4503599627370496 + kept) % 4503599627370496 = kept := by omega
    rw [e1, e2]
    refine ⟨_, _, rfl, by omega, ?_⟩
    unfold mag
    have e3 : (-1074 + ((L + 1022 : Nat) : Int) + 1074).toNat = L + 1022 := by omega
    rw [e3]
  · have e0 : kept = 9007199254740992 := by omega
    subst e0
    have e1 : ((L + 1022) * 4503599627370496 + 9007199254740992) / 4503599627370496 - 1 = L + 1022 + 1 := by omega
    have e2 : 4503599627370496 + ((L + 1022) * 4503599627370496 + 9007199254740992) % 4503599627370496 = 4503599627370496 := by omega
    rw [e1, e2]
    refine ⟨_, _, rfl, by omega, ?_⟩
    unfold mag
    have e3 : (-1074 + ((L + 1022 + 1 : Nat) : Int) + 1074).toNat = L + 1022 + 1 := by omega
    rw [e3, Nat.pow_succ]
    generalize 2 ^ (L + 1022) = z
    omega

theorem pow_K (a b : Nat) (h : a + b = 1074) : 2 ^ a * 2 ^ b = K := by
  have e : a + b = ex := h
  unfold K
  rw [← Nat.pow_add, e]

theorem pow_K2 (a b : Nat) (h : b = a + 1074) : 2 ^ b = 2 ^ a * K := by
  have e : b = a + ex := h
  unfold K
  rw [e]
  exact Nat.pow_add 2 a ex

/-- THE NEAREST WORD OF A WHOLE NUMBER reads as a number of the same sign whose magnitude is 'rnd N'. -/
theorem read_nearest (s : Bool) (N : Nat) (hl : N.log2 ≤ 63) : ∃ m e, double.read (double.nearest s N 0) = .number s m e ∧ -1074 ≤ e ∧ mag m e = rnd N * K := by
  by_cases h0 : N = 0
  · subst h0
    exact ⟨0, -1074, nearest_zero s, by omega, by simp [mag, rnd]⟩
  have hN : 0 < N := by omega
  by_cases h : N.log2 ≤ 52
  · have ek : Toward.even.cut s (N <<< (0 - ((N.log2 : Int) - 52)).toNat) ((N.log2 : Int) - 52 - 0).toNat = N * 2 ^ (52 - N.log2) := by
      have e1 : (0 - ((N.log2 : Int) - 52)).toNat = 52 - N.log2 := by omega
      have e2 : ((N.log2 : Int) - 52 - 0).toNat = 0 := by omega
      rw [e1, e2, cut_even _ _ _ (by omega), shift]
      unfold half
      simp [Nat.mod_one]
    have b1 : 4503599627370496 ≤ N * 2 ^ (52 - N.log2) := by
      have h1 : 2 ^ N.log2 ≤ N := Nat.log2_self_le (by omega)
      have := Nat.mul_le_mul_right (2 ^ (52 - N.log2)) h1
      rw [← Nat.pow_add, show N.log2 + (52 - N.log2) = 52 by omega] at this
      exact this
    have b2 : N * 2 ^ (52 - N.log2) < 9007199254740992 := by
      have h1 : N < 2 ^ (N.log2 + 1) := Nat.lt_log2_self
      have := Nat.mul_lt_mul_of_pos_right h1 (Nat.two_pow_pos (52 - N.log2))
      rw [← Nat.pow_add, show N.log2 + 1 + (52 - N.log2) = 53 by omega] at this
      exact this
    rw [nearest_eq s N hN _ ek (by omega) hl]
    obtain ⟨m, e, hr, he, hm⟩ := word_kept s N.log2 _ hl b1 (by omega)
    refine ⟨m, e, hr, he, ?_⟩
    rw [hm, rnd, if_pos h, Nat.mul_assoc, pow_K _ _ (by omega)]
  · have ek : Toward.even.cut s (N <<< (0 - ((N.log2 : Int) - 52)).toNat) ((N.log2 : Int) - 52 - 0).toNat = half N (N.log2 - 52) := by
      have e1 : (0 - ((N.log2 : Int) - 52)).toNat = 0 := by omega
      have e2 : ((N.log2 : Int) - 52 - 0).toNat = N.log2 - 52 := by omega
      rw [e1, e2, Nat.shiftLeft_zero, cut_even _ _ _ (by omega)]
    have hb := half_bounds N (N.log2 - 52)
    have hw := low_bounds N hN (by omega)
    rw [nearest_eq s N hN _ ek (by omega) hl]
    obtain ⟨m, e, hr, he, hm⟩ := word_kept s N.log2 (half N (N.log2 - 52)) hl (by omega) (by omega)
    refine ⟨m, e, hr, he, ?_⟩
    rw [hm, rnd, if_neg h, Nat.mul_assoc, pow_K2 (N.log2 - 52) (N.log2 + 1022) (by omega)]

/-! ### 'rnd' -/

theorem rnd_small (N : Nat) (h : N < 9007199254740992) : rnd N = N := by
  unfold rnd
  by_cases h0 : N = 0
  · subst h0; simp
  · have h1 : 2 ^ N.log2 ≤ N := Nat.log2_self_le h0
    have h2 : N.log2 ≤ 52 := by
      rw [← Nat.not_lt]
      intro hlt
      have : 2 ^ 53 ≤ 2 ^ N.log2 := Nat.pow_le_pow_right (by decide) hlt
      have e : (2 : Nat) ^ 53 = 9007199254740992 := rfl
      omega
    rw [if_pos h2]

theorem half_exact (N q : Nat) (h : 2 ^ q ∣ N) : half N q * 2 ^ q = N := by
  have hm : N % 2 ^ q = 0 := Nat.mod_eq_zero_of_dvd h
  have hp : 0 < 2 ^ q := Nat.two_pow_pos _
  unfold half
  rw [hm]
  have e1 : decide (2 ^ q < 2 * 0) = false := by simp
  have e2 : (2 ^ q == 2 * 0) = false := by simp
  rw [e1, e2]
  simp [Nat.div_mul_cancel h]

theorem rnd_exact (N : Nat) (h : 2 ^ (N.log2 - 52) ∣ N) : rnd N = N := by
  unfold rnd
  split
  · rfl
  · exact half_exact _ _ h

/-- What a double can bear is not rounded. -/
theorem rnd_shift (m k : Nat) (h : m < 9007199254740992) : rnd (m * 2 ^ k) = m * 2 ^ k := by
  by_cases h0 : m = 0
  · subst h0; simp [rnd]
  apply rnd_exact
  have hl : (m * 2 ^ k).log2 - 52 ≤ k := by
    have hne : m * 2 ^ k ≠ 0 := Nat.mul_ne_zero h0 (Nat.ne_of_gt (Nat.two_pow_pos _))
    have h1 : 2 ^ (m * 2 ^ k).log2 ≤ m * 2 ^ k := Nat.log2_self_le hne
    have h2 : m * 2 ^ k < 2 ^ 53 * 2 ^ k := Nat.mul_lt_mul_of_pos_right h (Nat.two_pow_pos _)
    rw [← Nat.pow_add] at h2
    have h3 : (m * 2 ^ k).log2 < 53 + k := (Nat.pow_lt_pow_iff_right (by decide)).1 (Nat.lt_of_le_of_lt h1 h2)
    omega
  exact Nat.dvd_trans (Nat.pow_dvd_pow 2 hl) (Nat.dvd_mul_left _ _)

/-- No further off than half a unit in the last place. -/
theorem half_near (N q : Nat) : 2 * (half N q * 2 ^ q) ≤ 2 * N + 2 ^ q ∧ 2 * N ≤ 2 * (half N q * 2 ^ q) + 2 ^ q := by
  have hd := Nat.div_add_mod N (2 ^ q)
  have hlt : N % 2 ^ q < 2 ^ q := Nat.mod_lt _ (Nat.two_pow_pos _)
  unfold half
  generalize 2 ^ q = z at *
  generalize N / z = lo at *
  generalize N % z = re at *
  by_cases c1 : z < 2 * re
  · have e : (decide (z < 2 * re) || (z == 2 * re && lo % 2 == 1)) = true := by simp [c1]
    rw [e, Bool.toNat_true, Nat.add_mul, Nat.mul_comm lo z]
    omega
  · by_cases c2 : z = 2 * re ∧ lo % 2 = 1
    · have e : (decide (z < 2 * re) || (z == 2 * re && lo % 2 == 1)) = true := by simp [c2.1.symm, c2.2]
      rw [e, Bool.toNat_true, Nat.add_mul, Nat.mul_comm lo z]
      omega
    · have e : (decide (z < 2 * re) || (z == 2 * re && lo % 2 == 1)) = false := by
        simp only [Bool.or_eq_false_iff, Bool.and_eq_false_imp, decide_eq_false_iff_not, beq_iff_eq, beq_eq_false_iff_ne]
        exact ⟨c1, fun h h' => c2 ⟨h, h'⟩⟩
      rw [e, Bool.toNat_false, Nat.add_zero, Nat.mul_comm lo z]
      omega

theorem rnd_near (N : Nat) (h : N.log2 ≤ 62) : rnd N ≤ N + 512 ∧ N ≤ rnd N + 512 := by
  unfold rnd
  split
  · omega
  · have hn := half_near N (N.log2 - 52)
    have hp : 2 ^ (N.log2 - 52) ≤ 2 ^ 10 := Nat.pow_le_pow_right (by decide) (by omega)
    have e : (2 : Nat) ^ 10 = 1024 := rfl
    generalize half N (N.log2 - 52) * 2 ^ (N.log2 - 52) = a at *
    generalize 2 ^ (N.log2 - 52) = z at *
    omega
end Go.Proofs.Qxb6617022a.floats
