/-
  Which doubles are whole numbers below 2^63, and what the model's operations give on them.
-/
import Derived.Test.Qxb6617022aFloat
namespace Go.Proofs.Qxb6617022a.floats
open Ieee

theorem trunc_mag (m : Nat) (e : Int) (he : -1074 ≤ e) : (m * 2 ^ e.toNat) / 2 ^ (-e).toNat = mag m e / K := by
  unfold mag
  by_cases h : 0 ≤ e
  · have e1 : (-e).toNat = 0 := by omega
    rw [e1, Nat.pow_zero, Nat.div_one, pow_K2 e.toNat (e + 1074).toNat (by omega), ← Nat.mul_assoc, Nat.mul_div_cancel _ K_pos]
  · have e1 : e.toNat = 0 := by omega
    rw [e1, Nat.pow_zero, Nat.mul_one, ← pow_K (-e).toNat (e + 1074).toNat (by omega), Nat.mul_div_mul_right _ _ (Nat.two_pow_pos _)]

theorem integral_num (s : Bool) (m : Nat) (e : Int) (he : -1074 ≤ e) : Datum.integral .zero (.number s m e) = .number s (mag m e / K) 0 := by
  show Datum.number s (Toward.zero.cut s (m <<< e.toNat) (-e).toNat) 0 = _
  rw [cut_zero, shift, trunc_mag m e he]

theorem toInt_num (s : Bool) (m : Nat) (e : Int) (he : -1074 ≤ e) : Datum.toInt .zero (.number s m e) = some (sv s (mag m e / K)) := by
  unfold Datum.toInt
  rw [integral_num s m e he]
  simp only [signed_eq, Nat.pow_zero, Nat.mul_one]

/-- The whole part of what a double can bear is not rounded. -/
theorem rnd_whole (m : Nat) (e : Int) (hm : m < 9007199254740992) (he : -1074 ≤ e) : rnd (mag m e / K) = mag m e / K := by
  rw [← trunc_mag m e he]
  by_cases h : 0 ≤ e
  · have e1 : (-e).toNat = 0 := by omega
    rw [e1, Nat.pow_zero, Nat.div_one]
    exact rnd_shift m e.toNat hm
  · have e1 : e.toNat = 0 := by omega
    rw [e1, Nat.pow_zero, Nat.mul_one]
    exact rnd_small _ (Nat.lt_of_le_of_lt (Nat.div_le_self _ _) hm)

theorem log2_63 (N : Nat) (h : N ≤ 9223372036854775808) : N.log2 ≤ 63 := by
  by_cases h0 : N = 0
  · subst h0; simp
  · have h1 : 2 ^ N.log2 ≤ N := Nat.log2_self_le h0
    rw [← Nat.not_lt]
    intro hlt
    have h2 : 2 ^ 64 ≤ 2 ^ N.log2 := Nat.pow_le_pow_right (by decide) hlt
    have e : (2 : Nat) ^ 64 = 18446744073709551616 := rfl
    omega

theorem log2_62 (N : Nat) (h : N < 9223372036854775808) : N.log2 ≤ 62 := by
  by_cases h0 : N = 0
  · subst h0; simp
  · have h1 : 2 ^ N.log2 ≤ N := Nat.log2_self_le h0
    rw [← Nat.not_lt]
    intro hlt
    have h2 : 2 ^ 63 ≤ 2 ^ N.log2 := Nat.pow_le_pow_right (by decide) hlt
    have e : (2 : Nat) ^ 63 = 9223372036854775808 := rfl
    omega

/-! ### the two bounds -/

theorem read_lo : double.read 14114281232179134464 = .number true 4503599627370496 11 := by decide
theorem read_hi : double.read 4890909195324358656 = .number false 4503599627370496 11 := by decide

theorem mag_bound : mag 4503599627370496 11 = 9223372036854775808 * K := by
  unfold mag
  have e : ((11 : Int) + 1074).toNat = 11 + 1074 := by decide
  rw [e, pow_K2 11 (11 + 1074) rfl, ← Nat.mul_assoc]

/-- x lies strictly between -2^63 and 2^63, as the text asks it. -/
def inR (x : Nat) : Bool := (double.order x 14114281232179134464 == some .gt) && (double.order x 4890909195324358656 == some .lt)

theorem inR_num {x : Nat} {s : Bool} {m : Nat} {e : Int} (h : double.read x = .number s m e) : inR x = decide (mag m e / K < 9223372036854775808) := by
  have he := (read_num h).2
  unfold inR Format.order
  rw [h, read_lo, read_hi, order_num he (by decide), order_num he (by decide), cmp_gt, cmp_lt, mag_bound, Bool.eq_iff_iff]
  simp only [Bool.and_eq_true, decide_eq_true_eq]
  rw [Nat.div_lt_iff_lt_mul K_pos]
  generalize 9223372036854775808 * K = b
  generalize mag m e = a
  unfold sv
  cases s <;> simp <;> omega

theorem inR_inf {x : Nat} {s : Bool} (h : double.read x = .infinity s) : inR x = false := by
  unfold inR Format.order
  rw [h, read_lo, read_hi]
  cases s <;> decide

theorem inR_nan {x : Nat} {s : Bool} {t : Nat} (h : double.read x = .nan s t) : inR x = false := by
  unfold inR Format.order
  rw [h, read_lo, read_hi]
  rfl

/-! ### whole numbers below 2^63 -/

/-- x is the whole number 'T' (negated if s), below 2^63. -/
def Whole (x : Nat) (s : Bool) (T : Nat) : Prop := ∃ m e, double.read x = .number s m e ∧ mag m e = T * K ∧ T < 9223372036854775808

theorem whole_read {x : Nat} {s : Bool} {T : Nat} (h : Whole x s T) : ∃ m e, double.read x = .number s m e ∧ -1074 ≤ e ∧ mag m e = T * K ∧ mag m e / K = T ∧ rnd T = T ∧ T < 9223372036854775808 := by
  obtain ⟨m, e, hr, hm, hT⟩ := h
  obtain ⟨hm53, he⟩ := read_num hr
  have hd : mag m e / K = T := by rw [hm, Nat.mul_div_cancel _ K_pos]
  have hw := rnd_whole m e hm53 he
  rw [hd] at hw
  exact ⟨m, e, hr, he, hm, hd, hw, hT⟩

/-- The word that math.Trunc gives on a number. -/
def truncW (x : Nat) : Nat := FloatKind.f64.encode ((FloatKind.f64.decode x).integral .zero)

theorem truncW_num {x : Nat} {s : Bool} {m : Nat} {e : Int} (h : double.read x = .number s m e) : truncW x = double.nearest s (mag m e / K) 0 := by
  have he := (read_num h).2
  show double.write ((double.read x).integral .zero) = _
  rw [h, integral_num s m e he]
  rfl

theorem sv_inj (s : Bool) (a b : Nat) : sv s a = sv s b ↔ a = b := by
  unfold sv
  cases s <;> simp <;> omega

theorem eq_trunc_num {x : Nat} {s : Bool} {m : Nat} {e : Int} (h : double.read x = .number s m e) (hT : mag m e / K < 9223372036854775808) :
    (double.order x (truncW x) == some .eq) = decide (mag m e = mag m e / K * K) := by
  obtain ⟨hm53, he⟩ := read_num h
  obtain ⟨m', e', hr, he', hm'⟩ := read_nearest s (mag m e / K) (log2_63 _ (by omega))
  rw [truncW_num h]
  unfold Format.order
  rw [h, hr, order_num he he', cmp_eq, hm', rnd_whole m e hm53 he]
  exact decide_eq_decide.2 (sv_inj s _ _)

/-- The word of a whole number. -/
theorem read_ofInt (n : Int) (h : n.natAbs ≤ 9223372036854775808) : ∃ m e, double.read (floatOfInt .f64 n) = .number (decide (n < 0)) m e ∧ -1074 ≤ e ∧ mag m e = rnd n.natAbs * K :=
  read_nearest (decide (n < 0)) n.natAbs (log2_63 _ h)

theorem sv_natAbs (n : Int) : sv (decide (n < 0)) n.natAbs = n := by
  unfold sv
  by_cases h : n < 0
  · rw [decide_eq_true h]; simp; omega
  · rw [decide_eq_false h]; simp; omega

theorem natAbs_sv (s : Bool) (T : Nat) : (sv s T).natAbs = T := by
  unfold sv
  cases s <;> simp

theorem sv_sv (s : Bool) (T c : Nat) : sv (decide (sv s T < 0)) (T * c) = sv s (T * c) := by
  have h := sv_natAbs (sv s T)
  rw [natAbs_sv] at h
  rw [sv_mul, sv_mul, h]

/-- float64(int64(x)) == x -/
theorem back_num {x : Nat} {s : Bool} {m : Nat} {e : Int} (h : double.read x = .number s m e) (hT : mag m e / K < 9223372036854775808) :
    (double.order (floatOfInt .f64 (sv s (mag m e / K))) x == some .eq) = decide (mag m e = mag m e / K * K) := by
  obtain ⟨hm53, he⟩ := read_num h
  obtain ⟨m', e', hr, he', hm'⟩ := read_ofInt (sv s (mag m e / K)) (by rw [natAbs_sv]; omega)
  rw [natAbs_sv, rnd_whole m e hm53 he] at hm'
  unfold Format.order
  rw [h, hr, order_num he' he, cmp_eq, hm', sv_sv]
  refine decide_eq_decide.2 ((sv_inj s _ _).trans ⟨Eq.symm, Eq.symm⟩)

theorem toI64_num {x : Nat} {s : Bool} {m : Nat} {e : Int} (h : double.read x = .number s m e) (hT : mag m e / K < 9223372036854775808) :
    floatToIntVal .f64 x .i64 = some (sv s (mag m e / K)) := by
  have he := (read_num h).2
  unfold floatToIntVal
  show (match (double.read x).toInt .zero with | some n => if IntKind.i64.min ≤ n ∧ n ≤ IntKind.i64.max then some n else none | none => none) = _
  rw [h, toInt_num s m e he]
  have hmin : IntKind.i64.min = -9223372036854775808 := by decide
  have hmax : IntKind.i64.max = 9223372036854775807 := by decide
  simp only [hmin, hmax]
  rw [if_pos]
  generalize mag m e / K = T at hT
  unfold sv
  cases s <;> simp <;> omega

/-! ### what the text asks of a whole x -/

theorem whole_trunc {x : Nat} {s : Bool} {T : Nat} (h : Whole x s T) : (double.order x (truncW x) == some .eq) = true := by
  obtain ⟨m, e, hr, he, hm, hd, _, hT⟩ := whole_read h
  rw [eq_trunc_num hr (by omega), hd]
  exact decide_eq_true hm

theorem whole_inR {x : Nat} {s : Bool} {T : Nat} (h : Whole x s T) : inR x = true := by
  obtain ⟨m, e, hr, he, hm, hd, _, hT⟩ := whole_read h
  rw [inR_num hr, hd]
  exact decide_eq_true hT

theorem whole_toI64 {x : Nat} {s : Bool} {T : Nat} (h : Whole x s T) : floatToIntVal .f64 x .i64 = some (sv s T) := by
  obtain ⟨m, e, hr, he, hm, hd, _, hT⟩ := whole_read h
  rw [toI64_num hr (by omega), hd]

theorem whole_back {x : Nat} {s : Bool} {T : Nat} (h : Whole x s T) : (double.order (floatOfInt .f64 (sv s T)) x == some .eq) = true := by
  obtain ⟨m, e, hr, he, hm, hd, _, hT⟩ := whole_read h
  have := back_num hr (by omega)
  rw [hd] at this
  rw [this]
  exact decide_eq_true hm

/-- The word of a whole number that needs no rounding is that whole number. -/
theorem ofInt_whole (n : Int) (h : rnd n.natAbs < 9223372036854775808) (hn : n.natAbs ≤ 9223372036854775808) : Whole (floatOfInt .f64 n) (decide (n < 0)) (rnd n.natAbs) := by
  obtain ⟨m, e, hr, he, hm⟩ := read_ofInt n hn
  exact ⟨m, e, hr, hm, h⟩

theorem whole_again {x : Nat} {s : Bool} {T : Nat} (h : Whole x s T) : floatToIntVal .f64 (floatOfInt .f64 (sv s T)) .i64 = some (sv s T) := by
  obtain ⟨m, e, hr, he, hm, hd, hrn, hT⟩ := whole_read h
  have hw := ofInt_whole (sv s T) (by rw [natAbs_sv, hrn]; exact hT) (by rw [natAbs_sv]; omega)
  rw [whole_toI64 hw, natAbs_sv, hrn]
  congr 1
  have := sv_natAbs (sv s T)
  rw [natAbs_sv] at this
  exact this

/-- What the text asks of an x that is none: one of the three says no. -/
theorem not_whole {x : Nat} (h : ∀ s T, ¬ Whole x s T) (hin : inR x = true) : ∃ s m e, double.read x = .number s m e ∧ mag m e / K < 9223372036854775808 ∧ decide (mag m e = mag m e / K * K) = false := by
  cases hr : double.read x with
  | number s m e =>
    have hT : mag m e / K < 9223372036854775808 := by
      have := inR_num hr
      rw [hin] at this
      exact of_decide_eq_true this.symm
    refine ⟨s, m, e, rfl, hT, decide_eq_false fun he => ?_⟩
    exact h s (mag m e / K) ⟨m, e, hr, he, hT⟩
  | infinity s => rw [inR_inf hr] at hin; cases hin
  | nan s t => rw [inR_nan hr] at hin; cases hin

/-! ### the opposite -/

theorem read_neg (x : Nat) (hx : x < 18446744073709551616) : double.read (Op.negFloat .f64 x) = (double.read x).opposite := by
  have e0 : Op.negFloat .f64 x = x ^^^ 2 ^ 63 := rfl
  have hdiv : (x ^^^ 2 ^ 63) / 2 ^ 63 = (x / 2 ^ 63) ^^^ 1 := by
    rw [Nat.xor_div_two_pow]
  have hmod : (x ^^^ 2 ^ 63) % 2 ^ 63 = x % 2 ^ 63 := by
    rw [Nat.xor_mod_two_pow]
    simp
  have e63 : (2 : Nat) ^ 63 = 9223372036854775808 := rfl
  rw [e63] at hdiv hmod e0
  rw [e0]
  unfold Format.read
  rw [sw, hmod]
  have hb : ((x ^^^ 9223372036854775808) / 9223372036854775808 % 2 == 1) = !(x / 9223372036854775808 % 2 == 1) := by
    rw [hdiv]
    have hq : x / 9223372036854775808 = 0 ∨ x / 9223372036854775808 = 1 := by omega
    rcases hq with hq | hq <;> rw [hq] <;> rfl
  simp only [hb]
  split
  · rfl
  · split
    · rfl
    · split <;> rfl

theorem whole_neg {x : Nat} {s : Bool} {T : Nat} (hx : x < 18446744073709551616) (h : Whole x s T) : Whole (Op.negFloat .f64 x) (!s) T := by
  obtain ⟨m, e, hr, hm, hT⟩ := h
  refine ⟨m, e, ?_, hm, hT⟩
  rw [read_neg x hx, hr]
  rfl

theorem neg_whole {x : Nat} {s : Bool} {T : Nat} (hx : x < 18446744073709551616) (h : Whole (Op.negFloat .f64 x) s T) : Whole x (!s) T := by
  obtain ⟨m, e, hr, hm, hT⟩ := h
  refine ⟨m, e, ?_, hm, hT⟩
  rw [read_neg x hx] at hr
  cases hd : double.read x with
  | number s' m' e' =>
    rw [hd] at hr
    simp only [Datum.opposite, Datum.number.injEq] at hr
    obtain ⟨rfl, rfl, rfl⟩ := hr
    simp
  | infinity s' => rw [hd] at hr; simp [Datum.opposite] at hr
  | nan s' t' => rw [hd] at hr; simp [Datum.opposite] at hr

theorem sv_not (s : Bool) (T : Nat) : sv (!s) T = - sv s T := by
  unfold sv
  cases s <;> simp
end Go.Proofs.Qxb6617022a.floats
