/-
  FnIntInt64AgreesWithItsFloat: the walk.
-/
import Derived.Test.Qxb6617022aIntWalk
namespace Go.Proofs.Qxb6617022a.floats
open Go.ChangeShapes Go.WideShapes Go.ChangeAt Go.RowKit

theorem sv_within (s : Bool) (T : Nat) (h : T < 9223372036854775808) : -9223372036854775807 ≤ sv s T ∧ sv s T ≤ 9223372036854775807 := by
  unfold sv
  cases s <;> simp <;> omega

theorem rnd_53 (N : Nat) (h : N ≤ 9007199254740992) : rnd N = N := by
  by_cases e : N = 9007199254740992
  · subst e
    exact rnd_shift 1 53 (by decide)
  · exact rnd_small N (by omega)

theorem rnd_63 : rnd 9223372036854775808 = 9223372036854775808 := rnd_shift 1 63 (by decide)

/-- The integer of n's float is near n, and n itself up to 2^53. -/
theorem near_of (n : Int) (hn : n.natAbs ≤ 9223372036854775808) (hR : rnd n.natAbs < 9223372036854775808) :
    sv (decide (n < 0)) (rnd n.natAbs) ≤ n + 512 ∧ n ≤ sv (decide (n < 0)) (rnd n.natAbs) + 512 := by
  have hN : n.natAbs < 9223372036854775808 := by
    rcases Nat.lt_or_eq_of_le hn with h | h
    · exact h
    · rw [h, rnd_63] at hR
      omega
  have hnear := rnd_near n.natAbs (log2_62 _ hN)
  generalize rnd n.natAbs = R at *
  unfold sv
  by_cases h : n < 0
  · rw [decide_eq_true h]; simp; omega
  · rw [decide_eq_false h]; simp; omega

theorem same_of (n : Int) (h1 : -9007199254740992 ≤ n) (h2 : n ≤ 9007199254740992) : sv (decide (n < 0)) (rnd n.natAbs) = n := by
  rw [rnd_53 n.natAbs (by omega)]
  exact sv_natAbs n

set_option maxRecDepth 20000 in
set_option maxHeartbeats 2000000 in
theorem agree_yes (n : Int) (hlo : -9223372036854775808 ≤ n) (hhi : n ≤ 9223372036854775807) (w : World) (hR : rnd n.natAbs < 9223372036854775808) :
    Calls Try.prog 3 #[.int .i64 n] w fun e w' => e = .returned (.bool true) ∧ w = w' := by
  have hn : n.natAbs ≤ 9223372036854775808 := by omega
  have h := ofInt_whole n hR hn
  have hb := sv_within (decide (n < 0)) (rnd n.natAbs) hR
  have H0 : Hid (_) := fun wx => int64_any n wx
  have H1 : Hid (_) := fun wx => float_yes _ _ _ wx h
  have h23 := whole_inR h
  unfold inR at h23
  have h2 : (FloatKind.f64.format.order (floatOfInt .f64 n) 14114281232179134464 == some .gt) = true := (Bool.and_eq_true _ _ ▸ h23).1
  have h3 : (FloatKind.f64.format.order (floatOfInt .f64 n) 4890909195324358656 == some .lt) = true := (Bool.and_eq_true _ _ ▸ h23).2
  have hd := fun wx => run_convert_float_int (P := Try.prog) wx 24 2 .f64 .i64 (floatOfInt .f64 (sv (decide (n < 0)) (rnd n.natAbs))) _ (by kernel_rfl) Try.underlying2 (whole_again h)
  have h4 : (FloatKind.f64.format.order (floatOfInt .f64 (sv (decide (n < 0)) (rnd n.natAbs))) (floatOfInt .f64 n) == some .eq) = true := whole_back h
  have h5 : (FloatKind.f64.format.order (floatOfInt .f64 (sv (decide (n < 0)) (rnd n.natAbs))) (floatOfInt .f64 n) != some .eq) = false := by rw [bne, h4]; rfl
  have hnear := near_of n hn hR
  have hsame := same_of n
  clear h h23 hn hR
  generalize sv (decide (n < 0)) (rnd n.natAbs) = b at *
  obtain ⟨hb1, hb2⟩ := hb
  obtain ⟨hn1, hn2⟩ := hnear
  by_cases c1 : -9007199254740992 ≤ n
  · by_cases c2 : n ≤ 9007199254740992
    · obtain rfl := hsame c1 c2
      clear hsame hn1 hn2
      go_enter Try.func3, Try.ntmps3
      go_wp2_with fail
      refine (H0.out w).mono ?_
      rintro e _ ⟨rfl, rfl⟩
      go_wp2_with fail
      refine (H1.out w).mono ?_
      rintro e _ ⟨rfl, rfl⟩
      go_wp2
      go_ret
      exact ⟨rfl, rfl⟩
    · have e1 : decide (b - n ≤ 512) = true := by simp; omega
      have e2 : decide (-512 ≤ b - n) = true := by simp; omega
      clear hsame
      go_enter Try.func3, Try.ntmps3
      go_wp2_with fail
      refine (H0.out w).mono ?_
      rintro e _ ⟨rfl, rfl⟩
      go_wp2_with fail
      refine (H1.out w).mono ?_
      rintro e _ ⟨rfl, rfl⟩
      go_wp2
      go_ret
      exact ⟨rfl, rfl⟩
  · have e1 : decide (b - n ≤ 512) = true := by simp; omega
    have e2 : decide (-512 ≤ b - n) = true := by simp; omega
    clear hsame
    go_enter Try.func3, Try.ntmps3
    go_wp2_with fail
    refine (H0.out w).mono ?_
    rintro e _ ⟨rfl, rfl⟩
    go_wp2_with fail
    refine (H1.out w).mono ?_
    rintro e _ ⟨rfl, rfl⟩
    go_wp2
    go_ret
    exact ⟨rfl, rfl⟩

set_option maxRecDepth 20000 in
set_option maxHeartbeats 2000000 in
theorem agree_no (n : Int) (hlo : -9223372036854775808 ≤ n) (hhi : n ≤ 9223372036854775807) (w : World) (hR : ¬ rnd n.natAbs < 9223372036854775808) :
    Calls Try.prog 3 #[.int .i64 n] w fun e w' => e = .returned (.bool true) ∧ ∃ m, w' = w.drewN m := by
  have hn : n.natAbs ≤ 9223372036854775808 := by omega
  obtain ⟨m, e, hr, he, hm⟩ := read_ofInt n hn
  have hdv : mag m e / K = rnd n.natAbs := by rw [hm, Nat.mul_div_cancel _ K_pos]
  have hin : inR (floatOfInt .f64 n) = false := by
    rw [inR_num hr, hdv]
    exact decide_eq_false hR
  have hno : ∀ s T, ¬ Whole (floatOfInt .f64 n) s T := fun s T hw => by
    have := whole_inR hw
    rw [hin] at this
    cases this
  have H0 : Hid (_) := fun wx => int64_any n wx
  have H1 : Hid (_) := fun wx => float_no _ wx hno
  unfold inR at hin
  rw [Bool.and_eq_false_iff] at hin
  clear hno hdv hr he hm hR hn hlo hhi
  by_cases h2 : (FloatKind.f64.format.order (floatOfInt .f64 n) 14114281232179134464 == some .gt) = false
  · clear hin
    go_enter Try.func3, Try.ntmps3
    go_wp2_with fail
    refine (H0.out w).mono ?_
    rintro e _ ⟨rfl, rfl⟩
    go_wp2_with fail
    refine (H1.out w).mono ?_
    rintro e _ ⟨rfl, m1, rfl⟩
    go_wp2
    go_ret
    exact ⟨rfl, _, rfl⟩
  · have h3 : (FloatKind.f64.format.order (floatOfInt .f64 n) 4890909195324358656 == some .lt) = false := hin.resolve_left h2
    have h2' : (FloatKind.f64.format.order (floatOfInt .f64 n) 14114281232179134464 == some .gt) = true := by simpa using h2
    clear hin h2
    go_enter Try.func3, Try.ntmps3
    go_wp2_with fail
    refine (H0.out w).mono ?_
    rintro e _ ⟨rfl, rfl⟩
    go_wp2_with fail
    refine (H1.out w).mono ?_
    rintro e _ ⟨rfl, m1, rfl⟩
    go_wp2
    go_ret
    exact ⟨rfl, _, rfl⟩
end Go.Proofs.Qxb6617022a.floats
