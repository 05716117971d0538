/-
  FnIntNegationSymmetric: the walk.
-/
import Derived.Test.Qxb6617022aIntWalk
namespace Go.Proofs.Qxb6617022a.floats
open Go.ChangeShapes Go.WideShapes Go.ChangeAt Go.RowKit

theorem sv_bounds (s : Bool) (T : Nat) (h : T < 9223372036854775808) : -9223372036854775807 ≤ sv s T ∧ sv s T ≤ 9223372036854775807 := by
  unfold sv
  cases s <;> simp <;> omega

set_option maxRecDepth 20000 in
set_option maxHeartbeats 2000000 in
theorem neg_whole_walk (x : Nat) (hx : x < 18446744073709551616) (s : Bool) (T : Nat) (w : World) (h : Whole x s T) :
    Calls Try.prog 4 #[.float .f64 x] w fun e w' => e = .returned (.bool true) ∧ w = w' := by
  have hb := sv_bounds s T (by obtain ⟨_, _, _, _, hT⟩ := h; exact hT)
  have H1 : Hid (_) := fun wx => float_yes x s T wx h
  have H2 : Hid (∀ wx, Calls Try.prog 6 #[.float .f64 (Op.negFloat .f64 x)] wx fun e w' => e = .returned (.tuple #[.int .i64 (-(sv s T)), .bool true]) ∧ wx = w') := fun wx => by
    have := float_yes _ _ T wx (whole_neg hx h)
    rw [sv_not] at this
    exact this
  have h23 := whole_inR h
  unfold inR at h23
  have h2 : (FloatKind.f64.format.order x 14114281232179134464 == some .gt) = true := (Bool.and_eq_true _ _ ▸ h23).1
  have h3 : (FloatKind.f64.format.order x 4890909195324358656 == some .lt) = true := (Bool.and_eq_true _ _ ▸ h23).2
  have hc := fun wx => run_convert_float_int (P := Try.prog) wx 24 2 .f64 .i64 x (sv s T) (by kernel_rfl) Try.underlying2 (whole_toI64 h)
  have hd := fun wx => run_convert_float_int (P := Try.prog) wx 24 2 .f64 .i64 (floatOfInt .f64 (sv s T)) (sv s T) (by kernel_rfl) Try.underlying2 (whole_again h)
  have h4 : (FloatKind.f64.format.order (floatOfInt .f64 (sv s T)) x == some .eq) = true := whole_back h
  have h5 : (FloatKind.f64.format.order (floatOfInt .f64 (sv s T)) x != some .eq) = false := by rw [bne, h4]; rfl
  have hneg : ∀ wx : World, (Op.unary .neg (.float .f64 x)).run Try.prog wx = .ok (.float .f64 (Op.negFloat .f64 x)) wx := fun _ => rfl
  clear h h23 hx
  generalize sv s T = a at *
  obtain ⟨hb1, hb2⟩ := hb
  go_enter Try.func4, Try.ntmps4
  go_wp2_with fail
  refine (H1.out w).mono ?_
  rintro e _ ⟨rfl, rfl⟩
  go_wp2_with fail
  refine (H2.out w).mono ?_
  rintro e _ ⟨rfl, rfl⟩
  go_wp2
  go_ret
  exact ⟨rfl, rfl⟩

set_option maxRecDepth 20000 in
set_option maxHeartbeats 2000000 in
theorem neg_other_walk (x : Nat) (hx : x < 18446744073709551616) (w : World) (h : ∀ s T, ¬ Whole x s T) :
    Calls Try.prog 4 #[.float .f64 x] w fun e w' => e = .returned (.bool true) ∧ ∃ m, w' = w.drewN m := by
  have H1 : Hid (_) := fun wx => float_no x wx h
  have H2 : Hid (_) := fun wx => float_no (Op.negFloat .f64 x) wx (fun s T hw => h _ _ (neg_whole hx hw))
  have hneg : ∀ wx : World, (Op.unary .neg (.float .f64 x)).run Try.prog wx = .ok (.float .f64 (Op.negFloat .f64 x)) wx := fun _ => rfl
  cases hin : inR x with
  | true =>
    obtain ⟨s, m, e, hr, hT, hd⟩ := not_whole h hin
    unfold inR at hin
    have h2 : (FloatKind.f64.format.order x 14114281232179134464 == some .gt) = true := (Bool.and_eq_true _ _ ▸ hin).1
    have h3 : (FloatKind.f64.format.order x 4890909195324358656 == some .lt) = true := (Bool.and_eq_true _ _ ▸ hin).2
    have hc := fun wx => run_convert_float_int (P := Try.prog) wx 24 2 .f64 .i64 x _ (by kernel_rfl) Try.underlying2 (toI64_num hr hT)
    have h4 : (FloatKind.f64.format.order (floatOfInt .f64 (sv s (mag m e / K))) x == some .eq) = false := (back_num hr hT).trans hd
    clear h hin hx hr hT hd
    generalize sv s (mag m e / K) = a at *
    go_enter Try.func4, Try.ntmps4
    go_wp2_with fail
    refine (H1.out w).mono ?_
    rintro e _ ⟨rfl, m1, rfl⟩
    go_wp2_with fail
    refine (H2.out _).mono ?_
    rintro e _ ⟨rfl, m2, rfl⟩
    go_wp2
    go_ret
    exact ⟨rfl, _, rfl⟩
  | false =>
    unfold inR at hin
    rw [Bool.and_eq_false_iff] at hin
    clear h hx
    by_cases h2 : (FloatKind.f64.format.order x 14114281232179134464 == some .gt) = false
    · clear hin
      go_enter Try.func4, Try.ntmps4
      go_wp2_with fail
      refine (H1.out w).mono ?_
      rintro e _ ⟨rfl, m1, rfl⟩
      go_wp2_with fail
      refine (H2.out _).mono ?_
      rintro e _ ⟨rfl, m2, rfl⟩
      go_wp2
      go_ret
      exact ⟨rfl, _, rfl⟩
    · have h3 : (FloatKind.f64.format.order x 4890909195324358656 == some .lt) = false := hin.resolve_left h2
      have h2' : (FloatKind.f64.format.order x 14114281232179134464 == some .gt) = true := by simpa using h2
      clear hin h2
      go_enter Try.func4, Try.ntmps4
      go_wp2_with fail
      refine (H1.out w).mono ?_
      rintro e _ ⟨rfl, m1, rfl⟩
      go_wp2_with fail
      refine (H2.out _).mono ?_
      rintro e _ ⟨rfl, m2, rfl⟩
      go_wp2
      go_ret
      exact ⟨rfl, _, rfl⟩
end Go.Proofs.Qxb6617022a.floats
