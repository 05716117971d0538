/-
  math.Trunc, schema.Int and ZZIntOfFloat64, ZZIntOfInt64 as contracts.
-/
import Derived.Test.Qxb6617022aRows
import Derived.WalkKit
import Derived.ProofKit
import Derived.WalkLawsBesides
import Derived.Laws.Externs
import Derived.Deep.Draws
import Derived.Test.Qxb6617022aWords
namespace Go.Proofs.Qxb6617022a.floats
open Go.ChangeShapes Go.WideShapes Go.ChangeAt Go.RowKit

theorem arch (x : Nat) (w : World) : (callFunc 9 #[.float .f64 x]).run Try.prog w = ((Extern.MathFloor.toIntegral "math.archTrunc" .zero #[.float .f64 x]).run Try.prog w).andThen fun v w' => .ok (.value v) w' :=
  run_callFunc_extern Try.func9 (by kernel_rfl) (by kernel_rfl) (by kernel_rfl) (by kernel_rfl) _ w

/-- The entry's answer on what a word stands for: N on a NaN, else the number made whole. -/
def onDatum (N : Bool → Nat → Sem Value) (d : Ieee.Datum) : Sem Value :=
  match d with
  | .nan s t => N s t
  | d => pure (.float .f64 (FloatKind.f64.encode (d.integral .zero)))

/-- On a NaN some float comes back; it may have been drawn. -/
theorem entry (x : Nat) : ∃ N : Bool → Nat → Sem Value, Extern.MathFloor.toIntegral "math.archTrunc" .zero #[.float .f64 x] = onDatum N (FloatKind.f64.decode x) ∧ ∀ s t (w : World), ∃ y m, (N s t).run Try.prog w = .ok (.float .f64 y) (w.drewN m) := by
  refine ⟨_, rfl, fun s t w => ?_⟩
  split
  · exact ⟨x, 0, rfl⟩
  · simp only [Sem.run_bind, run_choose_drew]
    split
    · exact ⟨_, 0, rfl⟩
    · exact ⟨_, 1, rfl⟩

theorem arch_num (x : Nat) (w : World) (h : (Ieee.double.read x).isNaN = false) : (callFunc 9 #[.float .f64 x]).run Try.prog w = .ok (.value (.float .f64 (truncW x))) w := by
  obtain ⟨N, hN, _⟩ := entry x
  rw [arch, hN]
  unfold truncW
  cases hr : FloatKind.f64.decode x with
  | number s m e => simp [onDatum]
  | infinity s => simp [onDatum]
  | nan s t =>
    have : Ieee.double.read x = .nan s t := hr
    rw [this] at h
    cases h

theorem arch_nan (x : Nat) (w : World) (h : (Ieee.double.read x).isNaN = true) : ∃ y m, (callFunc 9 #[.float .f64 x]).run Try.prog w = .ok (.value (.float .f64 y)) (w.drewN m) := by
  obtain ⟨N, hN, hr⟩ := entry x
  rw [arch, hN]
  cases hd : FloatKind.f64.decode x with
  | number s m e =>
    have : Ieee.double.read x = .number s m e := hd
    rw [this] at h
    cases h
  | infinity s =>
    have : Ieee.double.read x = .infinity s := hd
    rw [this] at h
    cases h
  | nan s t =>
    obtain ⟨y, m, hy⟩ := hr s t w
    exact ⟨y, m, by simp [onDatum, hy]⟩

set_option maxHeartbeats 400000 in
theorem trunc_num (x : Nat) (w : World) (h : Hid ((Ieee.double.read x).isNaN = false)) :
    Calls Try.prog 8 #[.float .f64 x] w fun e w' => e = .returned (.float .f64 (truncW x)) ∧ w = w' := by
  have ha := arch_num x w h.out
  go_enter Try.func8, Try.ntmps8
  go_wp2
  go_ret
  exact ⟨rfl, rfl⟩

set_option maxHeartbeats 400000 in
theorem trunc_nan (x : Nat) (w : World) (h : Hid ((Ieee.double.read x).isNaN = true)) :
    ∃ y m, Calls Try.prog 8 #[.float .f64 x] w fun e w' => e = .returned (.float .f64 y) ∧ w.drewN m = w' := by
  obtain ⟨y, m, ha⟩ := arch_nan x w h.out
  refine ⟨y, m, ?_⟩
  go_enter Try.func8, Try.ntmps8
  go_wp2
  go_ret
  exact ⟨rfl, rfl⟩

theorem assert_int (x : Nat) (w : World) : (Instr.typeAssert (.iface 24 (.float .f64 x)) 20 2 true).run Try.prog w = .ok (.tuple #[.int .i64 0, .bool false]) w := by kernel_rfl
theorem assert_float (x : Nat) (w : World) : (Instr.typeAssert (.iface 24 (.float .f64 x)) 20 24 true).run Try.prog w = .ok (.tuple #[.float .f64 x, .bool true]) w := by kernel_rfl
theorem assert_self (n : Int) (w : World) : (Instr.typeAssert (.iface 2 (.int .i64 n)) 20 2 true).run Try.prog w = .ok (.tuple #[.int .i64 n, .bool true]) w := by kernel_rfl

set_option maxHeartbeats 1000000 in
theorem int_yes (x : Nat) (s : Bool) (T : Nat) (w : World) (h : Whole x s T) :
    Calls Try.prog 7 #[.iface 24 (.float .f64 x)] w fun e w' => e = .returned (.tuple #[.int .i64 (sv s T), .bool true]) ∧ w = w' := by
  have hn : Hid ((Ieee.double.read x).isNaN = false) := by
    obtain ⟨m, e, hr, _⟩ := h
    show _ = _
    rw [hr]
    rfl
  have h1 : (FloatKind.f64.format.order x (truncW x) == some .eq) = true := whole_trunc h
  have h23 := whole_inR h
  unfold inR at h23
  have h2 : (FloatKind.f64.format.order x 14114281232179134464 == some .gt) = true := (Bool.and_eq_true _ _ ▸ h23).1
  have h3 : (FloatKind.f64.format.order x 4890909195324358656 == some .lt) = true := (Bool.and_eq_true _ _ ▸ h23).2
  have hc := fun wx => run_convert_float_int (P := Try.prog) wx 24 2 .f64 .i64 x (sv s T) (by kernel_rfl) Try.underlying2 (whole_toI64 h)
  have ta := assert_int x
  have tb := assert_float x
  clear h h23
  go_enter Try.func7, Try.ntmps7
  go_wp2_with fail
  refine (trunc_num x w hn).mono ?_
  rintro e _ ⟨rfl, rfl⟩
  go_wp2
  go_ret2
  exact ⟨rfl, rfl⟩

/-- The float way of Int where one of its three tests says no. -/
def no3 (x y : Nat) : Prop := (FloatKind.f64.format.order x y == some .eq) = false ∨ (FloatKind.f64.format.order x 14114281232179134464 == some .gt) = false ∨ (FloatKind.f64.format.order x 4890909195324358656 == some .lt) = false

set_option maxHeartbeats 1000000 in
theorem int_three (x y : Nat) (w w1 : World) (HT : Hid (Calls Try.prog 8 #[.float .f64 x] w fun e w' => e = .returned (.float .f64 y) ∧ w1 = w')) (h : no3 x y) :
    Calls Try.prog 7 #[.iface 24 (.float .f64 x)] w fun e w' => e = .returned (.tuple #[.int .i64 0, .bool false]) ∧ w1 = w' := by
  have ta := assert_int x
  have tb := assert_float x
  by_cases h1 : (FloatKind.f64.format.order x y == some .eq) = false
  · clear h
    go_enter Try.func7, Try.ntmps7
    go_wp2_with fail
    refine Calls.mono (Hid.out HT) ?_
    rintro e _ ⟨rfl, rfl⟩
    go_wp2
    go_ret2
    exact ⟨rfl, rfl⟩
  have h1' : (FloatKind.f64.format.order x y == some .eq) = true := by simpa using h1
  by_cases h2 : (FloatKind.f64.format.order x 14114281232179134464 == some .gt) = false
  · clear h h1
    go_enter Try.func7, Try.ntmps7
    go_wp2_with fail
    refine Calls.mono (Hid.out HT) ?_
    rintro e _ ⟨rfl, rfl⟩
    go_wp2
    go_ret2
    exact ⟨rfl, rfl⟩
  have h2' : (FloatKind.f64.format.order x 14114281232179134464 == some .gt) = true := by simpa using h2
  have h3 : (FloatKind.f64.format.order x 4890909195324358656 == some .lt) = false := by
    rcases h with h | h | h
    · exact absurd h h1
    · exact absurd h h2
    · exact h
  clear h h1 h2
  go_enter Try.func7, Try.ntmps7
  go_wp2_with fail
  refine Calls.mono (Hid.out HT) ?_
  rintro e _ ⟨rfl, rfl⟩
  go_wp2
  go_ret2
  exact ⟨rfl, rfl⟩

theorem order_nan {x y : Nat} (h : (Ieee.double.read x).isNaN = true) : (FloatKind.f64.format.order x y == some .eq) = false := by
  show ((Ieee.double.read x).order (Ieee.double.read y) == some .eq) = false
  cases hr : Ieee.double.read x with
  | number s m e => rw [hr] at h; cases h
  | infinity s => rw [hr] at h; cases h
  | nan s t => rfl

/-- Int on a float that is no whole number below 2^63. -/
theorem int_no (x : Nat) (w : World) (h : ∀ s T, ¬ Whole x s T) :
    Calls Try.prog 7 #[.iface 24 (.float .f64 x)] w fun e w' => e = .returned (.tuple #[.int .i64 0, .bool false]) ∧ ∃ m, w' = w.drewN m := by
  cases hn : (Ieee.double.read x).isNaN with
  | true =>
    obtain ⟨y, m, ht⟩ := trunc_nan x w hn
    refine (int_three x y w (w.drewN m) ht (Or.inl (order_nan hn))).mono ?_
    rintro e w' ⟨rfl, rfl⟩
    exact ⟨rfl, m, rfl⟩
  | false =>
    have h3 : no3 x (truncW x) := by
      cases hin : inR x with
      | true =>
        obtain ⟨s, m, e, hr, hT, hd⟩ := not_whole h hin
        exact Or.inl ((eq_trunc_num hr hT).trans hd)
      | false =>
        unfold inR at hin
        rw [Bool.and_eq_false_iff] at hin
        exact Or.inr hin
    refine (int_three x (truncW x) w w (trunc_num x w hn) h3).mono ?_
    rintro e w' ⟨rfl, rfl⟩
    exact ⟨rfl, 0, rfl⟩

set_option maxHeartbeats 1000000 in
theorem float_yes (x : Nat) (s : Bool) (T : Nat) (w : World) (h : Whole x s T) :
    Calls Try.prog 6 #[.float .f64 x] w fun e w' => e = .returned (.tuple #[.int .i64 (sv s T), .bool true]) ∧ w = w' := by
  have H : Hid (Whole x s T) := h
  clear h
  go_enter Try.func6, Try.ntmps6
  go_wp2_with fail
  refine (int_yes x s T w H.out).mono ?_
  rintro e _ ⟨rfl, rfl⟩
  go_wp2
  go_ret2
  exact ⟨rfl, rfl⟩

set_option maxHeartbeats 1000000 in
theorem float_no (x : Nat) (w : World) (h : ∀ s T, ¬ Whole x s T) :
    Calls Try.prog 6 #[.float .f64 x] w fun e w' => e = .returned (.tuple #[.int .i64 0, .bool false]) ∧ ∃ m, w' = w.drewN m := by
  have H : Hid (∀ s T, ¬ Whole x s T) := h
  clear h
  go_enter Try.func6, Try.ntmps6
  go_wp2_with fail
  refine (int_no x w H.out).mono ?_
  rintro e _ ⟨rfl, m, rfl⟩
  go_wp2
  go_ret2
  exact ⟨rfl, m, rfl⟩

set_option maxHeartbeats 1000000 in
theorem int64_any (n : Int) (w : World) :
    Calls Try.prog 5 #[.int .i64 n] w fun e w' => e = .returned (.tuple #[.int .i64 n, .bool true]) ∧ w = w' := by
  have ta := assert_self n
  go_enter Try.func5, Try.ntmps5
  go_wp2
  go_ret2
  exact ⟨rfl, rfl⟩
end Go.Proofs.Qxb6617022a.floats
