/-
  The walks of plainSpan, ZZplainSpan and zzSpanOffset, as contracts.
-/
import Derived.Test.Qxb6618605aRows
import Derived.WalkKit
import Derived.ProofKit
import Derived.Deep.QuietTactic
import Derived.BigQuiet
namespace Go.Proofs.Qxb6618605a.spanWalks
open Go.ChangeShapes Go.WideShapes Go.ChangeAt Go.RowKit

theorem grown_drewN {W w' : World} (h : Grown W w') (n : Nat) : Grown W (w'.drewN n) := h

theorem grown_trans {W w1 w2 : World} (h : Grown W w1) (h' : Grown w1 w2) : Grown W w2 :=
  ⟨World.keptBut_trans h.1 h'.1, fun a => (h'.2.1 a).trans (h.2.1 a), Nat.le_trans h.2.2 h'.2.2⟩

set_option maxHeartbeats 400000 in
theorem plain_any (a : Int) (w : World) :
    Calls Try.prog 14 #[.int .i64 a] w fun e w' => e = .returned (.agg #[.int .i64 a, .int .i64 0, .int .i64 9223372036854775807]) ∧ Grown w w' := by
  go_enter Try.func14, Try.ntmps14
  go_wp2
  exact bodyPost_ret (v := .agg #[.int .i64 a, .int .i64 0, .int .i64 9223372036854775807]) (by simp [results, Try.results14, go_sem]) rfl ⟨rfl, (Grown.refl _).alloc _ _⟩

set_option maxHeartbeats 400000 in
theorem span_any (a : Int) (w : World) :
    Calls Try.prog 5 #[.int .i64 a] w fun e w' => e = .returned (.tuple #[.int .i64 a, .int .i64 0, .int .i64 9223372036854775807]) ∧ Grown w w' := by
  go_enter Try.func5, Try.ntmps5
  go_wp2_with (go_at_call 14; refine (plain_any _ _).mono ?_; rintro e w1 ⟨rfl, hg⟩)
  go_quiet (fail)
  go_wp2
  go_ret3
  exact ⟨rfl, grown_drewN (hg.alloc _ _) nq⟩

set_option maxHeartbeats 400000 in
theorem offset_any (a c : Int) (j : Int) (w : World) (hj : j < c) (h0 : 0 ≤ j) (h1 : j ≤ 2199023255552) (ha : -3000000000000000000 ≤ a) (ha' : a ≤ 3000000000000000000) :
    Calls Try.prog 6 #[.int .i64 a, .int .i64 0, .int .i64 c, .int .i64 j] w fun e w' => e = .returned (.int .i64 (a + j)) ∧ w' = w := by
  go_enter Try.func6, Try.ntmps6
  go_wp2
  go_ret
  exact ⟨rfl, rfl⟩
end Go.Proofs.Qxb6618605a.spanWalks
