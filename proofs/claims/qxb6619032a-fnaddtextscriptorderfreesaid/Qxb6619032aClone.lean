/-
  cloneInt64s and sameInt64s as contracts over a row of numbers.
-/
import Derived.Test.Qxb6619032aRows
import Derived.WalkKit
import Derived.ProofKit
import Derived.WalkSpells
import Derived.Lib.SliceRun
import Derived.Deep.OwnRows
import Derived.Deep.QuietTactic
import Derived.BigQuiet
namespace Go.Proofs.Qxb6619032a.clone
open Go.ChangeShapes Go.WideShapes Go.ChangeAt Go.RowKit

theorem info2 : (Try.prog.info? 2).map (fun i => (i.zero, i.size, i.bytes)) = some (some (.int .i64 0), 1, 8) := by kernel_rfl

/-- The slice at 'a' of n elements reads as the numbers zs, all of it below block B. -/
def Row (w : World) (B : Nat) (a : Option Addr) (n : Nat) (zs : List Int) : Prop :=
  zs.length = n ∧ (a = none → n = 0) ∧ ∀ i, i < n → ∃ b off, a = some ⟨b, off, none⟩ ∧ b < B ∧ w.cell? ⟨b, off + i, none⟩ = some (.int .i64 (zs.getD i 0))

theorem Row.keep {w w' : World} {B B' : Nat} {a : Option Addr} {n : Nat} {zs : List Int} (h : Row w B a n zs) (hb : Below B' w w') (hB : B ≤ B') : Row w' B a n zs := by
  refine ⟨h.1, h.2.1, fun i hi => ?_⟩
  obtain ⟨b, off, e, hlt, hc⟩ := h.2.2 i hi
  exact ⟨b, off, e, hlt, (hb.cell (p := ⟨b, off + i, none⟩) (by show b < B'; omega)).trans hc⟩

theorem Row.mono {w : World} {B B' : Nat} {a : Option Addr} {n : Nat} {zs : List Int} (h : Row w B a n zs) (hB : B ≤ B') : Row w B' a n zs := by
  refine ⟨h.1, h.2.1, fun i hi => ?_⟩
  obtain ⟨b, off, e, hlt, hc⟩ := h.2.2 i hi
  exact ⟨b, off, e, by omega, hc⟩

theorem row_one {w : World} {B : Nat} {a : Option Addr} {n : Nat} {zs : List Int} (h : Row w B a n zs) (hn : 0 < n) :
    ∃ b off, a = some ⟨b, off, none⟩ ∧ b < B ∧ ∀ i, i < n → w.cell? ⟨b, off + i, none⟩ = some (.int .i64 (zs.getD i 0)) := by
  obtain ⟨b, off, e, hlt, _⟩ := h.2.2 0 hn
  refine ⟨b, off, e, hlt, fun i hi => ?_⟩
  obtain ⟨b', off', e', _, hc⟩ := h.2.2 i hi
  rw [e] at e'
  simp only [Option.some.injEq, Addr.mk.injEq] at e'
  obtain ⟨rfl, rfl, _⟩ := e'
  exact hc

/-- The copy's cells when k elements have been copied. -/
def part (zs : List Int) (k : Nat) (j : Nat) : Value := if j < k then .int .i64 (zs.getD j 0) else .int .i64 0

theorem step_row {w : World} {b n : Nat} {k : Nat} {zs : List Int} (h : w.rowIs b 2 n (part zs k)) :
    (w.setCell ⟨b, k, none⟩ (.int .i64 (zs.getD k 0))).rowIs b 2 n (part zs (k + 1)) := by
  refine (h.set k _).congr fun j _ => ?_
  unfold part
  by_cases e : j = k
  · subst e; simp
  · rw [if_neg e]
    by_cases l : j < k
    · rw [if_pos l, if_pos (by omega)]
    · rw [if_neg l, if_neg (by omega)]

set_option maxHeartbeats 400000 in
theorem clone_nil (n c : Nat) (w : World) :
    Calls Try.prog 6 #[.slice none n c] w fun e w' => e = .returned (.slice none 0 0) ∧ w' = w := by
  have q22 : ∀ (w : World) (a : Option Addr) (n c n' c' : Nat), (binOp .eql 22 (.slice a n c) (.slice none n' c')).run Try.prog w = .ok (.bool a.isNone) w := fun w a n c n' c' => Lib.run_eql_slice_nil w _ _ a n c n' c' Try.underlying22
  go_enter Try.func6, Try.ntmps6
  go_wp2
  go_ret
  exact ⟨rfl, rfl⟩

set_option maxHeartbeats 400000 in
theorem clone_some (x : Addr) (n c : Nat) (zs : List Int) (w : World) (hn : n ≤ 65536) (hr : Row w w.heap.size (some x) n zs) :
    Calls Try.prog 6 #[.slice (some x) n c] w fun e w' => e = .returned (.slice (some ⟨w.heap.size, 0, none⟩) n n) ∧ Row w' (w.heap.size + 1) (some ⟨w.heap.size, 0, none⟩) n zs ∧ Below w.heap.size w w' ∧ w'.heap.size = w.heap.size + 1 := by
  have q22 : ∀ (w : World) (a : Option Addr) (n c n' c' : Nat), (binOp .eql 22 (.slice a n c) (.slice none n' c')).run Try.prog w = .ok (.bool a.isNone) w := fun w a n c n' c' => Lib.run_eql_slice_nil w _ _ a n c n' c' Try.underlying22
  have hmk := run_make_row' (P := Try.prog) 22 2 (.int .i64 0) 8 Try.underlying22 info2 rfl .i64 .i64 n (by omega) (by omega)
  go_enter Try.func6, Try.ntmps6
  go_wp2
  go_loopw [4] (fun i wr => ∃ k : Nat, k ≤ n ∧ i = .int .i64 k ∧ wr.rowIs w.heap.size 2 n (part zs k) ∧ Below w.heap.size w wr ∧ wr.heap.size = w.heap.size + 1) (fun i _ => n - (intOf i).toNat)
  case atStart =>
    exact ⟨0, Nat.zero_le _, rfl, (World.rowIs_made w (.int .i64 0) n 2).congr (fun i _ => by simp [part]), (Below.refl _ _).alloc (Nat.le_refl _) _, by simp⟩
  case round =>
    obtain ⟨k, hk, rfl, hrow, hbel, hsz⟩ := hrel
    by_cases hlt : k < n
    · obtain ⟨b, off, hx, hbB, hcs⟩ := row_one hr (by omega)
      simp only [Option.some.injEq] at hx
      subst hx
      have hsrc : wr.cell? ⟨b, off + k, none⟩ = some (.int .i64 (zs.getD k 0)) := (hbel.cell (p := ⟨b, off + k, none⟩) hbB).trans (hcs k hlt)
      have hdst : wr.cell? ⟨w.heap.size, k, none⟩ = some (.int .i64 0) := by have := hrow.cell hlt; simpa [part] using this
      have hfz := hrow.frozen k
      have R := step_row hrow
      have R2 := hbel.setCell (p := ⟨w.heap.size, k, none⟩) (Nat.le_refl _) (.int .i64 (zs.getD k 0))
      clear hcs hrow hbel
      go_wp2
      go_roundw
      case rel => exact ⟨k + 1, by omega, by go_num, R, R2, by simp [World.setCell, hsz]⟩
      case measure => simp [intOf]; omega
    · go_wp2
      go_ret
      obtain rfl : k = n := by omega
      exact ⟨rfl, ⟨hr.1, by simp, fun i hi => ⟨_, _, rfl, by omega, by have := hrow.cell hi; simpa [part, hi] using this⟩⟩, hbel, hsz⟩

/-- cloneInt64s, whatever slice: a slice of the same numbers, nil where it was nil, in new memory. -/
theorem clone_any (a : Option Addr) (n c : Nat) (zs : List Int) (w : World) (hn : n ≤ 65536) (hr : Row w w.heap.size a n zs) :
    Calls Try.prog 6 #[.slice a n c] w fun e w' => ∃ a' c', e = .returned (.slice a' n c') ∧ a'.isNone = a.isNone ∧ Row w' w'.heap.size a' n zs ∧ Below w.heap.size w w' := by
  cases a with
  | none =>
    obtain rfl : n = 0 := hr.2.1 rfl
    refine (clone_nil 0 c w).mono ?_
    rintro e w' ⟨rfl, rfl⟩
    exact ⟨none, 0, rfl, rfl, hr, Below.refl _ _⟩
  | some x =>
    refine (clone_some x n c zs w hn hr).mono ?_
    rintro e w' ⟨rfl, hr', hb, hs⟩
    exact ⟨_, _, rfl, rfl, by rw [hs]; exact hr', hb⟩

set_option maxHeartbeats 400000 in
theorem same_any (a a' : Option Addr) (n c c' : Nat) (zs : List Int) (w : World) (hn : n ≤ 65536) (ha : a'.isNone = a.isNone) (B B' : Nat) (hr : Row w B a n zs) (hr' : Row w B' a' n zs) :
    Calls Try.prog 10 #[.slice a n c, .slice a' n c'] w fun e w' => e = .returned (.bool true) ∧ ∃ m, w' = w.drewN m := by
  have q22 : ∀ (w : World) (a : Option Addr) (n c n' c' : Nat), (binOp .eql 22 (.slice a n c) (.slice none n' c')).run Try.prog w = .ok (.bool a.isNone) w := fun w a n c n' c' => Lib.run_eql_slice_nil w _ _ a n c n' c' Try.underlying22
  go_enter Try.func10, Try.ntmps10
  go_wp2
  go_loopw [5] (fun i wr => ∃ k : Nat, k ≤ n ∧ i = .int .i64 k ∧ ∃ m, wr = w.drewN m) (fun i _ => n - (intOf i).toNat)
  case atStart => exact ⟨0, Nat.zero_le _, rfl, 0, rfl⟩
  case round =>
    obtain ⟨k, hk, rfl, m, rfl⟩ := hrel
    by_cases hlt : k < n
    · obtain ⟨b, off, hx, hbB, hcs⟩ := row_one hr (by omega)
      obtain ⟨b', off', hx', hbB', hcs'⟩ := row_one hr' (by omega)
      subst hx hx'
      have hc1 := hcs k hlt
      have hc2 := hcs' k hlt
      have hi1 : (0 : Int) ≤ (k : Int) := by omega
      have hi2 : (k : Int) < (n : Int) := by omega
      clear hcs hcs' hr hr' ha
      go_wp2
      go_quiet (fail)
      go_wp2
      go_roundw
      case rel => exact ⟨k + 1, by omega, by go_num, _, rfl⟩
      case measure => simp [intOf]; omega
    · go_wp2
      go_ret
      exact ⟨rfl, m, rfl⟩
end Go.Proofs.Qxb6619032a.clone
