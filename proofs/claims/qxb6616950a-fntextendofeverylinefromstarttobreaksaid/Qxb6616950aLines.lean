/-
  The lines of a text in memory, and zzRealLines as a contract.
-/
import Derived.Test.Qxb6616950aRows
import Derived.WalkKit
import Derived.ProofKit
import Derived.WalkSpells
import Derived.Lib.SliceRun
import Derived.Deep.OwnRows
import Derived.Deep.QuietTactic
import Derived.BigQuiet
namespace Go.Proofs.Qxb6616950a.lines
open Go.ChangeShapes Go.WideShapes Go.ChangeAt Go.RowKit

/-- The slice at 'a' holds n lines, line i from S i to E i, all of it below block B. -/
def Lns (w : World) (B : Nat) (a : Option Addr) (n : Nat) (S E : Nat → Int) : Prop :=
  (a = none → n = 0) ∧ (0 < n → ∃ b off, a = some ⟨b, off, none⟩ ∧ b < B ∧ ∀ i, i < n → w.cell? ⟨b, off + i * 2, none⟩ = some (.int .i64 (S i)) ∧ w.cell? ⟨b, off + i * 2 + 1, none⟩ = some (.int .i64 (E i)))

/-- What zzRealLines asks. -/
def Real (n : Nat) (S E : Nat → Int) : Prop := 0 < n ∧ ∀ k, k < n → S k ≤ E k ∧ (k + 1 < n → E k < S (k + 1))

theorem step_real {n k : Nat} {S E : Nat → Int} (h : ∀ j, j < k → S j ≤ E j ∧ (j + 1 < n → E j < S (j + 1))) (h1 : S k ≤ E k) (h2 : k + 1 < n → E k < S (k + 1)) :
    ∀ j, j < k + 1 → S j ≤ E j ∧ (j + 1 < n → E j < S (j + 1)) := fun j hj => by
  by_cases e : j = k
  · subst e; exact ⟨h1, h2⟩
  · exact h j (by omega)

theorem drawn_any {w w' : World} (h : ∃ m, w' = w.drewN m) : ∃ m, w' = w.drewN m := h

/-- A bool comes back, and true only where p holds. -/
def IsB (p : Prop) (e : Ending) : Prop := ∃ b, e = .returned (.bool b) ∧ (b = true → p)

set_option maxRecDepth 20000 in
set_option maxHeartbeats 1000000 in
theorem real_any (a : Option Addr) (n c : Nat) (S E : Nat → Int) (w : World) (B : Nat) (hl : Lns w B a n S E) (hn : (n : Int) ≤ 65536) :
    Calls Try.prog 6 #[.slice a n c] w fun e w' => IsB (Real n S E) e ∧ ∃ m, w' = w.drewN m := by
  by_cases h0 : n = 0
  · have h0' : ((n : Int) == 0) = true := by simp [h0]
    go_enter Try.func6, Try.ntmps6
    go_wp2
    go_ret
    exact ⟨⟨false, rfl, by simp⟩, 0, rfl⟩
  have h0' : ((n : Int) == 0) = false := by simpa using h0
  obtain ⟨b, off, rfl, hb, hcs⟩ := hl.2 (by omega)
  clear hl
  go_enter Try.func6, Try.ntmps6
  go_wp2
  go_loopw [9] (fun i wr => ∃ k : Nat, k ≤ n ∧ i = .int .i64 k ∧ (∀ j, j < k → S j ≤ E j ∧ (j + 1 < n → E j < S (j + 1))) ∧ ∃ m, wr = w.drewN m) (fun i _ => n - (intOf i).toNat)
  case atStart => exact ⟨0, Nat.zero_le _, rfl, fun j hj => absurd hj (Nat.not_lt_zero j), 0, rfl⟩
  case round =>
    obtain ⟨k, hk, rfl, hall, m, rfl⟩ := hrel
    by_cases hlt : k < n
    · have hc1 := (hcs k hlt).1
      have hc2 := (hcs k hlt).2
      have hi1 : (0 : Int) ≤ (k : Int) := by omega
      have hi2 : (k : Int) < (n : Int) := by omega
      have HA : Hid (∀ j, j < k → S j ≤ E j ∧ (j + 1 < n → E j < S (j + 1))) := hall
      have HC : Hid (∀ i, i < n → w.cell? ⟨b, off + i * 2, none⟩ = some (.int .i64 (S i)) ∧ w.cell? ⟨b, off + i * 2 + 1, none⟩ = some (.int .i64 (E i))) := hcs
      clear hall hcs
      go_wp2
      go_quiet (fail)
      go_wp2
      · go_ret
        exact ⟨⟨false, rfl, by simp⟩, drawn_any (by simp only [World.drewN_drewN]; exact ⟨_, rfl⟩)⟩
      have hle : S k ≤ E k := by assumption
      by_cases hg : k + 1 < n
      · have hc3 := (HC.out (k + 1) hg).1
        have hg1 : (0 : Int) ≤ (k : Int) + 1 := by omega
        have hg2 : (k : Int) + 1 < (n : Int) := by omega
        go_quiet (fail)
        go_wp2
        · go_ret
          exact ⟨⟨false, rfl, by simp⟩, drawn_any (by simp only [World.drewN_drewN]; exact ⟨_, rfl⟩)⟩
        have hlt2 : E k < S (k + 1) := by assumption
        go_roundw
        case rel => exact ⟨k + 1, by omega, by go_num, step_real HA.out hle fun _ => hlt2, _, rfl⟩
        case measure => simp [intOf]; omega
      · have hg2 : decide ((k : Int) + 1 < (n : Int)) = false := by simp; omega
        go_quiet (fail)
        go_wp2
        go_roundw
        case rel => exact ⟨k + 1, by omega, by go_num, step_real HA.out hle fun h => absurd h hg, _, rfl⟩
        case measure => simp [intOf]; omega
    · obtain rfl : k = n := by omega
      have HA : Hid (Real k S E) := ⟨by omega, hall⟩
      clear hall hcs
      go_wp2
      go_ret
      exact ⟨⟨true, rfl, fun _ => HA.out⟩, m, rfl⟩
end Go.Proofs.Qxb6616950a.lines
