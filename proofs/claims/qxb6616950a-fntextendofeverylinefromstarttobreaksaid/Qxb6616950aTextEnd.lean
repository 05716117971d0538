/-
  (*editor).textEnd and ZZtextEnd as contracts.
-/
import Derived.Test.Qxb6616950aSearch
import Derived.Deep.RegionWith
namespace Go.Proofs.Qxb6616950a.lines
open Go.ChangeShapes Go.WideShapes Go.ChangeAt Go.RowKit

/-- What textEnd gives: the end of the last line that starts at or before 'at', of the first line where none does. -/
def IsE (n : Nat) (S E : Nat → Int) (at_ : Int) (e : Ending) : Prop := ∃ r : Nat, e = .returned (.int .i64 (E (r - 1))) ∧ IsAt n S at_ r

set_option maxRecDepth 20000 in
set_option maxHeartbeats 1000000 in
theorem end_any (at_ : Int) (b g off n c : Nat) (S E : Nat → Int) (w : World)
    (h2 : w.cell? ⟨b, 2, none⟩ = some (.slice (some ⟨g, off, none⟩) n c)) (hb : b < w.heap.size) (hg : g < w.heap.size)
    (hS : Hid (∀ i, i < n → w.cell? ⟨g, off + i * 2, none⟩ = some (.int .i64 (S i)))) (hE : Hid (∀ i, i < n → w.cell? ⟨g, off + i * 2 + 1, none⟩ = some (.int .i64 (E i))))
    (hn : (n : Int) ≤ 65536) (h0 : 0 < n) (hsorted : Hid (∀ i j, i ≤ j → j < n → S i ≤ S j)) :
    Calls Try.prog 10 #[.pointer (some ⟨b, 0, none⟩), .int .i64 at_] w fun e w' => IsE n S E at_ e ∧ Below w.heap.size w w' := by
  go_enter Try.func10, Try.ntmps10
  go_wp2
  go_region_with (go_at_call 11; refine (line_any at_ b g off n c S _ (by exact h2) (by exact hb) (by exact hg) (by exact hS) hn hsorted).mono ?_; rintro e w1 ⟨⟨r, rfl, hr⟩, hbel0⟩; have hbel : Below w.heap.size w w1 := ⟨hbel0.os, hbel0.tape, hbel0.output, hbel0.size, hbel0.block⟩; have hc1 := (hbel.cell (p := ⟨b, 2, none⟩) hb).trans h2; have hrn := hr.1; have hc2 := (hbel.cell (p := ⟨g, off + (r - 1) * 2 + 1, none⟩) hg).trans (hE.out (r - 1) (by omega)); have hr1 : (0 : Int) ≤ ((r - 1 : Nat) : Int) := (by omega); have hr2 : ((r - 1 : Nat) : Int) < (n : Int) := (by omega))
  all_goals
    go_wp2
    go_ret
    exact ⟨⟨r, rfl, hr⟩, hbel⟩

set_option maxRecDepth 20000 in
set_option maxHeartbeats 1000000 in
theorem textEnd_any (at_ : Int) (b g off n c : Nat) (S E : Nat → Int) (w : World)
    (h2 : w.cell? ⟨b, 2, none⟩ = some (.slice (some ⟨g, off, none⟩) n c)) (hb : b < w.heap.size) (hg : g < w.heap.size)
    (hS : Hid (∀ i, i < n → w.cell? ⟨g, off + i * 2, none⟩ = some (.int .i64 (S i)))) (hE : Hid (∀ i, i < n → w.cell? ⟨g, off + i * 2 + 1, none⟩ = some (.int .i64 (E i))))
    (hn : (n : Int) ≤ 65536) (h0 : 0 < n) (hsorted : Hid (∀ i j, i ≤ j → j < n → S i ≤ S j)) :
    Calls Try.prog 8 #[.pointer (some ⟨b, 0, none⟩), .int .i64 at_] w fun e w' => IsE n S E at_ e ∧ Below w.heap.size w w' := by
  go_enter Try.func8, Try.ntmps8
  go_wp2_with fail
  refine (end_any at_ b g off n c S E w h2 hb hg hS hE hn h0 hsorted).mono ?_
  rintro e w1 ⟨⟨r, rfl, hr⟩, hbel⟩
  go_wp2
  go_ret
  exact ⟨⟨r, rfl, hr⟩, hbel⟩
end Go.Proofs.Qxb6616950a.lines
