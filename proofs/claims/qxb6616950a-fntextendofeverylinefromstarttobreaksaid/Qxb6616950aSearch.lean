/-
  The closure of (*editor).line, sort.Search over it, (*editor).line, (*editor).textEnd and ZZtextEnd as contracts.
-/
import Derived.Test.Qxb6616950aLines
import Derived.Deep.RegionHeld3
namespace Go.Proofs.Qxb6616950a.lines
open Go.ChangeShapes Go.WideShapes Go.ChangeAt Go.RowKit

set_option maxRecDepth 20000 in
set_option maxHeartbeats 1000000 in
theorem starts_any (i : Nat) (be ba b g off n c : Nat) (s at_ : Int) (w : World) (hi : i < n)
    (h1 : w.cell? ⟨be, 0, none⟩ = some (.pointer (some ⟨b, 0, none⟩))) (h2 : w.cell? ⟨b, 2, none⟩ = some (.slice (some ⟨g, off, none⟩) n c))
    (h3 : w.cell? ⟨g, off + i * 2, none⟩ = some (.int .i64 s)) (h4 : w.cell? ⟨ba, 0, none⟩ = some (.int .i64 at_)) :
    Calls Try.prog 13 #[.int .i64 i, .pointer (some ⟨be, 0, none⟩), .pointer (some ⟨ba, 0, none⟩)] w fun e w' => e = .returned (.bool (decide (at_ < s))) ∧ ∃ m, w' = w.drewN m := by
  have hi1 : (0 : Int) ≤ (i : Int) := by omega
  have hi2 : (i : Int) < (n : Int) := by omega
  go_enter Try.func13, Try.ntmps13
  go_wp2
  go_quiet (fail)
  go_wp2
  go_ret
  exact ⟨rfl, _, rfl⟩

/-- What a search for 'at' gives: r lines start at or before it, the others behind it. -/
def IsAt (n : Nat) (S : Nat → Int) (at_ : Int) (r : Nat) : Prop := r ≤ n ∧ (∀ k, k < r → S k ≤ at_) ∧ ∀ k, r ≤ k → k < n → at_ < S k

def IsR (n : Nat) (S : Nat → Int) (at_ : Int) (e : Ending) : Prop := ∃ r : Nat, e = .returned (.int .i64 r) ∧ IsAt n S at_ r

/-- The index that (*editor).line gives: of the last line that starts at or before it, 0 where none does. -/
def IsL (n : Nat) (S : Nat → Int) (at_ : Int) (e : Ending) : Prop := ∃ r : Nat, e = .returned (.int .i64 ((r - 1 : Nat) : Int)) ∧ IsAt n S at_ r

def Mid (n : Nat) (S : Nat → Int) (at_ : Int) (i j : Nat) : Prop := i ≤ j ∧ j ≤ n ∧ (∀ k, k < i → S k ≤ at_) ∧ ∀ k, j ≤ k → k < n → at_ < S k

theorem mid_left {n : Nat} {S : Nat → Int} {at_ : Int} {i j h : Nat} (hm : Mid n S at_ i j) (hs : ∀ i j, i ≤ j → j < n → S i ≤ S j) (h1 : i ≤ h) (h2 : h < j) (ha : at_ < S h) : Mid n S at_ i h := by
  obtain ⟨_, hjn, hl, hr⟩ := hm
  refine ⟨h1, by omega, hl, fun k hk hkn => ?_⟩
  have := hs h k hk hkn
  omega

theorem mid_right {n : Nat} {S : Nat → Int} {at_ : Int} {i j h : Nat} (hm : Mid n S at_ i j) (hs : ∀ i j, i ≤ j → j < n → S i ≤ S j) (_h1 : i ≤ h) (h2 : h < j) (ha : S h ≤ at_) : Mid n S at_ (h + 1) j := by
  obtain ⟨_, hjn, hl, hr⟩ := hm
  refine ⟨by omega, by omega, fun k hk => ?_, hr⟩
  have := hs k h (by omega) (by omega)
  omega

set_option maxRecDepth 20000 in
set_option maxHeartbeats 1000000 in
theorem search_any (be ba b g off n c : Nat) (S : Nat → Int) (at_ : Int) (w : World) (hn : (n : Int) ≤ 65536)
    (hsorted : Hid (∀ i j, i ≤ j → j < n → S i ≤ S j))
    (h1 : w.cell? ⟨be, 0, none⟩ = some (.pointer (some ⟨b, 0, none⟩))) (h2 : w.cell? ⟨b, 2, none⟩ = some (.slice (some ⟨g, off, none⟩) n c))
    (hS : Hid (∀ i, i < n → w.cell? ⟨g, off + i * 2, none⟩ = some (.int .i64 (S i)))) (h4 : w.cell? ⟨ba, 0, none⟩ = some (.int .i64 at_)) :
    Calls Try.prog 12 #[.int .i64 n, .func (Fn.func 13) #[] #[.pointer (some ⟨be, 0, none⟩), .pointer (some ⟨ba, 0, none⟩)]] w fun e w' => IsR n S at_ e ∧ ∃ m, w' = w.drewN m := by
  go_enter Try.func12, Try.ntmps12
  go_wp2
  go_loopw [5, 6] (fun x y wr => ∃ i j : Nat, x = .int .i64 i ∧ y = .int .i64 j ∧ Mid n S at_ i j ∧ ∃ m, wr = w.drewN m) (fun x y _ => (intOf y - intOf x).toNat)
  case atStart => exact ⟨0, n, rfl, rfl, ⟨Nat.zero_le _, Nat.le_refl _, fun k hk => absurd hk (Nat.not_lt_zero k), fun k h h' => absurd h' (by omega)⟩, 0, rfl⟩
  case round =>
    obtain ⟨i, j, rfl, rfl, hmid, m, rfl⟩ := hrel
    have hij := hmid.1
    have hjn := hmid.2.1
    by_cases hlt : i < j
    · go_wp2_with fail
      obtain ⟨h, hh⟩ : ∃ h : Nat, ((i : Int) + (j : Int)) / 2 = (h : Int) := ⟨(i + j) / 2, by omega⟩
      have hh1 : i ≤ h := by omega
      have hh2 : h < j := by omega
      rw [hh]
      have hSh := hS.out h (by omega)
      clear hh
      refine (starts_any h be ba b g off n c (S h) at_ (w.drewN m) (by omega) h1 h2 hSh h4).mono ?_
      rintro e _ ⟨rfl, m2, rfl⟩
      by_cases hat : at_ < S h
      · go_wp2
        go_roundw
        case rel => exact ⟨i, h, rfl, rfl, mid_left hmid hsorted.out hh1 hh2 hat, _, rfl⟩
        case measure => simp [intOf]; omega
      · have hd : decide (at_ < S h) = false := by simpa using hat
        have hat' : S h ≤ at_ := by omega
        clear hat
        go_wp2
        go_roundw
        case rel => exact ⟨h + 1, j, by go_num, rfl, mid_right hmid hsorted.out hh1 hh2 hat', _, rfl⟩
        case measure => simp [intOf]; omega
    · obtain rfl : i = j := by omega
      go_wp2
      go_ret
      exact ⟨⟨i, rfl, hjn, hmid.2.2.1, hmid.2.2.2⟩, m, rfl⟩

set_option maxRecDepth 20000 in
set_option maxHeartbeats 1000000 in
theorem line_any (at_ : Int) (b g off n c : Nat) (S : Nat → Int) (w : World)
    (h2 : w.cell? ⟨b, 2, none⟩ = some (.slice (some ⟨g, off, none⟩) n c)) (hb : b < w.heap.size) (hg : g < w.heap.size)
    (hS : Hid (∀ i, i < n → w.cell? ⟨g, off + i * 2, none⟩ = some (.int .i64 (S i)))) (hn : (n : Int) ≤ 65536) (hsorted : Hid (∀ i j, i ≤ j → j < n → S i ≤ S j)) :
    Calls Try.prog 11 #[.pointer (some ⟨b, 0, none⟩), .int .i64 at_] w fun e w' => IsL n S at_ e ∧ Below w.heap.size w w' := by
  go_enter Try.func11, Try.ntmps11
  go_wp2_with fail
  have hB : Below w.heap.size w ((w.alloc (.cells #[.pointer (some ⟨b, 0, none⟩)] 25)).alloc (.cells #[.int .i64 at_] 3)) := ((Below.refl _ _).alloc (Nat.le_refl _) _).alloc (by simp) _
  refine (search_any w.heap.size (w.heap.size + 1) b g off n c S at_ _ hn hsorted ?_ ?_ ?_ ?_).mono ?_
  · simp [World.cell?_alloc_past, World.cell?_alloc_at]
  · exact (hB.cell (p := ⟨b, 2, none⟩) hb).trans h2
  · exact fun i hi => (hB.cell (p := ⟨g, off + i * 2, none⟩) hg).trans (hS.out i hi)
  · have e : w.heap.size + 1 = (w.alloc (.cells #[.pointer (some ⟨b, 0, none⟩)] 25)).heap.size := by simp
    rw [e]
    simp [World.cell?_alloc_at]
  rintro e w1 ⟨⟨r, rfl, hr⟩, m, rfl⟩
  have hrn : (r : Int) ≤ 65536 := by have := hr.1; omega
  by_cases h0 : r = 0
  · subst h0
    go_wp2
    go_ret
    exact ⟨⟨0, rfl, hr⟩, hB.os, hB.tape, hB.output, hB.size, hB.block⟩
  · obtain ⟨q, rfl⟩ : ∃ q, r = q + 1 := ⟨r - 1, by omega⟩
    have eq : ((q + 1 : Nat) : Int) = (q : Int) + 1 := by omega
    rw [eq]
    clear eq h0
    go_wp2
    go_ret
    exact ⟨⟨q + 1, rfl, hr⟩, hB.os, hB.tape, hB.output, hB.size, hB.block⟩
end Go.Proofs.Qxb6616950a.lines
