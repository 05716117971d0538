/-
  FnTextEndIsEndOfLineHoldingAt: the plain law and the walk.
-/
import Derived.Test.Qxb6616950aEditor
import Derived.Test.Qxb6616950aTextEnd
namespace Go.Proofs.Qxb6616950a.lines
open Go.ChangeShapes Go.WideShapes Go.ChangeAt Go.RowKit

theorem sorted_of {n : Nat} {S E : Nat → Int} (h : Real n S E) : ∀ i j, i ≤ j → j < n → S i ≤ S j := by
  intro i j hij hj
  induction j with
  | zero => obtain rfl : i = 0 := by omega
            exact Int.le_refl _
  | succ m ih =>
    by_cases e : i = m + 1
    · subst e; exact Int.le_refl _
    · have h1 := ih (by omega) (by omega)
      have h2 := h.2 m (by omega)
      have h3 := h2.2 hj
      omega

/-- At the end of line q the search finds line q. -/
theorem at_end {n : Nat} {S E : Nat → Int} (h : Real n S E) {q r : Nat} (hq : q < n) (hr : IsAt n S (E q) r) : r = q + 1 := by
  obtain ⟨h1, h2, h3⟩ := hr
  have hl := h.2 q hq
  have a : q < r := by
    rw [← Nat.not_le]
    intro hle
    have := h3 q hle hq
    omega
  have b : r ≤ q + 1 := by
    rw [← Nat.not_lt]
    intro hlt
    have := h2 (q + 1) hlt
    have := hl.2 (by omega)
    omega
  omega

set_option maxHeartbeats 400000 in
theorem bytes_ok (a : Option Addr) (n c : Nat) (at_ : Int) (w : World) (h : (n : Int) ≤ 1048576) :
    Calls Try.prog 5 #[.slice a n c, .int .i64 at_] w fun e w' => e = .returned (.bool true) ∧ w = w' := by
  go_enter Try.func5, Try.ntmps5
  go_wp2
  go_ret
  exact ⟨rfl, rfl⟩

/-- The cells of n lines from place 0 of block g on. -/
def Cel (w : World) (g n : Nat) (S E : Nat → Int) : Prop := ∀ i, i < n → w.cell? ⟨g, i * 2, none⟩ = some (.int .i64 (S i)) ∧ w.cell? ⟨g, i * 2 + 1, none⟩ = some (.int .i64 (E i))

theorem row_cells {w : World} {g n : Nat} {t : TypeId} {S E : Nat → Int} (h : w.rowIs g t (n * 2) (pair S E)) : Cel w g n S E := fun i hi => by
  have h1 := h.cell (i := i * 2) (by omega)
  have h2 := h.cell (i := i * 2 + 1) (by omega)
  unfold pair at h1 h2
  rw [if_pos (by omega), show i * 2 / 2 = i by omega] at h1
  rw [if_neg (by omega), show (i * 2 + 1) / 2 = i by omega] at h2
  exact ⟨h1, h2⟩

theorem keep_cells {w w' : World} {g n B : Nat} {S E : Nat → Int} (h : Cel w g n S E) (hb : Below B w w') (hB : g < B) : Cel w' g n S E := fun i hi =>
  ⟨(hb.cell (p := ⟨g, i * 2, none⟩) hB).trans (h i hi).1, (hb.cell (p := ⟨g, i * 2 + 1, none⟩) hB).trans (h i hi).2⟩

theorem zero_cells {w : World} {g n : Nat} {S E : Nat → Int} (h : Cel w g n S E) :
    Hid (∀ i, i < n → w.cell? ⟨g, 0 + i * 2, none⟩ = some (.int .i64 (S i)) ∧ w.cell? ⟨g, 0 + i * 2 + 1, none⟩ = some (.int .i64 (E i))) := fun i hi => by
  rw [Nat.zero_add]; exact h i hi

theorem zero_S {w : World} {g n : Nat} {S E : Nat → Int} (h : Cel w g n S E) : Hid (∀ i, i < n → w.cell? ⟨g, 0 + i * 2, none⟩ = some (.int .i64 (S i))) := fun i hi => by
  rw [Nat.zero_add]; exact (h i hi).1

theorem zero_E {w : World} {g n : Nat} {S E : Nat → Int} (h : Cel w g n S E) : Hid (∀ i, i < n → w.cell? ⟨g, 0 + i * 2 + 1, none⟩ = some (.int .i64 (E i))) := fun i hi => by
  rw [Nat.zero_add]; exact (h i hi).2

theorem drawn_below {B : Nat} {a w : World} (h : Below B a w) (m : Nat) : Below B a (w.drewN m) := ⟨h.os, h.tape, h.output, h.size, h.block⟩

set_option maxRecDepth 20000 in
set_option maxHeartbeats 2000000 in
theorem walk_at (a : Option Addr) (n c : Nat) (S E : Nat → Int) (at_ : Int) (w : World) (hl : Lns w w.heap.size a n S E) (hbig : (n : Int) ≤ 9223372036854775807) :
    Calls Try.prog 3 #[.slice a n c, .int .i64 at_] w fun e w' => e = .returned (.bool true) ∧ Below w.heap.size w w' := by
  by_cases c0 : (n : Int) ≤ 1048576
  case neg =>
    go_enter Try.func3, Try.ntmps3
    go_wp2
    go_ret
    exact ⟨rfl, Below.refl _ _⟩
  by_cases c1 : (n : Int) ≤ 65536
  case neg =>
    go_enter Try.func3, Try.ntmps3
    go_wp2
    go_ret
    exact ⟨rfl, Below.refl _ _⟩
  clear hbig c0
  have q22 : ∀ (w : World) (a : Option Addr) (n c n' c' : Nat), (binOp .neq 22 (.slice a n c) (.slice none n' c')).run Try.prog w = .ok (.bool a.isSome) w := fun w a n c n' c' => by
    have := run_neq_slice_nil_any (P := Try.prog) w 22 28 a n c n' c' Try.underlying22
    simpa using this
  have hmk := run_make_pairs (P := Try.prog) 22 28 Try.underlying22 info28 n c1
  go_enter Try.func3, Try.ntmps3
  go_wp2_with fail
  refine (bytes_ok _ _ _ _ _ (by omega)).mono ?_
  rintro e _ ⟨rfl, rfl⟩
  go_wp2_with fail
  refine (real_any a n c S E _ w.heap.size hl c1).mono ?_
  rintro e _ ⟨⟨bb, rfl, hreal⟩, m, rfl⟩
  cases bb with
  | false =>
    go_wp2
    go_ret
    exact ⟨rfl, drawn_below (Below.refl _ _) m⟩
  | true =>
    have hR : Real n S E := hreal rfl
    obtain ⟨b, off, rfl, hb, hcs⟩ := hl.2 hR.1
    have HC : Hid (∀ i, i < n → w.cell? ⟨b, off + i * 2, none⟩ = some (.int .i64 (S i)) ∧ w.cell? ⟨b, off + i * 2 + 1, none⟩ = some (.int .i64 (E i))) := hcs
    have HR : Hid (Real n S E) := hR
    have HS : Hid (∀ i j, i ≤ j → j < n → S i ≤ S j) := sorted_of hR
    clear hl hcs hR hreal
    have hB1 : Below w.heap.size w ((w.alloc (.cells (zeros n) 28)).drewN m) := drawn_below ((Below.refl _ _).alloc (Nat.le_refl _) _) m
    go_wp2_with (refine wpList_copy_pairs rfl (.tmp 26) (.tmp 27) 22 22 rfl 28 Try.underlying22 info28 w.heap.size n n b off c (by rfl) (by rfl) S E (zeros n) 28 (by exact heap_alloc_new w _) (size_madeCells _ _) (by exact fun i hi => ⟨(hB1.cell (p := ⟨b, off + i * 2, none⟩) hb).trans (HC.out i hi).1, (hB1.cell (p := ⟨b, off + i * 2 + 1, none⟩) hb).trans (HC.out i hi).2⟩) w.heap.size w (by exact hB1) (Nat.le_refl _) ?_; intro wA hrowA hbA hzA)
    have hzA' : w.heap.size < wA.heap.size := by rw [hzA]; simp
    have HA : Hid (_) := row_cells hrowA
    clear q22 hmk HC hB1 hzA hrowA
    refine (editor_any w.heap.size 0 n n S E wA c1 (by omega) (zero_cells HA.out)).mono ?_
    rintro e wB ⟨rfl, hcB, hrowB, hbB, hzB⟩
    have HB : Hid (_) := row_cells hrowB
    have hA0 : wA.heap.size < wB.heap.size := by omega
    have hA1 : wA.heap.size + 1 < wB.heap.size := by omega
    have h0n : 0 < n := HR.out.1
    clear hrowB hzB
    go_wp2_with fail
    refine (textEnd_any at_ wA.heap.size (wA.heap.size + 1) 0 n n S E wB hcB hA0 hA1 (zero_S HB.out) (zero_E HB.out) c1 h0n HS).mono ?_
    rintro e wC ⟨⟨r, rfl, hr⟩, hbC⟩
    have hAC : Below wA.heap.size wA wC := hbB.trans (hbC.mono hbB.size)
    have HAC : Hid (_) := keep_cells HA.out hAC (by omega)
    have HBC : Hid (_) := keep_cells HB.out hbC hA1
    have hcC : wC.cell? ⟨wA.heap.size, 2, none⟩ = some (.slice (some ⟨wA.heap.size + 1, 0, none⟩) n n) := (hbC.cell (p := ⟨wA.heap.size, 2, none⟩) hA0).trans hcB
    have hwC : Below w.heap.size w wC := hbA.trans (hAC.mono hbA.size)
    have hC0 : wA.heap.size < wC.heap.size := Nat.lt_of_lt_of_le hA0 hbC.size
    have hC1 : wA.heap.size + 1 < wC.heap.size := Nat.lt_of_lt_of_le hA1 hbC.size
    have hrn := hr.1
    clear HA HB hAC hcB hbB hbC hbA hA0 hA1
    go_wp2_with fail
    go_loop [8, 37] (fun x i => ∃ k : Nat, k ≤ n ∧ i = .int .i64 k ∧ x = .int .i64 ((Nat.min k r : Nat) : Int)) (fun _ i => n - (intOf i).toNat)
    case atStart => exact ⟨0, Nat.zero_le _, rfl, by simp⟩
    case round =>
      obtain ⟨k, hk, rfl, rfl⟩ := hrel
      by_cases hlt : k < n
      · have hc1 := (HAC.out k hlt).1
        by_cases hkr : k < r
        · have hS1 := hr.2.1 k hkr
          have e1 : Nat.min k r = k := Nat.min_eq_left (by omega)
          have E1 : Hid (Nat.min (k + 1) r = k + 1) := Nat.min_eq_left (by omega)
          rw [e1]
          clear e1 hcC HBC
          go_wp2
          go_round
          case rel => exact ⟨k + 1, by omega, by go_num, by rw [E1.out]; go_num⟩
          case measure => simp [intOf]; omega
        · have hS1 := hr.2.2 k (by omega) hlt
          have e1 : Nat.min k r = r := Nat.min_eq_right (by omega)
          have E1 : Hid (Nat.min (k + 1) r = r) := Nat.min_eq_right (by omega)
          rw [e1]
          clear e1 hcC HBC
          go_wp2
          go_round
          case rel => exact ⟨k + 1, by omega, by go_num, by rw [E1.out]⟩
          case measure => simp [intOf]; omega
      · have e1 : Nat.min k r = r := Nat.min_eq_right (by omega)
        rw [e1]
        clear e1
        by_cases hr0 : r = 0
        · subst hr0
          have hc1 : wC.cell? ⟨w.heap.size, 1, none⟩ = some (.int .i64 (E 0)) := by have := (HAC.out 0 h0n).2; simpa using this
          go_wp2_with fail
          refine (textEnd_any (E 0) wA.heap.size (wA.heap.size + 1) 0 n n S E wC hcC hC0 hC1 (zero_S HBC.out) (zero_E HBC.out) c1 h0n HS).mono ?_
          rintro e wD ⟨⟨r', rfl, hr'⟩, hbD⟩
          obtain rfl := at_end HR.out h0n hr'
          go_wp2
          go_ret
          exact ⟨rfl, hwC.trans (hbD.mono hwC.size)⟩
        · obtain ⟨q, rfl⟩ : ∃ q, r = q + 1 := ⟨r - 1, by omega⟩
          have hq : q < n := by omega
          have hi1 : (0 : Int) ≤ (q : Int) := by omega
          have hi2 : (q : Int) < (n : Int) := by omega
          have hc1 := (HAC.out q hq).2
          have eq : ((q + 1 : Nat) : Int) = (q : Int) + 1 := by omega
          rw [eq]
          clear eq hr0
          go_wp2_with fail
          refine (textEnd_any (E q) wA.heap.size (wA.heap.size + 1) 0 n n S E wC hcC hC0 hC1 (zero_S HBC.out) (zero_E HBC.out) c1 h0n HS).mono ?_
          rintro e wD ⟨⟨r', rfl, hr'⟩, hbD⟩
          obtain rfl := at_end HR.out hq hr'
          go_wp2
          go_ret
          exact ⟨rfl, hwC.trans (hbD.mono hwC.size)⟩
end Go.Proofs.Qxb6616950a.lines
