/-
  FnTextEndOfEveryLineFromStartToBreak: the plain law and the walk.
-/
import Derived.Test.Qxb6616950aAtWalk
import Derived.Deep.RegionHeld3
namespace Go.Proofs.Qxb6616950a.lines
open Go.ChangeShapes Go.WideShapes Go.ChangeAt Go.RowKit

/-- Anywhere from its start to the next line's start the search finds line q. -/
theorem at_mid {n : Nat} {S E : Nat → Int} (_h : Real n S E) {q r : Nat} {x : Int} (hq : q < n) (h1 : S q ≤ x) (h2 : q + 1 < n → x < S (q + 1)) (hr : IsAt n S x r) : r = q + 1 := by
  obtain ⟨k1, k2, k3⟩ := hr
  have a : q < r := by
    rw [← Nat.not_le]
    intro hle
    have := k3 q hle hq
    omega
  have b : r ≤ q + 1 := by
    rw [← Nat.not_lt]
    intro hlt
    have := k2 (q + 1) hlt
    have := h2 (by omega)
    omega
  omega

theorem start_lt {n : Nat} {S E : Nat → Int} (h : Real n S E) {q : Nat} (hq : q < n) : q + 1 < n → S q < S (q + 1) := fun hl => by
  have h1 := h.2 q hq
  have h2 := h1.2 hl
  omega

theorem end_lt {n : Nat} {S E : Nat → Int} (h : Real n S E) {q : Nat} (hq : q < n) : q + 1 < n → E q < S (q + 1) := (h.2 q hq).2

theorem break_lt {n : Nat} {S E : Nat → Int} (h : Real n S E) {q : Nat} (hq : q < n) (hq1 : q + 1 < n) : S q ≤ S (q + 1) - 1 := by
  have h1 := h.2 q hq
  have h2 := h1.2 hq1
  omega

set_option maxHeartbeats 400000 in
theorem bytes_ok4 (a : Option Addr) (n c : Nat) (w : World) (h : (n : Int) ≤ 1048576) :
    Calls Try.prog 9 #[.slice a n c] w fun e w' => e = .returned (.bool true) ∧ w = w' := by
  go_enter Try.func9, Try.ntmps9
  go_wp2
  go_ret
  exact ⟨rfl, rfl⟩

set_option maxRecDepth 20000 in
set_option maxHeartbeats 4000000 in
theorem walk_every (a : Option Addr) (n c : Nat) (S E : Nat → Int) (w : World) (hl : Lns w w.heap.size a n S E) (hbig : (n : Int) ≤ 9223372036854775807)
    (HLo : Hid (∀ i, i < n → -9223372036854775808 ≤ E i)) (HHi : Hid (∀ i, i < n → S i ≤ 9223372036854775807)) :
    Calls Try.prog 4 #[.slice a n c] w fun e w' => e = .returned (.bool true) ∧ Below w.heap.size w w' := by
  by_cases c0 : (n : Int) ≤ 1048576
  case neg =>
    go_enter Try.func4, Try.ntmps4
    go_wp2
    go_ret
    exact ⟨rfl, Below.refl _ _⟩
  by_cases c1 : (n : Int) ≤ 65536
  case neg =>
    go_enter Try.func4, Try.ntmps4
    go_wp2
    go_ret
    exact ⟨rfl, Below.refl _ _⟩
  clear hbig c0
  have q22 : ∀ (w : World) (a : Option Addr) (n c n' c' : Nat), (binOp .neq 22 (.slice a n c) (.slice none n' c')).run Try.prog w = .ok (.bool a.isSome) w := fun w a n c n' c' => by
    have := run_neq_slice_nil_any (P := Try.prog) w 22 28 a n c n' c' Try.underlying22
    simpa using this
  have hmk := run_make_pairs (P := Try.prog) 22 28 Try.underlying22 info28 n c1
  go_enter Try.func4, Try.ntmps4
  go_wp2_with fail
  refine (bytes_ok4 _ _ _ _ (by omega)).mono ?_
  rintro e _ ⟨rfl, rfl⟩
  go_wp2_with fail
  refine (real_any a n c S E _ w.heap.size hl c1).mono ?_
  rintro e _ ⟨⟨bb, rfl, hreal⟩, m, rfl⟩
  cases bb with
  | false =>
    go_wp2
    go_ret
    exact ⟨rfl, drawn_below (Below.refl _ _) m⟩
  | true =>
    have hR : Real n S E := hreal rfl
    obtain ⟨b, off, rfl, hb, hcs⟩ := hl.2 hR.1
    have HC : Hid (∀ i, i < n → w.cell? ⟨b, off + i * 2, none⟩ = some (.int .i64 (S i)) ∧ w.cell? ⟨b, off + i * 2 + 1, none⟩ = some (.int .i64 (E i))) := hcs
    have HR : Hid (Real n S E) := hR
    have HS : Hid (∀ i j, i ≤ j → j < n → S i ≤ S j) := sorted_of hR
    clear hl hcs hR hreal
    have hB1 : Below w.heap.size w ((w.alloc (.cells (zeros n) 28)).drewN m) := drawn_below ((Below.refl _ _).alloc (Nat.le_refl _) _) m
    go_wp2_with (refine wpList_copy_pairs rfl (.tmp 20) (.tmp 21) 22 22 rfl 28 Try.underlying22 info28 w.heap.size n n b off c (by rfl) (by rfl) S E (zeros n) 28 (by exact heap_alloc_new w _) (size_madeCells _ _) (by exact fun i hi => ⟨(hB1.cell (p := ⟨b, off + i * 2, none⟩) hb).trans (HC.out i hi).1, (hB1.cell (p := ⟨b, off + i * 2 + 1, none⟩) hb).trans (HC.out i hi).2⟩) w.heap.size w (by exact hB1) (Nat.le_refl _) ?_; intro wA hrowA hbA hzA)
    have hzA' : w.heap.size < wA.heap.size := by rw [hzA]; simp
    have HA : Hid (_) := row_cells hrowA
    clear q22 hmk HC hB1 hzA hrowA
    refine (editor_any w.heap.size 0 n n S E wA c1 (by omega) (zero_cells HA.out)).mono ?_
    rintro e wB ⟨rfl, hcB, hrowB, hbB, hzB⟩
    have HB : Hid (_) := row_cells hrowB
    have HAB : Hid (_) := keep_cells HA.out hbB hzA'
    have hA0 : wA.heap.size < wB.heap.size := by omega
    have hA1 : wA.heap.size + 1 < wB.heap.size := by omega
    have hAw : w.heap.size < wB.heap.size := by omega
    have h0n : 0 < n := HR.out.1
    have hwB : Below w.heap.size w wB := hbA.trans (hbB.mono hbA.size)
    have HCB : Hid (wB.cell? ⟨wA.heap.size, 2, none⟩ = some (.slice (some ⟨wA.heap.size + 1, 0, none⟩) n n)) := hcB
    clear hrowB hzB HA hbA hbB hcB
    go_wp2_with fail
    go_loopw [28] (fun i wr => ∃ k : Nat, k ≤ n ∧ i = .int .i64 k ∧ Below wB.heap.size wB wr) (fun i _ => n - (intOf i).toNat)
    case atStart => exact ⟨0, Nat.zero_le _, rfl, Below.refl _ _⟩
    case round =>
      obtain ⟨k, hk, rfl, hbr⟩ := hrel
      by_cases hlt : k < n
      · have HL := keep_cells HAB.out hbr hAw
        have HEr : Hid (_) := keep_cells HB.out hbr hA1
        have hcr := (hbr.cell (p := ⟨wA.heap.size, 2, none⟩) hA0).trans HCB.out
        have hr0 : wA.heap.size < wr.heap.size := Nat.lt_of_lt_of_le hA0 hbr.size
        have hr1 : wA.heap.size + 1 < wr.heap.size := Nat.lt_of_lt_of_le hA1 hbr.size
        have hc1 := (HL k hlt).1
        have hc2 := (HL k hlt).2
        have hi1 : (0 : Int) ≤ (k : Int) := by omega
        have hi2 : (k : Int) < (n : Int) := by omega
        have hwr : w.heap.size < wr.heap.size := Nat.lt_of_lt_of_le hAw hbr.size
        clear HL
        go_wp2
        go_region_held3 (fun w' => w'.cell? ⟨w.heap.size, k * 2, none⟩ = some (.int .i64 (S k)) ∧ w'.cell? ⟨w.heap.size, k * 2 + 1, none⟩ = some (.int .i64 (E k))) (go_keep) ((go_at_call 8; refine (textEnd_any (S k) wA.heap.size (wA.heap.size + 1) 0 n n S E _ (by exact hcr) (by exact hr0) (by exact hr1) (by exact zero_S HEr.out) (by exact zero_E HEr.out) c1 h0n HS).mono ?_; rintro e w1 ⟨⟨r, rfl, hr⟩, hbel0⟩; obtain rfl := at_mid HR.out hlt (Int.le_refl _) (start_lt HR.out hlt) hr; have hbel : Below wr.heap.size wr w1 := ⟨hbel0.os, hbel0.tape, hbel0.output, hbel0.size, hbel0.block⟩; have hd1 := (hbel.cell (p := ⟨w.heap.size, k * 2, none⟩) hwr).trans hc1; have hd2 := (hbel.cell (p := ⟨w.heap.size, k * 2 + 1, none⟩) hwr).trans hc2))
        have hb1 : Below wB.heap.size wB w1 := hbr.trans (hbel.mono hbr.size)
        have HE1 : Hid (_) := keep_cells HB.out hb1 hA1
        have hcr1 := (hb1.cell (p := ⟨wA.heap.size, 2, none⟩) hA0).trans HCB.out
        have hr01 : wA.heap.size < w1.heap.size := Nat.lt_of_lt_of_le hA0 hb1.size
        have hr11 : wA.heap.size + 1 < w1.heap.size := Nat.lt_of_lt_of_le hA1 hb1.size
        have hwr1 : w.heap.size < w1.heap.size := Nat.lt_of_lt_of_le hAw hb1.size
        clear HEr hcr hr0 hr1 hc1 hc2 hbel hbel0 hr hwr
        go_wp2
        go_region_held3 (fun w' => w'.cell? ⟨w.heap.size, k * 2 + 1, none⟩ = some (.int .i64 (E k))) (go_keep) ((go_at_call 8; refine (textEnd_any (E k) wA.heap.size (wA.heap.size + 1) 0 n n S E _ (by exact hcr1) (by exact hr01) (by exact hr11) (by exact zero_S HE1.out) (by exact zero_E HE1.out) c1 h0n HS).mono ?_; rintro e w2 ⟨⟨r, rfl, hr⟩, hbel0⟩; obtain rfl := at_end HR.out hlt hr; have hbel : Below w1.heap.size w1 w2 := ⟨hbel0.os, hbel0.tape, hbel0.output, hbel0.size, hbel0.block⟩; have hf2 := (hbel.cell (p := ⟨w.heap.size, k * 2 + 1, none⟩) hwr1).trans hd2))
        have hb2 : Below wB.heap.size wB w2 := hb1.trans (hbel.mono hb1.size)
        have HE2 : Hid (_) := keep_cells HB.out hb2 hA1
        have hcr2 := (hb2.cell (p := ⟨wA.heap.size, 2, none⟩) hA0).trans HCB.out
        have hr02 : wA.heap.size < w2.heap.size := Nat.lt_of_lt_of_le hA0 hb2.size
        have hr12 : wA.heap.size + 1 < w2.heap.size := Nat.lt_of_lt_of_le hA1 hb2.size
        have hwr2 : w.heap.size < w2.heap.size := Nat.lt_of_lt_of_le hAw hb2.size
        clear HE1 hcr1 hr01 hr11 hd1 hd2 hbel hbel0 hr hwr1 hb1 hbr
        go_wp2
        by_cases hg : k + 1 < n
        · have HL := keep_cells HAB.out hb2 hAw
          have hc3 := (HL (k + 1) hg).1
          have hg1 : (0 : Int) ≤ (k : Int) + 1 := by omega
          have hg2 : (k : Int) + 1 < (n : Int) := by omega
          have hg5 : decide ((k : Int) + 1 < (n : Int)) = true := by simpa using hg2
          have hlo := HLo.out k hlt
          have hhi := HHi.out (k + 1) hg
          have hel := end_lt HR.out hlt hg
          clear HL
          have hw1 : IntKind.i64.wrap ((k : Int) + 1) = (k : Int) + 1 := by rw [IntKind.wrap_i64]; omega
          have hw2 : IntKind.i64.wrap (S (k + 1) - 1) = S (k + 1) - 1 := by rw [IntKind.wrap_i64]; omega
          go_region_held3 (fun w' => w'.cell? ⟨w.heap.size, k * 2 + 1, none⟩ = some (.int .i64 (E k)) ∧ w'.cell? ⟨w.heap.size, (k + 1) * 2, none⟩ = some (.int .i64 (S (k + 1)))) (go_keep) ((go_at_call 8; refine (textEnd_any (S (k + 1) - 1) wA.heap.size (wA.heap.size + 1) 0 n n S E _ (by exact hcr2) (by exact hr02) (by exact hr12) (by exact zero_S HE2.out) (by exact zero_E HE2.out) c1 h0n HS).mono ?_; rintro e w3 ⟨⟨r, rfl, hr⟩, hbel0⟩; obtain rfl := at_mid HR.out hlt (break_lt HR.out hlt hg) (fun _ => by omega) hr; have hbel : Below w2.heap.size w2 w3 := ⟨hbel0.os, hbel0.tape, hbel0.output, hbel0.size, hbel0.block⟩; have hg3 := (hbel.cell (p := ⟨w.heap.size, k * 2 + 1, none⟩) hwr2).trans hf2; have hg4 := (hbel.cell (p := ⟨w.heap.size, (k + 1) * 2, none⟩) hwr2).trans hc3))
          have hb3 : Below wB.heap.size wB w3 := hb2.trans (hbel.mono hb2.size)
          clear HE2 hcr2 hbel hbel0 hr hb2 hw1 hw2
          go_wp2
          go_roundw
          case rel => exact ⟨k + 1, by omega, by go_num, hb3⟩
          case measure => simp [intOf]; omega
        · have hg2 : decide ((k : Int) + 1 < (n : Int)) = false := by simp; omega
          clear HE2 hcr2
          go_quiet (fail)
          go_wp2
          go_roundw
          case rel => exact ⟨k + 1, by omega, by go_num, drawn_below hb2 _⟩
          case measure => simp [intOf]; omega
      · go_wp2
        go_ret
        exact ⟨rfl, hwB.trans (hbr.mono hwB.size)⟩
end Go.Proofs.Qxb6616950a.lines
