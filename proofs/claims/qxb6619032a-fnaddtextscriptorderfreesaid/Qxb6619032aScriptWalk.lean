/-
  FnAddTextScriptOrderFree: the walk.
-/
import Derived.Test.Qxb6619032aScript
namespace Go.Proofs.Qxb6619032a.script
open Go.ChangeShapes Go.WideShapes Go.ChangeAt Go.RowKit
open Go.Proofs.Qxb6619032a.clone Go.Proofs.Qxb6619032a.splice

theorem fwd_step (t : Int) (ss : List ByteArray) (k : Nat) (h : k < ss.length) : wrap64 (wrap64 (t + tot (ss.take k)) + (ss[k]?.getD ByteArray.empty).size) = wrap64 (t + tot (ss.take (k + 1))) := by
  rw [tot_take ss k h]
  unfold wrap64
  omega

theorem bwd_step (t : Int) (ss : List ByteArray) (k : Nat) (h : k < ss.length) : wrap64 (wrap64 (t + tot (ss.drop (k + 1))) + (ss[k]?.getD ByteArray.empty).size) = wrap64 (t + tot (ss.drop k)) := by
  rw [tot_drop ss k h]
  unfold wrap64
  omega

theorem sum_step (ss : List ByteArray) (k : Nat) (h : k < ss.length) : wrap64 (wrap64 (tot (ss.take k)) + (ss[k]?.getD ByteArray.empty).size) = wrap64 (tot (ss.take (k + 1))) := by
  rw [tot_take ss k h]
  unfold wrap64
  omega

theorem wrap_start (t : Int) (h : -9223372036854775808 ≤ t ∧ t ≤ 9223372036854775807) : wrap64 (t + (0 : Nat)) = t := by
  unfold wrap64
  omega

theorem wrap_run (u : Int) (T : Nat) : wrap64 (u + T) = wrap64 (u + wrap64 T) := by
  unfold wrap64
  omega

theorem wrap_gap (t u : Int) (T : Nat) : wrap64 (wrap64 (t + T) - wrap64 (u + T)) = wrap64 (t - u) := by
  unfold wrap64
  omega

set_option maxRecDepth 20000 in
set_option maxHeartbeats 2000000 in
theorem walk_all (a0 a1 a2 : Int) (a3 : Option Addr) (n cp : Nat) (zs : List Int) (a4 : Int) (a : Option Addr) (m cm : Nat) (ss : List ByteArray) (w : World)
    (hr : Row w w.heap.size a3 n zs) (hs : Strs w w.heap.size a m ss) (hm : (m : Int) ≤ 9223372036854775807)
    (H1 : Hid (-9223372036854775808 ≤ a1 ∧ a1 ≤ 9223372036854775807)) (H4 : Hid (-9223372036854775808 ≤ a4 ∧ a4 ≤ 9223372036854775807)) :
    Calls Try.prog 4 #[.int .i64 a0, .int .i64 a1, .int .i64 a2, .slice a3 n cp, .int .i64 a4, .slice a m cm] w fun e w' => e = .returned (.bool true) ∧ Below w.heap.size w w' := by
  go_enter Try.func4, Try.ntmps4
  go_wp2_with fail
  refine (bytes_any _ _ _ _ _ _ _ _ _ _ ss _ hs hm).mono ?_
  rintro e w' ⟨⟨bb, rfl⟩, rfl⟩
  cases bb with
  | false =>
    go_wp2
    go_ret
    exact ⟨rfl, Below.refl _ _⟩
  | true =>
    by_cases c1 : (n : Int) ≤ 65536
    case neg =>
      go_wp2
      go_ret
      exact ⟨rfl, Below.refl _ _⟩
    by_cases c2 : (m : Int) ≤ 65536
    case neg =>
      go_wp2
      go_ret
      exact ⟨rfl, Below.refl _ _⟩
    go_wp2
    go_loop [13, 14] (fun t i => ∃ (k : Nat) (q : Int), k ≤ m ∧ i = .int .i64 k ∧ t = .int .i64 q) (fun _ i => m - (intOf i).toNat)
    case atStart => exact ⟨0, _, Nat.zero_le _, rfl, rfl⟩
    case round =>
      obtain ⟨k, q, hk, rfl, rfl⟩ := hrel
      by_cases hq : q ≤ 1048576
      case neg =>
        go_wp2
        all_goals
          go_ret
          exact ⟨rfl, Below.refl _ _⟩
      by_cases hlt : k < m
      · obtain ⟨b, off, hx, hbB, hcs⟩ := strs_one hs (by omega)
        subst hx
        have hsrc := hcs k hlt
        clear hcs hs hr
        go_wp2
        go_round
        case rel => exact ⟨k + 1, _, by omega, by go_num, rfl⟩
        case measure => simp [intOf]; omega
      · go_wp2_with fail
        refine (clone_any _ _ _ zs _ (by omega) hr).mono ?_
        rintro e wA ⟨r0, p0, rfl, hn0, hr0, hbA⟩
        clear hr
        go_wp2_with fail
        refine (clone_any _ _ _ zs _ (by omega) hr0).mono ?_
        rintro e wB ⟨r1, p1, rfl, hn1, hr1, hbB⟩
        go_wp2_with fail
        refine (new_any _ _ _ _ _ _ _ _).mono ?_
        rintro e wC ⟨rfl, hsC, hbC, hzC⟩
        have hlen : ss.length = m := hs.1
        go_wp2_with fail
        go_loopw [16] (fun i wr => ∃ k : Nat, k ≤ m ∧ i = .int .i64 k ∧ Sp wr wB.heap.size a0 (wrap64 (a1 + tot (ss.take k))) a2 (.slice r1 n p1) (wrap64 (a4 + tot (ss.take k))) ∧ Below wB.heap.size wB wr) (fun i _ => m - (intOf i).toNat)
        case atStart => exact ⟨0, Nat.zero_le _, rfl, by have e := wrap_start a1 H1.out; have e' := wrap_start a4 H4.out; simp only [List.take_zero, tot] at *; rw [e, e']; exact hsC, hbC⟩
        case round =>
          obtain ⟨k2, hk2, rfl, hsp, hbel⟩ := hrel
          by_cases hlt2 : k2 < m
          · obtain ⟨b, off, hx, hbB', hcs⟩ := strs_one hs (by omega)
            subst hx
            have hsz : w.heap.size ≤ wB.heap.size := Nat.le_trans hbA.size hbB.size
            have hsrc : wr.cell? ⟨b, off + k2, none⟩ = some (.string (ss.getD k2 ByteArray.empty)) := by
              have hwB : Below w.heap.size w wr := (hbA.trans (hbB.mono hbA.size)).trans (hbel.mono hsz)
              exact (hwB.cell (p := ⟨b, off + k2, none⟩) hbB').trans (hcs k2 hlt2)
            have F1 : Hid (_ = _) := fwd_step a1 ss k2 (by omega)
            have F4 : Hid (_ = _) := fwd_step a4 ss k2 (by omega)
            clear hcs hs hlen
            go_wp2_with fail
            refine (add_any _ _ _ _ _ _ _ _ hsp).mono ?_
            rintro e wr2 ⟨rfl, hsp2, hbel2, hz2⟩
            have hsp3 : Sp wr2 wB.heap.size a0 (wrap64 (a1 + tot (ss.take (k2 + 1)))) a2 (.slice r1 n p1) (wrap64 (a4 + tot (ss.take (k2 + 1)))) := by
              rw [F1.out, F4.out] at hsp2
              exact hsp2
            clear hsp hsp2 hsrc
            go_wp2
            go_roundw
            case rel => exact ⟨k2 + 1, by omega, by go_num, hsp3, hbel.trans hbel2⟩
            case measure => simp [intOf]; omega
          · have htake : ss.take k2 = ss := List.take_of_length_le (by omega)
            rw [htake] at hsp
            have hAr : Below wA.heap.size wA wr := hbB.trans (hbel.mono hbB.size)
            have hr0r : Row wr wr.heap.size r0 n zs := (hr0.keep hAr (Nat.le_refl _)).mono hAr.size
            have hr1r : Row wr wr.heap.size r1 n zs := (hr1.keep hbel (Nat.le_refl _)).mono hbel.size
            have hwr : Below w.heap.size w wr := hbA.trans (hAr.mono hbA.size)
            have hltr : wB.heap.size < wr.heap.size := hsp.lt
            clear htake hAr hr0 hr1 hbA hbB hsC hbC hzC hbel
            go_wp2_with fail
            refine (clone_any _ _ _ zs _ (by omega) hr0r).mono ?_
            rintro e wF ⟨r2, p2, rfl, hn2, hr2, hbF⟩
            go_wp2_with fail
            refine (new_any _ _ _ _ _ _ _ _).mono ?_
            rintro e wG ⟨rfl, hsG, hbG, hzG⟩
            go_wp2_with fail
            go_loopw [18] (fun i wq => ∃ k : Nat, k ≤ m ∧ i = .int .i64 ((k : Int) - 1) ∧ Sp wq wF.heap.size a0 (wrap64 (a1 + tot (ss.drop k))) a2 (.slice r2 n p2) (wrap64 (a4 + tot (ss.drop k))) ∧ Below wF.heap.size wF wq) (fun i _ => (intOf i + 1).toNat)
            case atStart =>
              exact ⟨m, Nat.le_refl _, rfl, by have e := wrap_start a1 H1.out; have e' := wrap_start a4 H4.out; rw [List.drop_of_length_le (by omega)]; simp only [tot]; rw [e, e']; exact hsG, hbG⟩
            case round =>
              obtain ⟨k3, hk3, rfl, hsp3, hbel3⟩ := hrel
              cases k3 with
              | succ j =>
                have ej : (((j + 1 : Nat) : Int) - 1) = (j : Int) := by omega
                rw [ej]
                have hlt3 : j < m := by omega
                obtain ⟨b, off, hx, hbB', hcs⟩ := strs_one hs (by omega)
                subst hx
                have hsrc : wr.cell? ⟨b, off + j, none⟩ = some (.string (ss.getD j ByteArray.empty)) := by
                  have hwB : Below w.heap.size w wr := (hwr.trans (hbF.mono hwr.size)).trans (hbel3.mono (Nat.le_trans hwr.size hbF.size))
                  exact (hwB.cell (p := ⟨b, off + j, none⟩) hbB').trans (hcs j hlt3)
                have F1 : Hid (_ = _) := bwd_step a1 ss j (by omega)
                have F4 : Hid (_ = _) := bwd_step a4 ss j (by omega)
                clear hcs hs hlen ej
                go_wp2_with fail
                refine (add_any _ _ _ _ _ _ _ _ hsp3).mono ?_
                rintro e wr2 ⟨rfl, hsp4, hbel4, hz4⟩
                have hsp5 : Sp wr2 wF.heap.size a0 (wrap64 (a1 + tot (ss.drop j))) a2 (.slice r2 n p2) (wrap64 (a4 + tot (ss.drop j))) := by
                  rw [F1.out, F4.out] at hsp4
                  exact hsp4
                clear hsp3 hsp4 hsrc
                go_wp2
                go_roundw
                case rel => exact ⟨j, by omega, rfl, hsp5, hbel3.trans hbel4⟩
                case measure => simp [intOf]
              | zero =>
                rw [List.drop_zero] at hsp3
                have hEr := hbF.trans (hbel3.mono hbF.size)
                have hr0q := hr0r.keep hEr (Nat.le_refl _)
                have hr1q := hr1r.keep hEr (Nat.le_refl _)
                have hr2q := hr2.keep hbel3 (Nat.le_refl _)
                have hs1 := hsp.keep hEr hltr
                have hwq := hwr.trans (hEr.mono hwr.size)
                clear hsp hr0r hr1r hr2 hEr hltr hwr hbF hbG hsG hzG hbel3
                go_wp2_with fail
                go_loop [19, 20] (fun z i => ∃ k : Nat, k ≤ m ∧ i = .int .i64 k ∧ z = .int .i64 (wrap64 (tot (ss.take k)))) (fun _ i => m - (intOf i).toNat)
                case atStart => exact ⟨0, Nat.zero_le _, rfl, by simp [tot, wrap64]⟩
                case round =>
                  obtain ⟨k4, hk4, rfl, rfl⟩ := hrel
                  by_cases hlt4 : k4 < m
                  · obtain ⟨b, off, hx, hbB', hcs⟩ := strs_one hs (by omega)
                    subst hx
                    have hsrc : wr.cell? ⟨b, off + k4, none⟩ = some (.string (ss.getD k4 ByteArray.empty)) := (hwq.cell (p := ⟨b, off + k4, none⟩) hbB').trans (hcs k4 hlt4)
                    have F0 : Hid (_ = _) := sum_step ss k4 (by omega)
                    clear hcs hs hlen
                    go_wp2
                    go_round
                    case rel => exact ⟨k4 + 1, by omega, by go_num, by rw [← F0.out]⟩
                    case measure => simp [intOf]; omega
                  · have htake : ss.take k4 = ss := List.take_of_length_le (by omega)
                    rw [htake]
                    clear htake
                    go_wp2_with fail
                    refine (fields_any _ _ _ _ _ _ _ _ _ hs1).mono ?_
                    rintro e _ ⟨rfl, m1, rfl⟩
                    go_wp2_with fail
                    refine (fields_any _ _ _ _ _ _ _ _ _ (show Sp (wr.drewN m1) _ _ _ _ _ _ from hsp3)).mono ?_
                    rintro e _ ⟨rfl, m2, rfl⟩
                    go_wp2_with fail
                    refine (same_any r1 r0 n p1 p0 zs (wr.drewN (m1 + m2)) (by omega) hn1.symm _ _ (show Row (wr.drewN (m1 + m2)) _ _ _ _ from hr1q) (show Row (wr.drewN (m1 + m2)) _ _ _ _ from hr0q)).mono ?_
                    rintro e _ ⟨rfl, m3, rfl⟩
                    have G1 : (wrap64 (a4 + (tot ss : Int)) == wrap64 (a4 + wrap64 (tot ss : Int))) = true := by rw [← wrap_run]; simp
                    have G2 : (wrap64 (wrap64 (a1 + (tot ss : Int)) - wrap64 (a4 + (tot ss : Int))) == wrap64 (a1 - a4)) = true := by rw [wrap_gap]; simp
                    go_wp2_with fail
                    refine (same_any r2 r1 n p2 p1 zs (wr.drewN (m1 + m2 + m3)) (by omega) (hn1.trans hn2.symm) _ _ (show Row (wr.drewN (m1 + m2 + m3)) _ _ _ _ from hr2q) (show Row (wr.drewN (m1 + m2 + m3)) _ _ _ _ from hr1q)).mono ?_
                    rintro e _ ⟨rfl, m4, rfl⟩
                    go_wp2
                    go_ret
                    exact ⟨rfl, ⟨hwq.os, hwq.tape, hwq.output, hwq.size, hwq.block⟩⟩
end Go.Proofs.Qxb6619032a.script
