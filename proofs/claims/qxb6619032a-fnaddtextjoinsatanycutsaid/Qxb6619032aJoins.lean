/-
  FnAddTextJoinsAtAnyCut: the road on which every guard is met.
-/
import Derived.Test.Qxb6619032aClone
import Derived.Test.Qxb6619032aSplice
namespace Go.Proofs.Qxb6619032a.joins
open Go.ChangeShapes Go.WideShapes Go.ChangeAt Go.RowKit
open Go.Proofs.Qxb6619032a.clone Go.Proofs.Qxb6619032a.splice

set_option maxHeartbeats 400000 in
theorem bytes_ok (c t l : Int) (a : Option Addr) (n cp : Nat) (u : Int) (s : ByteArray) (i : Int) (w : World) (h : (n : Int) + (s.size : Int) ≤ 1048576) :
    Calls Try.prog 5 #[.int .i64 c, .int .i64 t, .int .i64 l, .slice a n cp, .int .i64 u, .string s, .int .i64 i] w fun e w' => e = .returned (.bool true) ∧ w = w' := by
  go_enter Try.func5, Try.ntmps5
  go_wp2
  go_ret
  exact ⟨rfl, rfl⟩

set_option maxHeartbeats 400000 in
theorem bytes_no (c t l : Int) (a : Option Addr) (n cp : Nat) (u : Int) (s : ByteArray) (i : Int) (w : World) (h : (1048576 : Int) < (n : Int) + (s.size : Int)) :
    Calls Try.prog 5 #[.int .i64 c, .int .i64 t, .int .i64 l, .slice a n cp, .int .i64 u, .string s, .int .i64 i] w fun e w' => e = .returned (.bool false) ∧ w = w' := by
  by_cases h1 : (1048576 : Int) < (n : Int)
  · go_enter Try.func5, Try.ntmps5
    go_wp2
    go_ret
    exact ⟨rfl, rfl⟩
  by_cases h2 : (1048576 : Int) < (s.size : Int)
  · go_enter Try.func5, Try.ntmps5
    go_wp2
    go_ret
    exact ⟨rfl, rfl⟩
  go_enter Try.func5, Try.ntmps5
  go_wp2
  go_ret
  exact ⟨rfl, rfl⟩

/-- Two pieces, added one behind the other, are the whole, wrapped or not. -/
theorem two_pieces (t : Int) (s : ByteArray) (k : Nat) (hk : k ≤ s.size) :
    wrap64 (wrap64 (t + (s.extract 0 k).size) + (s.extract k s.size).size) = wrap64 (t + s.size) := by
  have e1 : ((s.extract 0 k).size : Int) = k := by simp; omega
  have e2 : ((s.extract k s.size).size : Int) = (s.size : Int) - k := by simp; omega
  rw [e1, e2]
  unfold wrap64
  omega

set_option maxRecDepth 20000 in
set_option maxHeartbeats 1000000 in
theorem main (a0 a1 a2 : Int) (a3 : Option Addr) (n cp : Nat) (zs : List Int) (a4 : Int) (s : ByteArray) (k : Nat) (w : World) (hr : Row w w.heap.size a3 n zs)
    (c1 : (n : Int) + (s.size : Int) ≤ 1048576) (c2 : (n : Int) ≤ 65536) (c3 : (s.size : Int) ≤ 1048576 - 8 * (n : Int)) (c5 : (k : Int) ≤ (s.size : Int)) :
    Calls Try.prog 3 #[.int .i64 a0, .int .i64 a1, .int .i64 a2, .slice a3 n cp, .int .i64 a4, .string s, .int .i64 k] w fun e w' => e = .returned (.bool true) ∧ Below w.heap.size w w' := by
  go_enter Try.func3, Try.ntmps3
  go_wp2_with fail
  refine (bytes_ok _ _ _ _ _ _ _ _ _ _ c1).mono ?_
  rintro e w' ⟨rfl, rfl⟩
  go_wp2_with fail
  refine (clone_any _ _ _ zs _ (by omega) hr).mono ?_
  rintro e wA ⟨r0, p0, rfl, hn0, hr0, hbA⟩
  go_wp2_with fail
  refine (clone_any _ _ _ zs _ (by omega) hr0).mono ?_
  rintro e wB ⟨r1, p1, rfl, hn1, hr1, hbB⟩
  go_wp2_with fail
  refine (new_any _ _ _ _ _ _ _ _).mono ?_
  rintro e wC ⟨rfl, hsC, hbC, hzC⟩
  go_wp2_with fail
  refine (add_any _ _ _ _ _ _ _ _ hsC).mono ?_
  rintro e wD ⟨rfl, hsD, hbD, hzD⟩
  go_wp2_with fail
  refine (add_any _ _ _ _ _ _ _ _ hsD).mono ?_
  rintro e wE ⟨rfl, hsE, hbE, hzE⟩
  have hsE' : Sp wE wB.heap.size a0 (wrap64 (a1 + s.size)) a2 (.slice r1 n p1) (wrap64 (a4 + s.size)) := by
    rw [two_pieces a1 s k (by omega), two_pieces a4 s k (by omega)] at hsE
    exact hsE
  have hBE : Below wB.heap.size wB wE := (hbC.trans hbD).trans hbE
  have hAE : Below wA.heap.size wA wE := hbB.trans (hBE.mono hbB.size)
  have hr0E : Row wE wE.heap.size r0 n zs := (hr0.keep hAE (Nat.le_refl _)).mono hAE.size
  have hr1E : Row wE wE.heap.size r1 n zs := (hr1.keep hBE (Nat.le_refl _)).mono hBE.size
  have hwE : Below w.heap.size w wE := hbA.trans (hAE.mono hbA.size)
  have hltE : wB.heap.size < wE.heap.size := by omega
  clear hsC hsD hsE hbC hbD hbE hBE hAE hr0 hr1 hbA hbB hr hzC hzD hzE
  go_wp2_with fail
  refine (clone_any _ _ _ zs _ (by omega) hr0E).mono ?_
  rintro e wF ⟨r2, p2, rfl, hn2, hr2, hbF⟩
  go_wp2_with fail
  refine (new_any _ _ _ _ _ _ _ _).mono ?_
  rintro e wG ⟨rfl, hsG, hbG, hzG⟩
  go_wp2_with fail
  refine (add_any _ _ _ _ _ _ _ _ hsG).mono ?_
  rintro e wH ⟨rfl, hsH, hbH, hzH⟩
  have hFH : Below wF.heap.size wF wH := hbG.trans hbH
  have hEH : Below wE.heap.size wE wH := hbF.trans (hFH.mono hbF.size)
  have hr0H : Row wH wE.heap.size r0 n zs := hr0E.keep hEH (Nat.le_refl _)
  have hr1H : Row wH wE.heap.size r1 n zs := hr1E.keep hEH (Nat.le_refl _)
  have hr2H : Row wH wF.heap.size r2 n zs := hr2.keep hFH (Nat.le_refl _)
  have hs1 : Sp wH wB.heap.size a0 (wrap64 (a1 + s.size)) a2 (.slice r1 n p1) (wrap64 (a4 + s.size)) := hsE'.keep hEH hltE
  have hwH : Below w.heap.size w wH := hwE.trans (hEH.mono hwE.size)
  clear hsG hbG hbH hzG hzH hFH hEH hr0E hr1E hr2 hbF hsE' hwE
  go_wp2_with fail
  refine (fields_any _ _ _ _ _ _ _ _ _ hs1).mono ?_
  rintro e _ ⟨rfl, m1, rfl⟩
  go_wp2_with fail
  refine (fields_any _ _ _ _ _ _ _ _ _ (show Sp (wH.drewN m1) _ _ _ _ _ _ from hsH)).mono ?_
  rintro e _ ⟨rfl, m2, rfl⟩
  go_wp2_with fail
  refine (same_any r1 r0 n p1 p0 zs (wH.drewN (m1 + m2)) (by omega) hn1.symm _ _ (show Row (wH.drewN (m1 + m2)) _ _ _ _ from hr1H) (show Row (wH.drewN (m1 + m2)) _ _ _ _ from hr0H)).mono ?_
  rintro e _ ⟨rfl, m3, rfl⟩
  go_wp2_with fail
  refine (same_any r2 r0 n p2 p0 zs (wH.drewN (m1 + m2 + m3)) (by omega) hn2.symm _ _ (show Row (wH.drewN (m1 + m2 + m3)) _ _ _ _ from hr2H) (show Row (wH.drewN (m1 + m2 + m3)) _ _ _ _ from hr0H)).mono ?_
  rintro e _ ⟨rfl, m4, rfl⟩
  go_wp2
  go_ret
  exact ⟨rfl, ⟨hwH.os, hwH.tape, hwH.output, hwH.size, hwH.block⟩⟩

/-- A slice of numbers that came in is a row. -/
theorem row_of {w : World} {x : Addr} {len : Nat} {zs : List Int} (hl : len ≤ zs.length) (hc : ∀ i, i < zs.length → w.cell? (x.add i) = some (.int .i64 (zs.getD i 0))) :
    Row w w.heap.size (some x) len (zs.take len) := by
  refine ⟨by simp [hl], by simp, fun i hi => ?_⟩
  have h := hc 0 (by omega)
  obtain ⟨b, off, sp⟩ := x
  cases sp with
  | some q =>
    simp only [Addr.add, World.cell?] at h
    split at h <;> simp at h
  | none =>
    have h := hc i (by omega)
    have e0 : (⟨b, off, none⟩ : Addr).add i = ⟨b, off + i, none⟩ := by
      by_cases hi0 : i = 0
      · subst hi0; rfl
      · simp [Addr.add, hi0]
    rw [e0] at h
    refine ⟨b, off, rfl, ?_, ?_⟩
    · rw [← Nat.not_le]
      intro hle
      have e : w.heap[b]? = none := Array.getElem?_eq_none hle
      simp [World.cell?, e] at h
    · have e : (zs.take len).getD i 0 = zs.getD i 0 := by simp [List.getD, hi]
      rw [e]
      exact h
end Go.Proofs.Qxb6619032a.joins
