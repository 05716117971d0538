/-
  make and copy for elements of two cells; ZZnewEditor as a contract.
-/
import Derived.Test.Qxb6616950aLines
import Derived.Laws.CopyOwn
import Derived.RegionTactic
import Derived.BigRegion
namespace Go.Proofs.Qxb6616950a.lines
open Go.ChangeShapes Go.WideShapes Go.ChangeAt Go.RowKit

theorem info28 : (Try.prog.info? 28).map (fun i => (i.zero, i.size, i.bytes)) = some (some (.agg #[.int .i64 0, .int .i64 0]), 2, 16) := by kernel_rfl
theorem info37 : (Try.prog.info? 37).map (fun i => (i.zero, i.size, i.bytes)) = some (some (.agg #[.int .i64 0, .int .i64 0]), 2, 16) := by kernel_rfl

/-- n pairs of zeros. -/
def zeros (n : Nat) : Array Value := madeCells #[.int .i64 0, .int .i64 0] (n * 2)

/-- 'make([]T, n)' of elements of two numbers. -/
theorem run_make_pairs {P : Program} (t e : TypeId) (ht : P.underlying t = some (.slice e)) (hinfo : (P.info? e).map (fun i => (i.zero, i.size, i.bytes)) = some (some (.agg #[.int .i64 0, .int .i64 0]), 2, 16))
    (n : Nat) (hn : (n : Int) ≤ 65536) (w : World) :
    (Instr.makeSlice t (.int .i64 (n : Int)) (.int .i64 (n : Int))).run P w = .ok (.slice (some ⟨w.heap.size, 0, none⟩) n n) (w.alloc (.cells (zeros n) e)) := by
  obtain ⟨i, hi, hzz⟩ := Option.map_eq_some_iff.1 hinfo
  simp only [Prod.mk.injEq] at hzz
  obtain ⟨hz, hs, hb⟩ := hzz
  have hr := run_make (P := P) w t e i _ ht hi hz .i64 .i64 n n (by omega) (Int.le_refl _) (by rw [hb]; omega) (by omega)
  simp only [Int.toNat_natCast, hs] at hr
  exact hr

theorem zeros_row (w : World) (n : Nat) (e : TypeId) : (w.alloc (.cells (zeros n) e)).rowIs w.heap.size e (n * 2) (fun _ => .int .i64 0) := by
  have hsz : (zeros n).size = n * 2 := size_madeCells _ _
  have h := World.rowIs_alloc w (zeros n) e (fun _ => .int .i64 0) (fun i hi => by
    rw [hsz] at hi
    have h2 : i % 2 = 0 ∨ i % 2 = 1 := by omega
    rcases h2 with h2 | h2 <;> simp [zeros, madeCells, hi, h2])
  rw [hsz] at h
  exact h

/-- The cells of n lines. -/
def pair (S E : Nat → Int) (j : Nat) : Value := if j % 2 = 0 then .int .i64 (S (j / 2)) else .int .i64 (E (j / 2))

def pairs (n : Nat) (S E : Nat → Int) : List Value := (List.range (n * 2)).map (pair S E)

theorem pair_one (S E : Nat → Int) (j : Nat) : (pair S E j).oneCell' = true := by unfold pair; split <;> rfl

/-- 'copy(dst, src)' of n elements of two cells into a row of n of the call's own. -/
theorem run_copy_pairs {P : Program} (w : World) (dT sT ty elem : TypeId) (g n dCap : Nat) (b off sCap : Nat) (S E : Nat → Int) (cur : Array Value) (t : TypeId)
    (hu : P.underlying dT = some (.slice elem)) (hs : (P.info? elem).map (fun i => (i.zero, i.size, i.bytes)) = some (some (.agg #[.int .i64 0, .int .i64 0]), 2, 16))
    (hg : w.heap[g]? = some (.cells cur t (0, 0))) (hc : cur.size = n * 2)
    (hsrc : ∀ i, i < n → w.cell? ⟨b, off + i * 2, none⟩ = some (.int .i64 (S i)) ∧ w.cell? ⟨b, off + i * 2 + 1, none⟩ = some (.int .i64 (E i))) :
    (Builtin.copy_ #[dT, sT] ty #[.slice (some ⟨g, 0, none⟩) n dCap, .slice (some ⟨b, off, none⟩) n sCap]).run P w =
      .ok (goInt n) (w.setRow g (pairs n S E).toArray) := by
  have hlen : (pairs n S E).length = n * 2 := by simp [pairs]
  have hl := run_loadCells_list (P := P) w ⟨b, off, none⟩ (pairs n S E) (fun j v hv => by
    have hj : j < n * 2 := by
      have := (List.getElem?_eq_some_iff.1 hv).1
      omega
    have hadd : (⟨b, off, none⟩ : Addr).add j = ⟨b, off + j, none⟩ := by unfold Addr.add; split <;> simp_all
    have hv' : v = pair S E j := by simpa [pairs, hj] using hv.symm
    rw [hadd, hv']
    unfold pair
    have hh := hsrc (j / 2) (by omega)
    split
    · have e : off + j = off + j / 2 * 2 := by omega
      rw [e]; exact hh.1
    · have e : off + j = off + j / 2 * 2 + 1 := by omega
      rw [e]; exact hh.2)
  have hst := run_storeCells_at P g 0 t (pairs n S E) 0 cur w hg (by omega) (fun v hv => by
    simp only [pairs, List.mem_map] at hv
    obtain ⟨j, _, rfl⟩ := hv
    exact pair_one S E j)
  have hfull : cur.toList.take (0 + 0) ++ pairs n S E ++ cur.toList.drop (0 + 0 + (pairs n S E).length) = pairs n S E := by
    rw [hlen, List.drop_of_length_le (by simp [hc])]
    simp
  rw [hfull] at hst
  obtain ⟨i, hi, hzz⟩ := Option.map_eq_some_iff.1 hs
  simp only [Prod.mk.injEq] at hzz
  obtain ⟨_, hsz, _⟩ := hzz
  rw [hlen] at hl
  have hmin : Nat.min n n = n := Nat.min_self n
  simp [Builtin.copy_, run_underlying hu, Builtin.lenOf, Builtin.firstCells, sizeOf, typeInfo, hi, hsz, hmin, hl, hst]

theorem pairs_row {w : World} {g n : Nat} {S E : Nat → Int} {cur : Array Value} {t : TypeId} (hg : w.heap[g]? = some (.cells cur t (0, 0))) :
    (w.setRow g (pairs n S E).toArray).rowIs g t (n * 2) (pair S E) :=
  ⟨_, setRow_heap w g cur _ t _ hg, by simp [pairs], fun i hi => by simp [pairs, hi]⟩

/-- The same as a law for the walk. -/
theorem wpList_copy_pairs {P : Program} {w : World} {ops : Array Oper} {rest : List Oper} {o : Oper} {a : Act} {Q : Exit → Act → World → Prop} (hgd : o.guard = none) (d s : Operand) (dT sT : TypeId)
    (ho : o.op = .call { callee := .builtin .copy, args := #[d, s], argTypes := #[dT, sT] }) (elem : TypeId) (hu : P.underlying dT = some (.slice elem))
    (hs : (P.info? elem).map (fun i => (i.zero, i.size, i.bytes)) = some (some (.agg #[.int .i64 0, .int .i64 0]), 2, 16))
    (g n dCap b off sCap : Nat) (hd : a.eval d = .slice (some ⟨g, 0, none⟩) n dCap) (hsv : a.eval s = .slice (some ⟨b, off, none⟩) n sCap) (S E : Nat → Int)
    (cur : Array Value) (t : TypeId) (hg : w.heap[g]? = some (.cells cur t (0, 0))) (hc : cur.size = n * 2)
    (hsrc : ∀ i, i < n → w.cell? ⟨b, off + i * 2, none⟩ = some (.int .i64 (S i)) ∧ w.cell? ⟨b, off + i * 2 + 1, none⟩ = some (.int .i64 (E i))) (B : Nat) (w0 : World) (hb : Below B w0 w) (hBg : B ≤ g)
    (h : ∀ w', w'.rowIs g t (n * 2) (pair S E) → Below B w0 w' → w'.heap.size = w.heap.size → wpList P ops Q rest (a.put o.dst (goInt n)) w') : wpList P ops Q (o :: rest) a w := by
  refine wpList_plain hgd fun K hK => ?_
  have hrun := run_copy_pairs (P := P) w dT sT o.type elem g n dCap b off sCap S E cur t hu hs hg hc hsrc
  unfold Oper.wp
  simp [execOp, ho, resolve, invoke, builtin, hd, hsv, hrun, Result.andThen]
  exact hK _ _ (h _ (pairs_row hg) (below_setRow hb hBg _) (by simp [World.setRow]))

/-- The editor's lines when k of them have been laid. -/
def part (S E : Nat → Int) (k j : Nat) : Value := if j < k * 2 then pair S E j else .int .i64 0

theorem part_step {w : World} {g n k : Nat} {S E : Nat → Int} (h : w.rowIs g 37 (n * 2) (part S E k)) :
    ((w.setCell ⟨g, k * 2, none⟩ (.int .i64 (S k))).setCell ⟨g, k * 2 + 1, none⟩ (.int .i64 (E k))).rowIs g 37 (n * 2) (part S E (k + 1)) := by
  refine ((h.set (k * 2) _).set (k * 2 + 1) _).congr fun j _ => ?_
  unfold part pair
  by_cases e1 : j = k * 2 + 1
  · subst e1
    rw [if_pos rfl, if_pos (by omega), if_neg (by omega), show (k * 2 + 1) / 2 = k by omega]
  rw [if_neg e1]
  by_cases e2 : j = k * 2
  · subst e2
    rw [if_pos rfl, if_pos (by omega), if_pos (by omega), show k * 2 / 2 = k by omega]
  rw [if_neg e2]
  by_cases l : j < k * 2
  · rw [if_pos l, if_pos (show j < (k + 1) * 2 by omega)]
  · rw [if_neg l, if_neg (show ¬ j < (k + 1) * 2 by omega)]

theorem cell_beside (w : World) (g i j : Nat) (u v : Value) (b o : Nat) (h : b ≠ g) :
    ((w.setCell ⟨g, i, none⟩ u).setCell ⟨g, j, none⟩ v).cell? ⟨b, o, none⟩ = w.cell? ⟨b, o, none⟩ :=
  World.cell?_of_block (w := w) ((Below.heap_setCell _ _ _ _ h).trans (Below.heap_setCell _ _ _ _ h))

set_option maxRecDepth 20000 in
set_option maxHeartbeats 1000000 in
theorem editor_any (b off n c : Nat) (S E : Nat → Int) (w : World) (hn : (n : Int) ≤ 65536) (hb : b < w.heap.size)
    (hsrc : Hid (∀ i, i < n → w.cell? ⟨b, off + i * 2, none⟩ = some (.int .i64 (S i)) ∧ w.cell? ⟨b, off + i * 2 + 1, none⟩ = some (.int .i64 (E i)))) :
    Calls Try.prog 7 #[.slice (some ⟨b, off, none⟩) n c] w fun e w' => e = .returned (.pointer (some ⟨w.heap.size, 0, none⟩)) ∧ w'.cell? ⟨w.heap.size, 2, none⟩ = some (.slice (some ⟨w.heap.size + 1, 0, none⟩) n n) ∧ w'.rowIs (w.heap.size + 1) 37 (n * 2) (pair S E) ∧ Below w.heap.size w w' ∧ w'.heap.size = w.heap.size + 2 := by
  have q22 : ∀ (w : World) (a : Option Addr) (n c n' c' : Nat), (binOp .neq 22 (.slice a n c) (.slice none n' c')).run Try.prog w = .ok (.bool a.isSome) w := fun w a n c n' c' => by
    have := run_neq_slice_nil_any (P := Try.prog) w 22 28 a n c n' c' Try.underlying22
    simpa using this
  have hmk := run_make_pairs (P := Try.prog) 30 37 Try.underlying30 info37 n hn
  go_enter Try.func7, Try.ntmps7
  go_wp2
  go_loopw [17] (fun i wr => ∃ k : Nat, k ≤ n ∧ i = .int .i64 k ∧ wr.rowIs (w.heap.size + 1) 37 (n * 2) (part S E k) ∧ wr.cell? ⟨w.heap.size, 2, none⟩ = some (.slice (some ⟨w.heap.size + 1, 0, none⟩) n n) ∧ Below w.heap.size w wr ∧ wr.heap.size = w.heap.size + 2) (fun i _ => n - (intOf i).toNat)
  case atStart =>
    refine ⟨0, Nat.zero_le _, rfl, ?_, ?_, ((Below.refl _ _).alloc (Nat.le_refl _) _).alloc (by simp) _, by simp⟩
    · have h := zeros_row (w.alloc (.cells #[.slice none 0 0, .string ⟨#[]⟩, .slice (some ⟨w.heap.size + 1, 0, none⟩) n n, .pointer none, .map none, .map none, .slice none 0 0] 35)) n 37
      have e : (w.alloc (.cells #[.slice none 0 0, .string ⟨#[]⟩, .slice (some ⟨w.heap.size + 1, 0, none⟩) n n, .pointer none, .map none, .map none, .slice none 0 0] 35)).heap.size = w.heap.size + 1 := by simp
      rw [e] at h
      exact h.congr fun i _ => by simp [part]
    · simp [World.cell?_alloc_past, World.cell?_alloc_at]
  case round =>
    obtain ⟨k, hk, rfl, hrow, hcell, hbel, hsz⟩ := hrel
    by_cases hlt : k < n
    · have hs1 := (hbel.cell (p := ⟨b, off + k * 2, none⟩) hb).trans (hsrc.out k hlt).1
      have hs2 := (hbel.cell (p := ⟨b, off + k * 2 + 1, none⟩) hb).trans (hsrc.out k hlt).2
      have hd1 : wr.cell? ⟨w.heap.size + 1, k * 2, none⟩ = some (.int .i64 0) := by have := hrow.cell (i := k * 2) (by omega); simpa [part] using this
      have hd2 : wr.cell? ⟨w.heap.size + 1, k * 2 + 1, none⟩ = some (.int .i64 0) := by have := hrow.cell (i := k * 2 + 1) (by omega); simpa [part, show ¬ (k * 2 + 1 < k * 2) by omega] using this
      have hf1 := hrow.frozen (k * 2)
      have hf2 := hrow.frozen (k * 2 + 1)
      have hi1 : (0 : Int) ≤ (k : Int) := by omega
      have hi2 : (k : Int) < (n : Int) := by omega
      have R := part_step hrow
      have hk2 := cell_beside wr (w.heap.size + 1) (k * 2) (k * 2 + 1) (.int .i64 (S k)) (.int .i64 (E k)) w.heap.size 2 (by omega)
      have hb2 : Below w.heap.size w ((wr.setCell ⟨w.heap.size + 1, k * 2, none⟩ (.int .i64 (S k))).setCell ⟨w.heap.size + 1, k * 2 + 1, none⟩ (.int .i64 (E k))) := (hbel.setCell (p := ⟨w.heap.size + 1, k * 2, none⟩) (by simp) _).setCell (p := ⟨w.heap.size + 1, k * 2 + 1, none⟩) (by simp) _
      have HK : Hid (_ = _) := hk2.trans hcell
      clear q22 hmk hrow hk2 hbel
      go_wp2
      go_region
      go_wp2
      go_roundw
      case rel => exact ⟨k + 1, by omega, by go_num, R, HK.out, hb2.drew, by simpa [World.setCell] using hsz⟩
      case measure => simp [intOf]; omega
    · obtain rfl : k = n := by omega
      go_wp2
      go_ret
      exact ⟨rfl, hcell, hrow.congr fun i hi => by simp [part, hi], hbel, hsz⟩
end Go.Proofs.Qxb6616950a.lines
