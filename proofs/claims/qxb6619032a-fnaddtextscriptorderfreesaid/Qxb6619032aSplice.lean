/-
  ZZnewSplice, ZZaddText (with addText) and ZZspliceFields as contracts.
-/
import Derived.Test.Qxb6619032aRows
import Derived.WalkKit
import Derived.ProofKit
import Derived.WalkSpells
import Derived.Deep.OwnRows
import Derived.Deep.QuietTactic
import Derived.BigQuiet
namespace Go.Proofs.Qxb6619032a.splice
open Go.ChangeShapes Go.WideShapes Go.ChangeAt Go.RowKit

/-- Block b is a splice with these five fields. -/
def Sp (w : World) (b : Nat) (c t l : Int) (v : Value) (u : Int) : Prop :=
  w.heap[b]? = some (.cells #[.int .i64 c, .int .i64 t, .int .i64 l, v, .int .i64 u] 34 (0, 0))

theorem Sp.lt {w : World} {b : Nat} {c t l : Int} {v : Value} {u : Int} (h : Sp w b c t l v u) : b < w.heap.size := lt_of_block h

theorem Sp.keep {w w' : World} {b B : Nat} {c t l : Int} {v : Value} {u : Int} (h : Sp w b c t l v u) (hb : Below B w w') (hB : b < B) : Sp w' b c t l v u := (hb.block b hB).trans h

theorem Sp.cells {w : World} {b : Nat} {c t l : Int} {v : Value} {u : Int} (h : Sp w b c t l v u) :
    w.cell? ⟨b, 0, none⟩ = some (.int .i64 c) ∧ w.cell? ⟨b, 1, none⟩ = some (.int .i64 t) ∧ w.cell? ⟨b, 2, none⟩ = some (.int .i64 l) ∧ w.cell? ⟨b, 3, none⟩ = some v ∧ w.cell? ⟨b, 4, none⟩ = some (.int .i64 u) := by
  unfold Sp at h
  refine ⟨?_, ?_, ?_, ?_, ?_⟩ <;> simp [World.cell?, h]

theorem Sp.free {w : World} {b : Nat} {c t l : Int} {v : Value} {u : Int} (h : Sp w b c t l v u) (o : Nat) : w.frozen? ⟨b, o, none⟩ = false := by
  unfold Sp at h
  simp [World.frozen?, h]

theorem Sp.put {w : World} {b : Nat} {c t l : Int} {v : Value} {u : Int} (h : Sp w b c t l v u) (t' u' : Int) :
    Sp ((w.setCell ⟨b, 1, none⟩ (.int .i64 t')).setCell ⟨b, 4, none⟩ (.int .i64 u')) b c t' l v u' := by
  unfold Sp at h ⊢
  simp only [World.setCell, Array.getElem?_modify, h]
  simp

set_option maxHeartbeats 400000 in
theorem new_any (c t l : Int) (a : Option Addr) (n cp : Nat) (u : Int) (w : World) :
    Calls Try.prog 7 #[.int .i64 c, .int .i64 t, .int .i64 l, .slice a n cp, .int .i64 u] w fun e w' => e = .returned (.pointer (some ⟨w.heap.size, 0, none⟩)) ∧ Sp w' w.heap.size c t l (.slice a n cp) u ∧ Below w.heap.size w w' ∧ w'.heap.size = w.heap.size + 1 := by
  go_enter Try.func7, Try.ntmps7
  go_wp2
  go_ret
  exact ⟨rfl, heap_alloc_new _ _, (Below.refl _ _).alloc (Nat.le_refl _) _, by simp⟩

set_option maxHeartbeats 400000 in
theorem add_any (s : ByteArray) (b : Nat) (c t l : Int) (v : Value) (u : Int) (w : World) (h : Sp w b c t l v u) :
    Calls Try.prog 8 #[.pointer (some ⟨b, 0, none⟩), .string s] w fun e w' => e = .returned (.tuple #[]) ∧ Sp w' b c (wrap64 (t + s.size)) l v (wrap64 (u + s.size)) ∧ Below b w w' ∧ w'.heap.size = w.heap.size := by
  obtain ⟨h0, h1, h2, h3, h4⟩ := h.cells
  have f1 := h.free 1
  have f4 := h.free 4
  have R := h.put (wrap64 (t + s.size)) (wrap64 (u + s.size))
  have R2 : Below b w ((w.setCell ⟨b, 1, none⟩ (.int .i64 (wrap64 (t + s.size)))).setCell ⟨b, 4, none⟩ (.int .i64 (wrap64 (u + s.size)))) := ((Below.refl b w).setCell (p := ⟨b, 1, none⟩) (Nat.le_refl b) _).setCell (p := ⟨b, 4, none⟩) (Nat.le_refl b) _
  clear h
  go_enter Try.func8, Try.ntmps8
  go_wp2
  go_end0
  go_wp2
  go_end0
  exact ⟨rfl, R, R2, by simp [World.setCell]⟩

set_option maxHeartbeats 400000 in
theorem fields_any (b : Nat) (c t l : Int) (a : Option Addr) (n cp : Nat) (u : Int) (w : World) (h : Sp w b c t l (.slice a n cp) u) :
    Calls Try.prog 9 #[.pointer (some ⟨b, 0, none⟩)] w fun e w' => e = .returned (.tuple #[.int .i64 c, .int .i64 t, .int .i64 l, .slice a n cp, .int .i64 u]) ∧ ∃ m, w' = w.drewN m := by
  obtain ⟨h0, h1, h2, h3, h4⟩ := h.cells
  clear h
  go_enter Try.func9, Try.ntmps9
  go_wp2
  go_quiet (fail)
  go_wp2
  exact bodyPost_ret (v := .tuple #[.int .i64 c, .int .i64 t, .int .i64 l, .slice a n cp, .int .i64 u]) (by simp [results, Try.results9, go_sem]) rfl ⟨rfl, _, rfl⟩
end Go.Proofs.Qxb6619032a.splice
