/-
  A slice of pairs of numbers that came in, opened.
-/
import Derived.Test.Qxb6616950aLines
import Derived.OpenShut
import Derived.Deep.Slices
namespace Go.Proofs.Qxb6616950a.lines
open Go.ChangeShapes Go.WideShapes Go.ChangeAt Go.RowKit Go.Deep

theorem cells28 : Try.prog.cellsOf 28 = 2 := by kernel_rfl
theorem cells3 : Try.prog.cellsOf 3 = 1 := by kernel_rfl

theorem open_lines {H : Type} {enc : TypeId × Value → H} {W : World} {base : Nat} {spare : Nat → Bool} {held : Bool} {a : Option Addr} {len cap : Nat} {d : DataW H} {p : List MemPlace}
    (h : DataW.Trod enc Try.prog W base spare held 22 (.slice a len cap) d p) : ∃ S E, Lns W W.heap.size a len S E ∧ (len : Int) ≤ 9223372036854775807 := by
  obtain ⟨fuel, hf⟩ := h
  rcases open_slice Try.underlying22 hf with ⟨hcs, _⟩ | ⟨x, l, c, m, n, D, Pl, hcs, hb, hl, hm, hmm, _, hx⟩
  · simp [Value.cells] at hcs
    obtain ⟨rfl, rfl, rfl⟩ := hcs
    exact ⟨fun _ => 0, fun _ => 0, ⟨fun _ => rfl, fun h => absurd h (Nat.lt_irrefl 0)⟩, by decide⟩
  · simp [Value.cells] at hcs
    obtain ⟨rfl, rfl, rfl⟩ := hcs
    have hlm : len ≤ m := by rw [hmm]; split <;> omega
    have each : ∀ i, i < len → ∃ q : Int × Int, W.cell? (x.add (i * 2)) = some (.int .i64 q.1) ∧ W.cell? (x.add (i * 2 + 1)) = some (.int .i64 q.2) := by
      intro i hi
      obtain ⟨cs', h1, h2⟩ := hx i (by omega)
      rw [cells28] at h1
      obtain ⟨_, hlen, hcell⟩ := World.cells?_some h1
      obtain ⟨xs, k, _, _, _, hxl, hg⟩ := DataW.trod_array Try.underlying28 h2
      match xs, hxl, cs', hlen with
      | [y0, y1], _, [v0, v1], _ =>
        have g0 := hg 0 (by omega)
        have g1 := hg 1 (by omega)
        simp [cells3] at g0 g1
        obtain ⟨n0, e0, _, _⟩ := DataW.trod_int Try.underlying3 g0
        obtain ⟨n1, e1, _, _⟩ := DataW.trod_int Try.underlying3 g1
        simp at e0 e1
        subst e0 e1
        have f0 := hcell 0 (by omega)
        have f1 := hcell 1 (by omega)
        rw [add_add] at f0 f1
        exact ⟨(n0, n1), by simpa using f0, by simpa using f1⟩
    obtain ⟨q, hq⟩ := choose_lt each
    refine ⟨fun i => (q i).1, fun i => (q i).2, ⟨by simp, fun hpos => ?_⟩, by unfold maxLen at hm; omega⟩
    obtain ⟨b, off, sp⟩ := x
    have hc0 := (hq 0 hpos).1
    have hsp : sp = none := by simpa [Addr.add] using World.cell?_spot hc0
    subst hsp
    have hadd : ∀ i, (⟨b, off, none⟩ : Addr).add i = ⟨b, off + i, none⟩ := fun i => by
      by_cases hi0 : i = 0
      · subst hi0; rfl
      · simp [Addr.add, hi0]
    refine ⟨b, off, rfl, ?_, fun i hi => ?_⟩
    · rw [← Nat.not_le]
      intro hle
      have e : W.heap[b]? = none := Array.getElem?_eq_none hle
      rw [hadd] at hc0
      simp [World.cell?, e] at hc0
    · have h := hq i hi
      rw [hadd, hadd, ← Nat.add_assoc] at h
      exact h
end Go.Proofs.Qxb6616950a.lines
