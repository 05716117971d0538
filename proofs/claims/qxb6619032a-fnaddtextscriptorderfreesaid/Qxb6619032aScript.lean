/-
  FnAddTextScriptOrderFree: the plain sums; the guard zzBytes; the walk.
-/
import Derived.Test.Qxb6619032aClone
import Derived.Test.Qxb6619032aSplice
namespace Go.Proofs.Qxb6619032a.script
open Go.ChangeShapes Go.WideShapes Go.ChangeAt Go.RowKit
open Go.Proofs.Qxb6619032a.clone Go.Proofs.Qxb6619032a.splice

/-- The slice at 'a' of n strings reads as ss, all of it below block B. -/
def Strs (w : World) (B : Nat) (a : Option Addr) (n : Nat) (ss : List ByteArray) : Prop :=
  ss.length = n ∧ ∀ i, i < n → ∃ b off, a = some ⟨b, off, none⟩ ∧ b < B ∧ w.cell? ⟨b, off + i, none⟩ = some (.string (ss.getD i ByteArray.empty))

theorem strs_one {w : World} {B : Nat} {a : Option Addr} {n : Nat} {ss : List ByteArray} (h : Strs w B a n ss) (hn : 0 < n) :
    ∃ b off, a = some ⟨b, off, none⟩ ∧ b < B ∧ ∀ i, i < n → w.cell? ⟨b, off + i, none⟩ = some (.string (ss.getD i ByteArray.empty)) := by
  obtain ⟨b, off, e, hlt, _⟩ := h.2 0 hn
  refine ⟨b, off, e, hlt, fun i hi => ?_⟩
  obtain ⟨b', off', e', _, hc⟩ := h.2 i hi
  rw [e] at e'
  simp only [Option.some.injEq, Addr.mk.injEq] at e'
  obtain ⟨rfl, rfl, _⟩ := e'
  exact hc

/-- The bytes of all strings together. -/
def tot : List ByteArray → Nat
  | [] => 0
  | s :: r => s.size + tot r

theorem tot_append (a b : List ByteArray) : tot (a ++ b) = tot a + tot b := by
  induction a with
  | nil => simp [tot]
  | cons s r ih => simp [tot, ih]; omega

theorem tot_take (ss : List ByteArray) (k : Nat) (h : k < ss.length) : tot (ss.take (k + 1)) = tot (ss.take k) + (ss[k]?.getD ByteArray.empty).size := by
  rw [List.take_succ_eq_append_getElem h, tot_append]
  simp [tot, h]

theorem tot_drop (ss : List ByteArray) (k : Nat) (h : k < ss.length) : tot (ss.drop k) = tot (ss.drop (k + 1)) + (ss[k]?.getD ByteArray.empty).size := by
  rw [List.drop_eq_getElem_cons h]
  simp [tot, h]
  omega

/-- Some bool comes back. -/
def IsB (e : Ending) : Prop := ∃ b, e = .returned (.bool b)

set_option maxRecDepth 20000 in
set_option maxHeartbeats 1000000 in
theorem bytes_any (c t l : Int) (r : Option Addr) (n cp : Nat) (u : Int) (a : Option Addr) (m cm : Nat) (ss : List ByteArray) (w : World) (hs : Strs w w.heap.size a m ss) (hm : (m : Int) ≤ 9223372036854775807) :
    Calls Try.prog 11 #[.int .i64 c, .int .i64 t, .int .i64 l, .slice r n cp, .int .i64 u, .slice a m cm] w fun e w' => IsB e ∧ w = w' := by
  go_enter Try.func11, Try.ntmps11
  go_wp2
  · go_ret
    exact ⟨⟨_, rfl⟩, rfl⟩
  · go_ret
    exact ⟨⟨_, rfl⟩, rfl⟩
  · go_ret
    exact ⟨⟨_, rfl⟩, rfl⟩
  go_loop [13, 14] (fun z i => ∃ (k : Nat) (q : Int), k ≤ m ∧ i = .int .i64 k ∧ z = .int .i64 q) (fun _ i => m - (intOf i).toNat)
  case atStart => exact ⟨0, _, Nat.zero_le _, rfl, rfl⟩
  case round =>
    obtain ⟨k, q, hk, rfl, rfl⟩ := hrel
    by_cases hlt : k < m
    · obtain ⟨b, off, hx, hbB, hcs⟩ := strs_one hs (by omega)
      subst hx
      have hsrc := hcs k hlt
      clear hcs hs
      go_wp2
      · go_ret
        exact ⟨⟨_, rfl⟩, rfl⟩
      · go_ret
        exact ⟨⟨_, rfl⟩, rfl⟩
      · go_round
        case rel => exact ⟨k + 1, _, by omega, by go_num, rfl⟩
        case measure => simp [intOf]; omega
    · go_wp2
      go_ret
      exact ⟨⟨_, rfl⟩, rfl⟩
end Go.Proofs.Qxb6619032a.script
