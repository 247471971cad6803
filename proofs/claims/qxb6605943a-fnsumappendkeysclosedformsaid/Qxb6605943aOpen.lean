import Derived.Test.Qxb6605943aParts
import Derived.ShutString
import Derived.ChangeOld
import Derived.Deep.SlicePairs
namespace Go.Proofs.Qxb6605943a
open Go.ChangeShapes Go.WideShapes Go.ChangeAt Go.RowKit

theorem own : ownKnob Try.prog.godebug = none := by kernel_rfl
theorem laidOut : laidOutB Try.prog = true := by kernel_rfl
theorem cells34 : Try.prog.cellsOf 34 = 2 := by kernel_rfl
theorem cells9 : Try.prog.cellsOf 9 = 1 := by kernel_rfl
theorem cells3 : Try.prog.cellsOf 3 = 1 := by kernel_rfl

/-- The bytes of a string value; the number of an int value. -/
def strOf : Value → ByteArray
  | .string s => s
  | _ => ByteArray.empty

/-- What the walk is told of the keys that came in. -/
theorem keys_in {H : Type} {enc : TypeId × Value → H} {W : World} {ao : Option Addr} {len cap : Nat} {d : DataW H} {p : List MemPlace} (h : DataW.Trod enc Try.prog W 0 (fun _ => true) true 22 (.slice ao len cap) d p) :
    len ≤ maxLen ∧ ∃ M Y, KeysIn W ao len cap M Y := by
  obtain ⟨fuel, hf⟩ := h
  rcases Deep.open_slice_pairs Try.underlying22 Try.underlying34 cells34 rfl rfl cells9 cells3 hf with ⟨hcs, _⟩ | ⟨a, l, c, m, n, V0, V1, D0, D1, P0, P1, hcs, _, hl, hm, hmm, _, hx⟩
  · simp [Value.cells] at hcs
    obtain ⟨rfl, rfl, rfl⟩ := hcs
    exact ⟨Nat.zero_le _, fun _ => ByteArray.empty, fun _ => 0, .inl ⟨rfl, rfl, rfl⟩⟩
  · simp [Value.cells] at hcs
    obtain ⟨rfl, rfl, rfl⟩ := hcs
    have hlm : len ≤ m := by rw [hmm]; simpa using hl
    have s0 : ∀ k, k < len → V0 k = .string (strOf (V0 k)) := by
      intro k hk
      obtain ⟨_, _, ht, _⟩ := hx k (by omega)
      obtain ⟨s, e, _, hs⟩ := DataW.trod_string Try.underlying9 ht
      simp at e
      rw [e]
      rfl
    have s1 : ∀ k, k < len → V1 k = .int .i64 (intOf (V1 k)) := by
      intro k hk
      obtain ⟨_, _, _, ht⟩ := hx k (by omega)
      obtain ⟨s, e, _, hs⟩ := DataW.trod_int Try.underlying3 ht
      simp at e
      rw [e]
      rfl
    refine ⟨Nat.le_trans hl hm, fun k => strOf (V0 k), fun k => intOf (V1 k), .inr ⟨a, rfl, ?_, ?_⟩⟩
    · intro k hk
      rw [(hx k (by omega)).1, ← s0 k hk]
    · intro k hk
      have e : (⟨(a.add (k * 2)).block, (a.add (k * 2)).off + 1, none⟩ : Addr) = a.add (k * 2 + 1) := by
        unfold Addr.add
        by_cases h0 : k * 2 = 0
        · simp [h0]
        · simp [h0]; omega
      rw [e, (hx k (by omega)).2.1, ← s1 k hk]
end Go.Proofs.Qxb6605943a
