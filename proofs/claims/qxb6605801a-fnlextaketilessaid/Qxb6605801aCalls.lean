import Derived.Test.Qxb6605801aRows
import Derived.WalkKit
import Derived.ProofKit
import Derived.OpenShut
import Derived.ShutString
import Derived.ChangeOld
import Derived.Below
import Derived.BigQuiet
import Derived.Deep.QuietTactic
import Derived.WalkSpells
namespace Go.Proofs.Qxb6605801a.fnLexTakeTiles
open Go.ChangeShapes Go.WideShapes Go.ChangeAt Go.RowKit

/-- 'zzBytes': may the sum of the lengths be at most 2^20? -/
def okB (s n : Nat) : Bool := decide (s + n ≤ 1048576)

set_option maxHeartbeats 400000 in
theorem zz_yes (a0 : ByteArray) (a1 : Option Addr) (len cap : Nat) (w : World) (h : a0.size + len ≤ 1048576) :
    Calls Try.prog 4 #[.string a0, .slice a1 len cap] w fun e w' => e = .returned (.bool true) ∧ w' = w := by
  go_enter Try.func4, Try.ntmps4
  go_wp2
  go_ret
  exact ⟨rfl, rfl⟩

set_option maxHeartbeats 400000 in
theorem zz_no (a0 : ByteArray) (a1 : Option Addr) (len cap : Nat) (w : World) (hs : a0.size ≤ maxLen) (hl : len ≤ maxLen) (h : ¬ a0.size + len ≤ 1048576) :
    Calls Try.prog 4 #[.string a0, .slice a1 len cap] w fun e w' => e = .returned (.bool false) ∧ w' = w := by
  unfold maxLen at hs hl
  by_cases h1 : a0.size ≤ 1048576
  · by_cases h2 : len ≤ 1048576
    · go_enter Try.func4, Try.ntmps4
      go_wp2
      go_ret
      exact ⟨rfl, rfl⟩
    · go_enter Try.func4, Try.ntmps4
      go_wp2
      go_ret
      exact ⟨rfl, rfl⟩
  · go_enter Try.func4, Try.ntmps4
    go_wp2
    go_ret
    exact ⟨rfl, rfl⟩

set_option maxHeartbeats 400000 in
theorem newLexer_any (s : ByteArray) (n : Int) (w : World) :
    Calls Try.prog 5 #[.string s, .int .i64 n] w fun e w' => e = .returned (.pointer (some ⟨w.heap.size, 0, none⟩)) ∧ w' = w.alloc (.cells #[.string s, .int .i64 n] 31) := by
  go_enter Try.func5, Try.ntmps5
  go_wp2
  go_ret
  exact ⟨rfl, rfl⟩

set_option maxHeartbeats 400000 in
theorem lexerOff_any (b : Nat) (n : Int) (w : World) (hc : w.cell? ⟨b, 1, none⟩ = some (.int .i64 n)) :
    Calls Try.prog 6 #[.pointer (some ⟨b, 0, none⟩)] w fun e w' => e = .returned (.int .i64 n) ∧ w' = w := by
  go_enter Try.func6, Try.ntmps6
  go_wp2
  go_ret
  exact ⟨rfl, rfl⟩
end Go.Proofs.Qxb6605801a.fnLexTakeTiles
