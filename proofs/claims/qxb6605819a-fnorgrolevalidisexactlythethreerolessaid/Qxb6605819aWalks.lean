import Derived.Test.Qxb6605819aRows
import Derived.WalkKit
import Derived.ProofKit
import Derived.WalkSpells
import Derived.OpenShut
import Derived.Below
namespace Go.Proofs.Qxb6605819a
open Go.RowKit

set_option maxHeartbeats 400000 in
theorem valid_yes (r : Int) (w : World) (h0 : 0 ≤ r) (h3 : r < 3) :
    Calls Try.prog 5 #[.int .i64 r] w fun e w' => e = .returned (.bool true) ∧ w' = w := by
  go_enter Try.func5, Try.ntmps5
  go_wp2
  go_ret
  exact ⟨rfl, rfl⟩

set_option maxHeartbeats 400000 in
theorem valid_no (r : Int) (w : World) (h : r < 0 ∨ 3 ≤ r) :
    Calls Try.prog 5 #[.int .i64 r] w fun e w' => e = .returned (.bool false) ∧ w' = w := by
  rcases h with h | h
  · go_enter Try.func5, Try.ntmps5
    go_wp2
    go_ret
    exact ⟨rfl, rfl⟩
  · have h0 : 0 ≤ r := by omega
    have hd : decide (r < 3) = false := by simpa using h
    go_enter Try.func5, Try.ntmps5
    go_wp2
    go_ret
    exact ⟨rfl, rfl⟩

set_option maxHeartbeats 400000 in
theorem exactly_walk (a0 : Int) (w : World) :
    Calls Try.prog 3 #[.int .i64 a0] w fun e w' => e = .returned (.bool true) ∧ w' = w := by
  by_cases h : 0 ≤ a0 ∧ a0 < 3
  · rcases (show a0 = 0 ∨ a0 = 1 ∨ a0 = 2 by omega) with rfl | rfl | rfl
    all_goals
      go_enter Try.func3, Try.ntmps3
      go_wp2_with (go_at_call 5; refine (valid_yes _ _ (by omega) (by omega)).mono ?_; rintro e w' ⟨rfl, hw⟩; obtain rfl := hw.symm)
      go_ret
      exact ⟨rfl, rfl⟩
  · have h1 : (a0 == 0) = false := by rw [beq_eq_false_iff_ne]; omega
    have h2 : (a0 == 1) = false := by rw [beq_eq_false_iff_ne]; omega
    have h3 : (a0 == 2) = false := by rw [beq_eq_false_iff_ne]; omega
    have hn : a0 < 0 ∨ 3 ≤ a0 := by omega
    clear h
    go_enter Try.func3, Try.ntmps3
    go_wp2_with (go_at_call 5; refine (valid_no _ _ hn).mono ?_; rintro e w' ⟨rfl, hw⟩; obtain rfl := hw.symm)
    go_ret
    exact ⟨rfl, rfl⟩

/-- How many of the k roles from lo on are valid. -/
def cnt (lo : Int) (k : Nat) : Int := max 0 (min (lo + k) 3 - max lo 0)

theorem cnt_zero (lo : Int) : cnt lo 0 = 0 := by unfold cnt; omega
theorem cnt_yes (lo : Int) (k : Nat) (h0 : 0 ≤ lo + k) (h3 : lo + k < 3) : cnt lo (k + 1) = cnt lo k + 1 := by unfold cnt; omega
theorem cnt_no (lo : Int) (k : Nat) (h : lo + k < 0 ∨ 3 ≤ lo + k) : cnt lo (k + 1) = cnt lo k := by unfold cnt; omega
theorem cnt_bd (lo : Int) (k : Nat) : 0 ≤ cnt lo k ∧ cnt lo k ≤ 3 := by unfold cnt; omega

set_option maxHeartbeats 800000 in
theorem counts_walk (lo n : Int) (w : World) (h1 : -9223372036854775808 ≤ lo) (h2 : lo ≤ 9223372036854775807) :
    Calls Try.prog 4 #[.int .i64 lo, .int .i64 n] w fun e w' => e = .returned (.bool true) ∧ w' = w := by
  by_cases hn0 : n < 0
  · go_enter Try.func4, Try.ntmps4
    go_wp2
    go_ret
    exact ⟨rfl, rfl⟩
  by_cases hn1 : 65536 < n
  · go_enter Try.func4, Try.ntmps4
    go_wp2
    go_ret
    exact ⟨rfl, rfl⟩
  by_cases hl : 9223372036854775807 - n < lo
  · go_enter Try.func4, Try.ntmps4
    go_wp2
    go_ret
    exact ⟨rfl, rfl⟩
  obtain ⟨m, rfl⟩ := Int.eq_ofNat_of_zero_le (show 0 ≤ n by omega)
  go_enter Try.func4, Try.ntmps4
  go_wp2
  go_loop [5, 6] (fun c i => ∃ k : Nat, k ≤ m ∧ i = .int .i64 k ∧ c = .int .i64 (cnt lo k)) (fun _ i => m - (intOf i).toNat)
  case atStart => exact ⟨0, Nat.zero_le _, rfl, by rw [cnt_zero]⟩
  case round =>
    obtain ⟨k, hk, rfl, rfl⟩ := hrel
    have hb := cnt_bd lo k
    by_cases hlt : k < m
    · by_cases hv : 0 ≤ lo + k ∧ lo + k < 3
      · obtain ⟨hv0, hv3⟩ := hv
        go_wp2_with (go_at_call 5; refine (valid_yes _ _ hv0 hv3).mono ?_; rintro e w' ⟨rfl, hw⟩; obtain rfl := hw.symm)
        go_round
        case rel => exact ⟨k + 1, by omega, by go_num, by rw [cnt_yes lo k hv0 hv3]⟩
        case measure => simp [intOf]; omega
      · have hv' : lo + k < 0 ∨ 3 ≤ lo + k := by omega
        clear hv
        go_wp2_with (go_at_call 5; refine (valid_no _ _ hv').mono ?_; rintro e w' ⟨rfl, hw⟩; obtain rfl := hw.symm)
        go_round
        case rel => exact ⟨k + 1, by omega, by go_num, by rw [cnt_no lo k hv']⟩
        case measure => simp [intOf]; omega
    · obtain rfl : k = m := by omega
      have hc : cnt lo k = max 0 (min (lo + k) 3 - max lo 0) := rfl
      by_cases q1 : lo < 0
      · by_cases q2 : 3 < lo + k
        · have e : (cnt lo k == 3) = true := by rw [beq_iff_eq]; omega
          clear hc
          go_wp2
          go_ret
          exact ⟨rfl, rfl⟩
        · by_cases q3 : 0 < lo + k
          · have e : (cnt lo k == lo + k) = true := by rw [beq_iff_eq]; omega
            clear hc
            go_wp2
            go_ret
            exact ⟨rfl, rfl⟩
          · have e : (cnt lo k == 0) = true := by rw [beq_iff_eq]; omega
            clear hc
            go_wp2
            go_ret
            exact ⟨rfl, rfl⟩
      · by_cases q2 : 3 < lo + k
        · by_cases q3 : lo < 3
          · have e : (cnt lo k == 3 - lo) = true := by rw [beq_iff_eq]; omega
            clear hc
            go_wp2
            go_ret
            exact ⟨rfl, rfl⟩
          · have e : (cnt lo k == 0) = true := by rw [beq_iff_eq]; omega
            clear hc
            go_wp2
            go_ret
            exact ⟨rfl, rfl⟩
        · by_cases q3 : lo < lo + k
          · have e : (cnt lo k == lo + k - lo) = true := by rw [beq_iff_eq]; omega
            clear hc
            go_wp2
            go_ret
            exact ⟨rfl, rfl⟩
          · have e : (cnt lo k == 0) = true := by rw [beq_iff_eq]; omega
            clear hc
            go_wp2
            go_ret
            exact ⟨rfl, rfl⟩
end Go.Proofs.Qxb6605819a
