import Derived.Test.Qxb6605943aSplit
namespace Go.Proofs.Qxb6605943a
open Go.RowKit

/-- The call returned true; at most draws have been made. -/
def TrueQ (w : World) (e : Ending) (w' : World) : Prop := e = .returned (.bool true) ∧ ∃ nq, w' = w.drewN nq

set_option maxHeartbeats 1000000 in
theorem prefix_any (g N capg : Nat) (ao : Option Addr) (len cap : Nat) (M : Nat → ByteArray) (Y : Nat → Int) (w : World) (hN : N ≤ 262144) (hle : len ≤ N) (hk : KeysIn w ao len cap M Y)
    (hg : ∀ k, k < len → w.cell? ⟨g, k * 2, none⟩ = some (.string (M k)) ∧ w.cell? ⟨g, k * 2 + 1, none⟩ = some (.int .i64 (Y k))) :
    Calls Try.prog 10 #[.slice (some ⟨g, 0, none⟩) N capg, .slice ao len cap] w fun e w' => TrueQ w e w' := by
  rcases hk with ⟨rfl, rfl, rfl⟩ | ⟨x, rfl, hm, hy⟩
  · go_enter Try.func10, Try.ntmps10
    go_wp2
    refine wp_loop_rounds 1 ?_
    rw [rounds_succ]
    go_wp2
    go_ret
    exact ⟨rfl, 0, rfl⟩
  · go_enter Try.func10, Try.ntmps10
    go_wp2_with fail
    go_loopw [5] (fun i wr => ∃ k nq : Nat, k ≤ len ∧ i = .int .i64 k ∧ wr = w.drewN nq) (fun i _ => len - (intOf i).toNat)
    case atStart => exact ⟨0, 0, Nat.zero_le _, rfl, rfl⟩
    case round =>
      obtain ⟨k, nq0, hk, rfl, hwr⟩ := hrel
      subst hwr
      by_cases hlt : k < len
      · obtain ⟨a0, a1⟩ := hg k hlt
        have b0 := hm k hlt
        have b1 := hy k hlt
        have hi0 : (0 : Int) ≤ (k : Int) := by omega
        have hi1 : (k : Int) < (len : Int) := by omega
        have hi2 : (k : Int) < (N : Int) := by omega
        go_wp2_with fail
        go_quiet (fail)
        go_wp2
        go_roundw
        case rel => exact ⟨k + 1, _, by omega, by go_num, rfl⟩
        case measure => simp [intOf]; omega
      · go_wp2
        go_ret
        exact ⟨rfl, _, rfl⟩

set_option maxHeartbeats 1000000 in
theorem run_any (g N capg len n : Nat) (a : ByteArray) (f : Int) (w : World) (hN : N = len + n) (hN' : N ≤ 262144) (hf : -9223372036854775808 ≤ f) (hmax : f + n ≤ 9223372036854775807)
    (hg : ∀ k, k < n → w.cell? ⟨g, (len + k) * 2, none⟩ = some (.string a) ∧ w.cell? ⟨g, (len + k) * 2 + 1, none⟩ = some (.int .i64 (f + k))) :
    Calls Try.prog 11 #[.slice (some ⟨g, 0, none⟩) N capg, .int .i64 len, .string a, .int .i64 f, .int .i64 n] w fun e w' => TrueQ w e w' := by
  have HN : Hid (N = len + n) := hN
  have h1 : (len : Int) ≤ (N : Int) := by omega
  have h2 : (n : Int) ≤ (N : Int) - (len : Int) := by omega
  clear hN
  go_enter Try.func11, Try.ntmps11
  go_wp2_with fail
  go_loop [11] (fun i => ∃ k : Nat, k ≤ n ∧ i = .int .i64 k) (fun i => n - (intOf i).toNat)
  case atStart => exact ⟨0, Nat.zero_le _, rfl⟩
  case round =>
    obtain ⟨k, hk, rfl⟩ := hrel
    by_cases hlt : k < n
    · obtain ⟨a0, a1⟩ := hg k hlt
      have hi0 : (0 : Int) ≤ (len : Int) + (k : Int) := by omega
      have hi2 : (len : Int) + (k : Int) < (N : Int) := by omega
      have hy0 : -9223372036854775808 ≤ f + (k : Int) := by omega
      have hy1 : f + (k : Int) ≤ 9223372036854775807 := by omega
      go_wp2
      go_round
      case rel => exact ⟨k + 1, by omega, by go_num⟩
      case measure => simp [intOf]; omega
    · go_wp2
      go_ret
      exact ⟨rfl, 0, rfl⟩

theorem run_any' (g capg len m : Nat) (a : ByteArray) (f : Int) (w : World) (hN' : len + (m + 1) ≤ 262144) (hf : -9223372036854775808 ≤ f) (hmax : f + m + 1 ≤ 9223372036854775807)
    (hg : ∀ k, k < m + 1 → w.cell? ⟨g, (len + k) * 2, none⟩ = some (.string a) ∧ w.cell? ⟨g, (len + k) * 2 + 1, none⟩ = some (.int .i64 (f + k))) :
    Calls Try.prog 11 #[.slice (some ⟨g, 0, none⟩) (len + (m + 1)) capg, .int .i64 len, .string a, .int .i64 f, .int .i64 ((m : Int) + 1)] w fun e w' => TrueQ w e w' := by
  have h := run_any g (len + (m + 1)) capg len (m + 1) a f w rfl hN' hf (by omega) hg
  rw [show ((m + 1 : Nat) : Int) = (m : Int) + 1 by omega] at h
  exact h

set_option maxHeartbeats 2000000 in
theorem closed_main (a : ByteArray) (f t : Int) (ao : Option Addr) (len cap : Nat) (M : Nat → ByteArray) (Y : Nat → Int) (w : World) (ha : a.size ≤ 65536) (hlen : len ≤ 65536) (hk : KeysIn w ao len cap M Y)
    (m : Nat) (hm : m < 65536) (em : t - f = m) (hf : -9223372036854775808 ≤ f) (ht : t < 9223372036854775807) :
    Calls Try.prog 3 #[.string a, .int .i64 f, .int .i64 t, .slice ao len cap] w fun e w' => e = .returned (.bool true) ∧ Below w.heap.size w w' := by
  have H : Hid (KeysIn w ao len cap M Y ∧ t - f = m) := ⟨hk, em⟩
  clear hk em
  go_enter Try.func3, Try.ntmps3
  go_wp2_with fail
  refine (zz5 a f t ao len cap M Y w (by unfold maxLen; omega) (by unfold maxLen; omega) H.out.1).mono ?_
  rintro e w' ⟨r, rfl, hw⟩
  obtain rfl := hw.symm
  clear hw
  cases r
  · go_wp2
    go_ret
    exact ⟨rfl, Below.refl _ _⟩
  go_wp2_with fail
  refine (keyBytes_any ao len cap M Y w (by unfold maxLen; omega) H.out.1).mono ?_
  rintro e w' ⟨z, rfl, hw⟩
  obtain rfl := hw.symm
  clear hw
  go_wp2_with fail
  · go_ret
    exact ⟨rfl, Below.refl _ _⟩
  refine (year_n f t m w hm H.out.2 ht).mono ?_
  rintro e w' ⟨rfl, hw⟩
  obtain rfl := hw.symm
  clear hw
  go_wp2_with fail
  refine (toKeys_any ao len cap (MM len M a) (YY len Y f) w hlen (keys_mm a f H.out.1)).mono ?_
  rintro e w1 ⟨rfl, ho, hb⟩
  have HO1 : Hid (w1.ownsRow w.heap.size 33 2 (.slice (some ⟨w.heap.size, 0, none⟩) len len) len (kcf (MM len M a) (YY len Y f) len) ∧ Below w.heap.size w w1) := ⟨ho, hb⟩
  clear ho hb
  go_wp2_with fail
  refine (app8 a f t (m + 1) len w.heap.size _ (MM len M a) (YY len Y f) w1 HO1.out.1 HO1.out.2.size (by omega) (by omega) (by have := H.out.2; omega) hf (by have := H.out.2; omega) (fun i _ => mm_at len M a i) (fun i _ => yy_at len Y f i)).mono ?_
  rintro e w2 ⟨g1, k1, rfl, ho, hb⟩
  have HO2 : Hid (w2.ownsRow w.heap.size 33 2 (.slice (some ⟨g1, 0, none⟩) (len + (m + 1)) k1) (len + (m + 1)) (kcf (MM len M a) (YY len Y f) (len + (m + 1))) ∧ Below w.heap.size w w2) := ⟨ho, HO1.out.2.trans hb⟩
  clear ho hb HO1
  go_wp2_with fail
  refine (prefix_any g1 (len + (m + 1)) k1 ao len cap (MM len M a) (YY len Y f) w2 (by omega) (by omega) (keys_mm a f (H.out.1.kept HO2.out.2 (Nat.le_refl _))) (fun k hk => own_key HO2.out.1 (by omega))).mono ?_
  rintro e w' ⟨rfl, nq1, rfl⟩
  go_wp2_with fail
  refine (run_any' g1 k1 len m a f _ (by omega) hf (by have := H.out.2; omega) (fun k hk => ?_)).mono ?_
  · have hc := own_key HO2.out.1 (show len + k < len + (m + 1) by omega)
    rw [mm_at, yy_at] at hc
    exact hc
  rintro e w' ⟨rfl, nq2, rfl⟩
  go_wp2
  go_ret
  exact ⟨rfl, HO2.out.2.trans ⟨rfl, rfl, rfl, Nat.le_refl _, fun _ _ => rfl⟩⟩

set_option maxHeartbeats 400000 in
theorem closed_zero (a : ByteArray) (f t : Int) (ao : Option Addr) (len cap : Nat) (M : Nat → ByteArray) (Y : Nat → Int) (w : World) (ha : a.size ≤ 65536) (hlen : len ≤ 65536) (hk : KeysIn w ao len cap M Y)
    (hf : -9223372036854775808 ≤ f) (hf' : f ≤ 9223372036854775807) (ht : -9223372036854775808 ≤ t) (ht' : t ≤ 9223372036854775807) (h : t < f ∨ 9223372036854775807 ≤ t ∨ 65536 ≤ t - f) :
    Calls Try.prog 3 #[.string a, .int .i64 f, .int .i64 t, .slice ao len cap] w fun e w' => e = .returned (.bool true) ∧ Below w.heap.size w w' := by
  have H : Hid (KeysIn w ao len cap M Y ∧ (t < f ∨ 9223372036854775807 ≤ t ∨ 65536 ≤ t - f)) := ⟨hk, h⟩
  clear hk h
  go_enter Try.func3, Try.ntmps3
  go_wp2_with fail
  refine (zz5 a f t ao len cap M Y w (by unfold maxLen; omega) (by unfold maxLen; omega) H.out.1).mono ?_
  rintro e w' ⟨r, rfl, hw⟩
  obtain rfl := hw.symm
  clear hw
  cases r
  · go_wp2
    go_ret
    exact ⟨rfl, Below.refl _ _⟩
  go_wp2_with fail
  refine (keyBytes_any ao len cap M Y w (by unfold maxLen; omega) H.out.1).mono ?_
  rintro e w' ⟨z, rfl, hw⟩
  obtain rfl := hw.symm
  clear hw
  go_wp2_with fail
  · go_ret
    exact ⟨rfl, Below.refl _ _⟩
  refine (year_zero f t w hf hf' ht ht' H.out.2).mono ?_
  rintro e w' ⟨rfl, hw⟩
  obtain rfl := hw.symm
  clear hw
  go_wp2
  go_ret
  exact ⟨rfl, Below.refl _ _⟩

set_option maxHeartbeats 400000 in
theorem closed_long (a : ByteArray) (f t : Int) (ao : Option Addr) (len cap : Nat) (M : Nat → ByteArray) (Y : Nat → Int) (w : World) (ha : a.size ≤ maxLen) (hlen : len ≤ maxLen) (hk : KeysIn w ao len cap M Y) (h : ¬ a.size ≤ 65536 ∨ a.size ≤ 65536 ∧ ¬ len ≤ 65536) :
    Calls Try.prog 3 #[.string a, .int .i64 f, .int .i64 t, .slice ao len cap] w fun e w' => e = .returned (.bool true) ∧ Below w.heap.size w w' := by
  have H : Hid (a.size ≤ maxLen ∧ len ≤ maxLen ∧ KeysIn w ao len cap M Y) := ⟨ha, hlen, hk⟩
  unfold maxLen at ha hlen
  clear hk
  rcases h with h | ⟨h, h'⟩
  all_goals
    go_enter Try.func3, Try.ntmps3
    go_wp2_with fail
    refine (zz5 a f t ao len cap M Y w H.out.1 H.out.2.1 H.out.2.2).mono ?_
    rintro e w' ⟨r, rfl, hw⟩
    obtain rfl := hw.symm
    clear hw
    cases r
    all_goals
      go_wp2
      go_ret
      exact ⟨rfl, Below.refl _ _⟩

theorem closed_walk (a : ByteArray) (f t : Int) (ao : Option Addr) (len cap : Nat) (M : Nat → ByteArray) (Y : Nat → Int) (w : World) (ha : a.size ≤ maxLen) (hlen : len ≤ maxLen) (hk : KeysIn w ao len cap M Y)
    (hf : -9223372036854775808 ≤ f) (hf' : f ≤ 9223372036854775807) (ht : -9223372036854775808 ≤ t) (ht' : t ≤ 9223372036854775807) :
    Calls Try.prog 3 #[.string a, .int .i64 f, .int .i64 t, .slice ao len cap] w fun e w' => e = .returned (.bool true) ∧ Below w.heap.size w w' := by
  rcases Classical.em (a.size ≤ 65536 ∧ len ≤ 65536) with ⟨h1, h2⟩ | h
  · rcases Classical.em (t < f ∨ 9223372036854775807 ≤ t ∨ 65536 ≤ t - f) with hz | hz
    · exact closed_zero a f t ao len cap M Y w h1 h2 hk hf hf' ht ht' hz
    · obtain ⟨m, em⟩ := Int.eq_ofNat_of_zero_le (show 0 ≤ t - f by omega)
      exact closed_main a f t ao len cap M Y w h1 h2 hk m (by omega) em hf (by omega)
  · exact closed_long a f t ao len cap M Y w ha hlen hk (by omega)
end Go.Proofs.Qxb6605943a
