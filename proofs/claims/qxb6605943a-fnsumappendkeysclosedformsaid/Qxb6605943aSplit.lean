import Derived.Test.Qxb6605943aApp
import Derived.Laws.StructEq
namespace Go.Proofs.Qxb6605943a
open Go.RowKit

/-- The keys of the whole row: those that came in, then one a year. -/
def MM (len : Nat) (M : Nat → ByteArray) (a : ByteArray) (k : Nat) : ByteArray := if k < len then M k else a
def YY (len : Nat) (Y : Nat → Int) (f : Int) (k : Nat) : Int := if k < len then Y k else f + (k - len : Nat)

theorem keys_mm {w : World} {ao : Option Addr} {len cap : Nat} {M : Nat → ByteArray} {Y : Nat → Int} (a : ByteArray) (f : Int) (h : KeysIn w ao len cap M Y) : KeysIn w ao len cap (MM len M a) (YY len Y f) := by
  rcases h with h | ⟨x, h, hm, hy⟩
  · exact .inl h
  · refine .inr ⟨x, h, fun k hk => ?_, fun k hk => ?_⟩
    · rw [hm k hk]; simp [MM, hk]
    · rw [hy k hk]; simp [YY, hk]

theorem mm_at (len : Nat) (M : Nat → ByteArray) (a : ByteArray) (i : Nat) : MM len M a (len + i) = a := by unfold MM; rw [if_neg (by omega)]
theorem yy_at (len : Nat) (Y : Nat → Int) (f : Int) (i : Nat) : YY len Y f (len + i) = f + i := by unfold YY; rw [if_neg (by omega), show len + i - len = i by omega]
theorem yy_at2 (len c1 : Nat) (Y : Nat → Int) (f d : Int) (h : d + 1 = f + c1) (i : Nat) : YY len Y f (len + c1 + i) = d + 1 + i := by
  rw [Nat.add_assoc, yy_at]
  omega
theorem mm_at2 (len c1 : Nat) (M : Nat → ByteArray) (a : ByteArray) (i : Nat) : MM len M a (len + c1 + i) = a := by rw [Nat.add_assoc, mm_at]

set_option maxHeartbeats 2000000 in
theorem split_main (a : ByteArray) (f d t : Int) (ao : Option Addr) (len cap : Nat) (M : Nat → ByteArray) (Y : Nat → Int) (w : World) (ha : a.size ≤ 65536) (hlen : len ≤ 65536) (hk : KeysIn w ao len cap M Y)
    (m c1 c2 : Nat) (hm : m < 65536) (em : t - f = m) (e1 : d + 1 = f + c1) (e2 : t = d + c2) (p1 : 0 < c1) (p2 : 0 < c2) (hf : -9223372036854775808 ≤ f) (ht : t < 9223372036854775807) :
    Calls Try.prog 4 #[.string a, .int .i64 f, .int .i64 d, .int .i64 t, .slice ao len cap] w fun e w' => e = .returned (.bool true) ∧ Below w.heap.size w w' := by
  have H : Hid (KeysIn w ao len cap M Y ∧ t - f = m ∧ d + 1 = f + c1 ∧ t = d + c2) := ⟨hk, em, e1, e2⟩
  have h1 : ¬ d < f := by omega
  have h2 : ¬ t ≤ d := by omega
  have hd2 : -9223372036854775808 ≤ d + 1 := by omega
  have hd3 : d + 1 ≤ 9223372036854775807 := by omega
  have hcc : c1 + c2 = m + 1 := by omega
  have HCC : Hid (c1 + c2 = m + 1) := hcc
  have hc1 : c1 ≤ 65536 := by omega
  have hc2 : c2 ≤ 65536 := by omega
  clear hk em e1 e2 hcc
  go_enter Try.func4, Try.ntmps4
  go_wp2_with fail
  refine (zz12 a f d t ao len cap M Y w (by unfold maxLen; omega) (by unfold maxLen; omega) H.out.1).mono ?_
  rintro e w' ⟨r, rfl, hw⟩
  obtain rfl := hw.symm
  clear hw
  cases r
  · go_wp2
    go_ret
    exact ⟨rfl, Below.refl _ _⟩
  go_wp2_with fail
  refine (keyBytes_any ao len cap M Y w (by unfold maxLen; omega) H.out.1).mono ?_
  rintro e w' ⟨z, rfl, hw⟩
  obtain rfl := hw.symm
  clear hw
  go_wp2_with fail
  · go_ret
    exact ⟨rfl, Below.refl _ _⟩
  refine (year_n f t m w hm H.out.2.1 ht).mono ?_
  rintro e w' ⟨rfl, hw⟩
  obtain rfl := hw.symm
  clear hw
  go_wp2_with fail
  refine (toKeys_any ao len cap (MM len M a) (YY len Y f) w hlen (keys_mm a f H.out.1)).mono ?_
  rintro e w1 ⟨rfl, ho, hb⟩
  have HO1 : Hid (w1.ownsRow w.heap.size 33 2 (.slice (some ⟨w.heap.size, 0, none⟩) len len) len (kcf (MM len M a) (YY len Y f) len) ∧ Below w.heap.size w w1) := ⟨ho, hb⟩
  clear ho hb
  go_wp2_with fail
  refine (app8 a f t (m + 1) len w.heap.size _ (MM len M a) (YY len Y f) w1 HO1.out.1 HO1.out.2.size (by omega) (by omega) (by have := H.out.2.1; omega) hf (by have := H.out.2.1; omega) (fun i _ => mm_at len M a i) (fun i _ => yy_at len Y f i)).mono ?_
  rintro e w2 ⟨g1, k1, rfl, ho, hb⟩
  have HO2 : Hid (w2.ownsRow w.heap.size 33 2 (.slice (some ⟨g1, 0, none⟩) (len + (m + 1)) k1) (len + (m + 1)) (kcf (MM len M a) (YY len Y f) (len + (m + 1))) ∧ Below w.heap.size w w2) := ⟨ho, HO1.out.2.trans hb⟩
  clear ho hb HO1
  go_wp2_with fail
  refine (toKeys_any ao len cap (MM len M a) (YY len Y f) w2 hlen (keys_mm a f (H.out.1.kept HO2.out.2 (Nat.le_refl _)))).mono ?_
  rintro e w3 ⟨rfl, ho, hb⟩
  have HO3 : Hid (w3.ownsRow w2.heap.size 33 2 (.slice (some ⟨w2.heap.size, 0, none⟩) len len) len (kcf (MM len M a) (YY len Y f) len) ∧ Below w2.heap.size w2 w3) := ⟨ho, hb⟩
  clear ho hb
  go_wp2_with fail
  refine (app8 a f d c1 len w2.heap.size _ (MM len M a) (YY len Y f) w3 HO3.out.1 HO3.out.2.size (by omega) (by omega) H.out.2.2.1 hf (by have := H.out.2.2.1; omega) (fun i _ => mm_at len M a i) (fun i _ => yy_at len Y f i)).mono ?_
  rintro e w4 ⟨g2, k2, rfl, ho, hb⟩
  have HO4 : Hid (w4.ownsRow w2.heap.size 33 2 (.slice (some ⟨g2, 0, none⟩) (len + c1) k2) (len + c1) (kcf (MM len M a) (YY len Y f) (len + c1)) ∧ Below w2.heap.size w2 w4) := ⟨ho, HO3.out.2.trans hb⟩
  clear ho hb HO3
  go_wp2_with fail
  have hA := app8 a (d + 1) t c2 (len + c1) w2.heap.size _ (MM len M a) (YY len Y f) w4 HO4.out.1 HO4.out.2.size (by omega) (by omega) (by have := H.out.2.2.2; omega) hd2 (by have := H.out.2.2.2; omega) (fun i _ => mm_at2 len c1 M a i) (fun i _ => yy_at2 len c1 Y f d H.out.2.2.1 i)
  rw [show len + c1 + c2 = len + (m + 1) by have := HCC.out; omega] at hA
  refine hA.mono ?_
  clear hA
  rintro e w5 ⟨g3, k3, rfl, ho, hb⟩
  have HO5 : Hid (w5.ownsRow w2.heap.size 33 2 (.slice (some ⟨g3, 0, none⟩) (len + (m + 1)) k3) (len + (m + 1)) (kcf (MM len M a) (YY len Y f) (len + (m + 1))) ∧ Below w2.heap.size w2 w5) := ⟨ho, HO4.out.2.trans hb⟩
  have HO6 : Hid (w5.ownsRow w.heap.size 33 2 (.slice (some ⟨g1, 0, none⟩) (len + (m + 1)) k1) (len + (m + 1)) (kcf (MM len M a) (YY len Y f) (len + (m + 1))) ∧ Below w.heap.size w w5) := ⟨own_kept HO2.out.1 HO5.out.2 (Nat.le_refl _), HO2.out.2.trans (HO5.out.2.mono HO2.out.2.size)⟩
  clear ho hb HO4 HO2
  go_wp2_with fail
  go_loopw [14] (fun i wr => ∃ k nq : Nat, k ≤ len + (m + 1) ∧ i = .int .i64 k ∧ wr = w5.drewN nq) (fun i _ => len + (m + 1) - (intOf i).toNat)
  case atStart => exact ⟨0, 0, Nat.zero_le _, rfl, rfl⟩
  case round =>
    obtain ⟨k, nq0, hk, rfl, hwr⟩ := hrel
    subst hwr
    by_cases hlt : k < len + (m + 1)
    · obtain ⟨a0, a1⟩ := own_key HO6.out.1 hlt
      obtain ⟨b0, b1⟩ := own_key HO5.out.1 hlt
      have hi0 : (0 : Int) ≤ (k : Int) := by omega
      have hi1 : (k : Int) < ((len + (m + 1) : Nat) : Int) := by omega
      generalize MM len M a k = mk at a0 b0
      generalize YY len Y f k = yk at a1 b1
      go_wp2_with fail
      go_quiet (fail)
      go_wp2
      go_roundw
      case rel => exact ⟨k + 1, _, by omega, by go_num, rfl⟩
      case measure => simp [intOf]; omega
    · go_wp2
      go_ret
      exact ⟨rfl, HO6.out.2.trans ⟨rfl, rfl, rfl, Nat.le_refl _, fun _ _ => rfl⟩⟩

set_option maxHeartbeats 400000 in
theorem split_zero (a : ByteArray) (f d t : Int) (ao : Option Addr) (len cap : Nat) (M : Nat → ByteArray) (Y : Nat → Int) (w : World) (ha : a.size ≤ 65536) (hlen : len ≤ 65536) (hk : KeysIn w ao len cap M Y)
    (hf : -9223372036854775808 ≤ f) (hf' : f ≤ 9223372036854775807) (ht : -9223372036854775808 ≤ t) (ht' : t ≤ 9223372036854775807) (h : t < f ∨ 9223372036854775807 ≤ t ∨ 65536 ≤ t - f) :
    Calls Try.prog 4 #[.string a, .int .i64 f, .int .i64 d, .int .i64 t, .slice ao len cap] w fun e w' => e = .returned (.bool true) ∧ Below w.heap.size w w' := by
  have H : Hid (KeysIn w ao len cap M Y) := hk
  have HH : Hid (t < f ∨ 9223372036854775807 ≤ t ∨ 65536 ≤ t - f) := h
  clear hk h
  go_enter Try.func4, Try.ntmps4
  go_wp2_with fail
  refine (zz12 a f d t ao len cap M Y w (by unfold maxLen; omega) (by unfold maxLen; omega) H.out).mono ?_
  rintro e w' ⟨r, rfl, hw⟩
  obtain rfl := hw.symm
  clear hw
  cases r
  · go_wp2
    go_ret
    exact ⟨rfl, Below.refl _ _⟩
  go_wp2_with fail
  refine (keyBytes_any ao len cap M Y w (by unfold maxLen; omega) H.out).mono ?_
  rintro e w' ⟨z, rfl, hw⟩
  obtain rfl := hw.symm
  clear hw
  go_wp2_with fail
  · go_ret
    exact ⟨rfl, Below.refl _ _⟩
  refine (year_zero f t w hf hf' ht ht' HH.out).mono ?_
  rintro e w' ⟨rfl, hw⟩
  obtain rfl := hw.symm
  clear hw
  go_wp2
  go_ret
  exact ⟨rfl, Below.refl _ _⟩

set_option maxHeartbeats 400000 in
theorem split_mid (a : ByteArray) (f d t : Int) (ao : Option Addr) (len cap : Nat) (M : Nat → ByteArray) (Y : Nat → Int) (w : World) (ha : a.size ≤ 65536) (hlen : len ≤ 65536) (hk : KeysIn w ao len cap M Y)
    (m : Nat) (hm : m < 65536) (em : t - f = m) (ht : t < 9223372036854775807) (h : d < f ∨ ¬ d < f ∧ t ≤ d) :
    Calls Try.prog 4 #[.string a, .int .i64 f, .int .i64 d, .int .i64 t, .slice ao len cap] w fun e w' => e = .returned (.bool true) ∧ Below w.heap.size w w' := by
  have H : Hid (KeysIn w ao len cap M Y) := hk
  have HE : Hid (t - f = m) := em
  clear hk em
  rcases h with h | ⟨h, h'⟩
  all_goals
    go_enter Try.func4, Try.ntmps4
    go_wp2_with fail
    refine (zz12 a f d t ao len cap M Y w (by unfold maxLen; omega) (by unfold maxLen; omega) H.out).mono ?_
    rintro e w' ⟨r, rfl, hw⟩
    obtain rfl := hw.symm
    clear hw
    cases r
    · go_wp2
      go_ret
      exact ⟨rfl, Below.refl _ _⟩
    go_wp2_with fail
    refine (keyBytes_any ao len cap M Y w (by unfold maxLen; omega) H.out).mono ?_
    rintro e w' ⟨z, rfl, hw⟩
    obtain rfl := hw.symm
    clear hw
    go_wp2_with fail
    · go_ret
      exact ⟨rfl, Below.refl _ _⟩
    refine (year_n f t m w hm HE.out ht).mono ?_
    rintro e w' ⟨rfl, hw⟩
    obtain rfl := hw.symm
    clear hw
    go_wp2
    go_ret
    exact ⟨rfl, Below.refl _ _⟩

set_option maxHeartbeats 400000 in
theorem split_long (a : ByteArray) (f d t : Int) (ao : Option Addr) (len cap : Nat) (M : Nat → ByteArray) (Y : Nat → Int) (w : World) (ha : a.size ≤ maxLen) (hlen : len ≤ maxLen) (hk : KeysIn w ao len cap M Y) (h : ¬ a.size ≤ 65536 ∨ a.size ≤ 65536 ∧ ¬ len ≤ 65536) :
    Calls Try.prog 4 #[.string a, .int .i64 f, .int .i64 d, .int .i64 t, .slice ao len cap] w fun e w' => e = .returned (.bool true) ∧ Below w.heap.size w w' := by
  have H : Hid (a.size ≤ maxLen ∧ len ≤ maxLen ∧ KeysIn w ao len cap M Y) := ⟨ha, hlen, hk⟩
  unfold maxLen at ha hlen
  clear hk
  rcases h with h | ⟨h, h'⟩
  all_goals
    go_enter Try.func4, Try.ntmps4
    go_wp2_with fail
    refine (zz12 a f d t ao len cap M Y w H.out.1 H.out.2.1 H.out.2.2).mono ?_
    rintro e w' ⟨r, rfl, hw⟩
    obtain rfl := hw.symm
    clear hw
    cases r
    all_goals
      go_wp2
      go_ret
      exact ⟨rfl, Below.refl _ _⟩

theorem split_walk (a : ByteArray) (f d t : Int) (ao : Option Addr) (len cap : Nat) (M : Nat → ByteArray) (Y : Nat → Int) (w : World) (ha : a.size ≤ maxLen) (hlen : len ≤ maxLen) (hk : KeysIn w ao len cap M Y)
    (hf : -9223372036854775808 ≤ f) (hf' : f ≤ 9223372036854775807) (ht : -9223372036854775808 ≤ t) (ht' : t ≤ 9223372036854775807) :
    Calls Try.prog 4 #[.string a, .int .i64 f, .int .i64 d, .int .i64 t, .slice ao len cap] w fun e w' => e = .returned (.bool true) ∧ Below w.heap.size w w' := by
  rcases Classical.em (a.size ≤ 65536 ∧ len ≤ 65536) with ⟨h1, h2⟩ | h
  · rcases Classical.em (t < f ∨ 9223372036854775807 ≤ t ∨ 65536 ≤ t - f) with hz | hz
    · exact split_zero a f d t ao len cap M Y w h1 h2 hk hf hf' ht ht' hz
    · obtain ⟨m, em⟩ := Int.eq_ofNat_of_zero_le (show 0 ≤ t - f by omega)
      rcases Classical.em (d < f ∨ ¬ d < f ∧ t ≤ d) with hd | hd
      · exact split_mid a f d t ao len cap M Y w h1 h2 hk m (by omega) em (by omega) hd
      · obtain ⟨c1, e1⟩ := Int.eq_ofNat_of_zero_le (show 0 ≤ d + 1 - f by omega)
        obtain ⟨c2, e2⟩ := Int.eq_ofNat_of_zero_le (show 0 ≤ t - d by omega)
        exact split_main a f d t ao len cap M Y w h1 h2 hk m c1 c2 (by omega) em (by omega) (by omega) (by omega) (by omega) hf (by omega)
  · exact split_long a f d t ao len cap M Y w ha hlen hk (by omega)
end Go.Proofs.Qxb6605943a
