import Derived.Test.Qxb6605920aFmtProblem
namespace Go.Proofs.Qxb6605920aFmt
open Go.RowKit Go.Extern.Stop Go.Stop Go.Extern

theorem zz10 (h : Bool) (a b c : ByteArray) (w : World) (ha : a.size ≤ maxLen) (hb : b.size ≤ maxLen) (hc : c.size ≤ maxLen) :
    Calls Tryf.prog 10 #[.bool h, .string a, .string b, .string c] w fun e w' => ∃ r : Bool, e = .returned (.bool r) ∧ w' = w := by
  unfold maxLen at ha hb hc
  go_enter Tryf.func10, Tryf.ntmps10
  go_wp2
  all_goals
    go_ret
    exact ⟨_, rfl, rfl⟩

theorem says_true {C : Prop} {w : World} {e : Ending} {w' : World} (h : Says C w e w') (hc : C) : e = .returned (.bool true) ∧ w = w' := by
  obtain ⟨r, rfl, hr, rfl⟩ := h
  exact ⟨by rw [hr.2 hc], rfl⟩
theorem says_false {C : Prop} {w : World} {e : Ending} {w' : World} (h : Says C w e w') (hc : ¬ C) : e = .returned (.bool false) ∧ w = w' := by
  obtain ⟨r, rfl, hr, rfl⟩ := h
  cases r
  · exact ⟨rfl, rfl⟩
  · exact absurd (hr.1 rfl) hc

/-- The whole of the law behind its bounds. -/
def Bounds (u p v : ByteArray) : Prop := u.size ≤ 262144 ∧ p.size ≤ 262144 ∧ v.size ≤ 262144

theorem sz {n : Nat} (h : n ≤ 262144) : n ≤ maxLen := by unfold maxLen; omega

set_option maxHeartbeats 1000000 in
theorem table_no (F : Interp) (u p v : ByteArray) (w : World) (hF : F.answers w.tape) (hb : Bounds u p v) :
    Calls Tryf.prog 4 #[.bool false, .string u, .string p, .string v] w fun e w' => e = .returned (.bool true) ∧ Below w.heap.size w w' := by
  have H : Hid (F.answers w.tape ∧ Bounds u p v) := ⟨hF, hb⟩
  obtain ⟨hu, hp, hv⟩ := hb
  cases hemp : v.toList.isEmpty with
  | false =>
    go_enter Tryf.func4, Tryf.ntmps4
    go_wp2_with fail
    refine (zz10 false u p v w (sz H.out.2.1) (sz H.out.2.2.1) (sz H.out.2.2.2)).mono ?_
    rintro e w' ⟨r, rfl, hw⟩
    obtain rfl := hw.symm
    clear hw
    cases r
    · go_wp2
      go_ret
      exact ⟨rfl, Below.refl _ _⟩
    go_wp2_with fail
    refine (new_any _).mono ?_
    rintro e w1 ⟨rfl, hc, hbel⟩
    have HC : Hid _ := hc
    have HB : Hid _ := hbel
    clear hc hbel
    go_wp2_with fail
    refine (req_full _ p v _ hemp).mono ?_
    rintro e w' ⟨rfl, hw⟩
    obtain rfl := hw.symm
    clear hw
    go_wp2_with fail
    refine (count_any _ _ _ _ _ HC.out).mono ?_
    rintro e w' ⟨rfl, hw⟩
    obtain rfl := hw.symm
    clear hw
    go_wp2
    go_ret
    exact ⟨rfl, HB.out⟩
  | true =>
    go_enter Tryf.func4, Tryf.ntmps4
    go_wp2_with fail
    refine (zz10 false u p v w (sz H.out.2.1) (sz H.out.2.2.1) (sz H.out.2.2.2)).mono ?_
    rintro e w' ⟨r, rfl, hw⟩
    obtain rfl := hw.symm
    clear hw
    cases r
    · go_wp2
      go_ret
      exact ⟨rfl, Below.refl _ _⟩
    go_wp2_with fail
    refine (new_any _).mono ?_
    rintro e w1 ⟨rfl, hc, hbel⟩
    have HC : Hid _ := hc
    have HB : Hid (Below w.heap.size w w1) := hbel
    clear hc hbel
    go_wp2_with fail
    refine (req_add F _ p v _ 0 _ _ (by rw [HB.out.tape]; exact H.out.1) (sz H.out.2.2.1) HC.out (by omega) (cov_none p) hemp).mono ?_
    rintro e w2 ⟨rfl, hc2, hbel⟩
    have HC2 : Hid _ := hc2
    have HB2 : Hid (Below w.heap.size w w2) := HB.out.trans hbel
    clear hc2 hbel
    go_wp2_with fail
    refine (count_any _ _ _ _ _ HC2.out).mono ?_
    rintro e w' ⟨rfl, hw⟩
    obtain rfl := hw.symm
    clear hw
    go_wp2
    go_ret
    exact ⟨rfl, HB2.out⟩

set_option maxHeartbeats 1000000 in
theorem table_yes (F : Interp) (u p v : ByteArray) (w : World) (hF : F.answers w.tape) (hb : Bounds u p v) :
    Calls Tryf.prog 4 #[.bool true, .string u, .string p, .string v] w fun e w' => e = .returned (.bool true) ∧ Below w.heap.size w w' := by
  have H : Hid (F.answers w.tape ∧ Bounds u p v) := ⟨hF, hb⟩
  obtain ⟨hu, hp, hv⟩ := hb
  cases hemp : v.toList.isEmpty with
  | false =>
    go_enter Tryf.func4, Tryf.ntmps4
    go_wp2_with fail
    refine (zz10 true u p v w (sz H.out.2.1) (sz H.out.2.2.1) (sz H.out.2.2.2)).mono ?_
    rintro e w' ⟨r, rfl, hw⟩
    obtain rfl := hw.symm
    clear hw
    cases r
    · go_wp2
      go_ret
      exact ⟨rfl, Below.refl _ _⟩
    go_wp2_with fail
    refine (new_any _).mono ?_
    rintro e w0 ⟨rfl, _, hbel⟩
    have HB0 : Hid (Below w.heap.size w w0) := hbel
    clear hbel
    go_wp2_with fail
    refine (new_unread u _).mono ?_
    rintro e w1 ⟨rfl, hc, hbel⟩
    have HC : Hid _ := hc
    have HB : Hid (Below w.heap.size w w1) := HB0.out.trans (hbel.mono HB0.out.size)
    have hz0 : w.heap.size ≤ w0.heap.size := HB0.out.size
    clear hc hbel
    go_wp2_with fail
    refine (req_full _ p v _ hemp).mono ?_
    rintro e w' ⟨rfl, hw⟩
    obtain rfl := hw.symm
    clear hw
    go_wp2_with fail
    refine (count_any _ _ _ _ _ HC.out).mono ?_
    rintro e w' ⟨rfl, hw⟩
    obtain rfl := hw.symm
    clear hw
    go_wp2
    go_ret
    exact ⟨rfl, HB.out⟩
  | true =>
    rcases Classical.em (Under u p) with hun | hun
    · have HU : Hid (Under u p) := hun
      clear hun
      go_enter Tryf.func4, Tryf.ntmps4
      go_wp2_with fail
      refine (zz10 true u p v w (sz H.out.2.1) (sz H.out.2.2.1) (sz H.out.2.2.2)).mono ?_
      rintro e w' ⟨r, rfl, hw⟩
      obtain rfl := hw.symm
      clear hw
      cases r
      · go_wp2
        go_ret
        exact ⟨rfl, Below.refl _ _⟩
      go_wp2_with fail
      refine (new_any _).mono ?_
      rintro e w0 ⟨rfl, _, hbel⟩
      have HB0 : Hid (Below w.heap.size w w0) := hbel
      clear hbel
      go_wp2_with fail
      refine (new_unread u _).mono ?_
      rintro e w1 ⟨rfl, hc, hbel⟩
      have HC : Hid _ := hc
      have HB : Hid (Below w.heap.size w w1) := HB0.out.trans (hbel.mono HB0.out.size)
      have hz0 : w.heap.size ≤ w0.heap.size := HB0.out.size
      clear hc hbel
      go_wp2_with fail
      refine (req_cov _ p v _ 0 _ _ (sz H.out.2.2.1) HC.out ((cov_iff_under u p).2 HU.out) hemp).mono ?_
      rintro e w' ⟨rfl, hw⟩
      obtain rfl := hw.symm
      clear hw
      go_wp2_with fail
      refine (under_any u p _ (sz H.out.2.1) (sz H.out.2.2.1)).mono ?_
      intro e w' hs
      obtain ⟨rfl, rfl⟩ := says_true hs HU.out
      clear hs
      go_wp2_with fail
      refine (count_any _ _ _ _ _ HC.out).mono ?_
      rintro e w' ⟨rfl, hw⟩
      obtain rfl := hw.symm
      clear hw
      go_wp2
      go_ret
      exact ⟨rfl, HB.out⟩
    · have HU : Hid (¬ Under u p) := hun
      clear hun
      go_enter Tryf.func4, Tryf.ntmps4
      go_wp2_with fail
      refine (zz10 true u p v w (sz H.out.2.1) (sz H.out.2.2.1) (sz H.out.2.2.2)).mono ?_
      rintro e w' ⟨r, rfl, hw⟩
      obtain rfl := hw.symm
      clear hw
      cases r
      · go_wp2
        go_ret
        exact ⟨rfl, Below.refl _ _⟩
      go_wp2_with fail
      refine (new_any _).mono ?_
      rintro e w0 ⟨rfl, _, hbel⟩
      have HB0 : Hid (Below w.heap.size w w0) := hbel
      clear hbel
      go_wp2_with fail
      refine (new_unread u _).mono ?_
      rintro e w1 ⟨rfl, hc, hbel⟩
      have HC : Hid _ := hc
      have HB : Hid (Below w.heap.size w w1) := HB0.out.trans (hbel.mono HB0.out.size)
      have hz0 : w.heap.size ≤ w0.heap.size := HB0.out.size
      clear hc hbel
      go_wp2_with fail
      refine (req_add F _ p v _ 0 _ _ (by rw [HB.out.tape]; exact H.out.1) (sz H.out.2.2.1) HC.out (by omega) (fun h => HU.out ((cov_iff_under u p).1 h)) hemp).mono ?_
      rintro e w2 ⟨rfl, hc2, hbel⟩
      have HC2 : Hid _ := hc2
      have HB2 : Hid (Below w.heap.size w w2) := HB.out.trans (hbel.mono (by omega))
      clear hc2 hbel
      go_wp2_with fail
      refine (under_any u p _ (sz H.out.2.1) (sz H.out.2.2.1)).mono ?_
      intro e w' hs
      obtain ⟨rfl, rfl⟩ := says_false hs HU.out
      clear hs
      go_wp2_with fail
      refine (count_any _ _ _ _ _ HC2.out).mono ?_
      rintro e w' ⟨rfl, hw⟩
      obtain rfl := hw.symm
      clear hw
      go_wp2
      go_ret
      exact ⟨rfl, HB2.out⟩

set_option maxHeartbeats 400000 in
theorem table_long (h : Bool) (u p v : ByteArray) (w : World) (hu : u.size ≤ maxLen) (hp : p.size ≤ maxLen) (hv : v.size ≤ maxLen) (hb : ¬ Bounds u p v) :
    Calls Tryf.prog 4 #[.bool h, .string u, .string p, .string v] w fun e w' => e = .returned (.bool true) ∧ Below w.heap.size w w' := by
  have H : Hid (u.size ≤ maxLen ∧ p.size ≤ maxLen ∧ v.size ≤ maxLen) := ⟨hu, hp, hv⟩
  have hor : ¬ u.size ≤ 262144 ∨ u.size ≤ 262144 ∧ (¬ p.size ≤ 262144 ∨ p.size ≤ 262144 ∧ ¬ v.size ≤ 262144) := by unfold Bounds at hb; omega
  clear hb
  unfold maxLen at hu hp hv
  rcases hor with h1 | ⟨h1, h2 | ⟨h2, h3⟩⟩
  all_goals
    go_enter Tryf.func4, Tryf.ntmps4
    go_wp2_with fail
    refine (zz10 h u p v w H.out.1 H.out.2.1 H.out.2.2).mono ?_
    rintro e w' ⟨r, rfl, hw⟩
    obtain rfl := hw.symm
    clear hw
    cases r
    all_goals
      go_wp2
      go_ret
      exact ⟨rfl, Below.refl _ _⟩

theorem table_walk (F : Interp) (h : Bool) (u p v : ByteArray) (w : World) (hF : F.answers w.tape) (hu : u.size ≤ maxLen) (hp : p.size ≤ maxLen) (hv : v.size ≤ maxLen) :
    Calls Tryf.prog 4 #[.bool h, .string u, .string p, .string v] w fun e w' => e = .returned (.bool true) ∧ Below w.heap.size w w' := by
  rcases Classical.em (Bounds u p v) with hb | hb
  · cases h
    · exact table_no F u p v w hF hb
    · exact table_yes F u p v w hF hb
  · exact table_long h u p v w hu hp hv hb
end Go.Proofs.Qxb6605920aFmt
