import Derived.Test.Qxb6605920aFmtTokens
import Derived.WalkLawsBesides
namespace Go.Proofs.Qxb6605920aFmt
open Go.RowKit Go.Extern.Stop Go.Stop Go.Extern

theorem zz6 (a b c d : ByteArray) (w : World) (ha : a.size ≤ maxLen) (hb : b.size ≤ maxLen) (hc : c.size ≤ maxLen) (hd : d.size ≤ maxLen) :
    Calls Tryf.prog 6 #[.string a, .string b, .string c, .string d] w fun e w' => ∃ r : Bool, e = .returned (.bool r) ∧ w' = w := by
  unfold maxLen at ha hb hc hd
  go_enter Tryf.func6, Tryf.ntmps6
  go_wp2
  all_goals
    go_ret
    exact ⟨_, rfl, rfl⟩

theorem below2 (w : World) (o1 o2 : Obj) (w' : World) (h : Below ((w.alloc o1).alloc o2).heap.size ((w.alloc o1).alloc o2) w') : Hid (Below w.heap.size w w') :=
  (((Below.refl _ _).alloc (Nat.le_refl _) o1).alloc (by simp) o2).trans (h.mono (by simp; omega))

theorem below_then {w w1 w2 : World} (h : Hid (Below w.heap.size w w1)) (k : Below w1.heap.size w1 w2) (hz : w.heap.size ≤ w1.heap.size) : Hid (Below w.heap.size w w2) := h.out.trans (k.mono hz)

theorem way (te en ev : ByteArray) : ((te.toList == en.toList) = true ∧ ev.toList.isEmpty = false) ∨ ((te.toList == en.toList) = false ∨ (te.toList == en.toList) = true ∧ ev.toList.isEmpty = true) := by
  cases (te.toList == en.toList) <;> cases ev.toList.isEmpty <;> simp

set_option maxHeartbeats 1000000 in
theorem admin_walk (F : Interp) (al te en ev : ByteArray) (w : World) (hF : F.answers w.tape) (h0 : al.size ≤ maxLen) (h1 : te.size ≤ maxLen) (h2 : en.size ≤ maxLen) (h3 : ev.size ≤ maxLen) :
    Calls Tryf.prog 3 #[.string al, .string te, .string en, .string ev] w fun e w' => e = .returned (.bool true) ∧ Below w.heap.size w w' := by
  have H : Hid (al.size ≤ maxLen ∧ te.size ≤ maxLen ∧ en.size ≤ maxLen ∧ ev.size ≤ maxLen) := ⟨h0, h1, h2, h3⟩
  unfold maxLen at h0 h1 h2 h3
  cases ha : al.toList.isEmpty with
  | true =>
    go_enter Tryf.func3, Tryf.ntmps3
    go_wp2_with fail
    refine (zz6 al te en ev w H.out.1 H.out.2.1 H.out.2.2.1 H.out.2.2.2).mono ?_
    rintro e w' ⟨r, rfl, hw⟩
    obtain rfl := hw.symm
    cases r
    all_goals
      go_wp2
    all_goals
      go_ret
      exact ⟨rfl, Below.refl _ _⟩
  | false =>
    cases ht : te.toList.isEmpty with
    | true =>
      go_enter Tryf.func3, Tryf.ntmps3
      go_wp2_with fail
      refine (zz6 al te en ev w H.out.1 H.out.2.1 H.out.2.2.1 H.out.2.2.2).mono ?_
      rintro e w' ⟨r, rfl, hw⟩
      obtain rfl := hw.symm
      cases r
      all_goals
        go_wp2
      all_goals
        go_ret
        exact ⟨rfl, Below.refl _ _⟩
    | false =>
      go_enter Tryf.func3, Tryf.ntmps3
      go_wp2_with fail
      refine (zz6 al te en ev w H.out.1 H.out.2.1 H.out.2.2.1 H.out.2.2.2).mono ?_
      rintro e w' ⟨r, rfl, hw⟩
      obtain rfl := hw.symm
      cases r
      · go_wp2
        go_ret
        exact ⟨rfl, Below.refl _ _⟩
      · go_wp2_with fail
        · go_ret
          exact ⟨rfl, Below.refl _ _⟩
        · go_ret
          exact ⟨rfl, Below.refl _ _⟩
        · go_ret
          exact ⟨rfl, Below.refl _ _⟩
        · go_ret
          exact ⟨rfl, Below.refl _ _⟩
        rcases way te en ev with ⟨he, hv⟩ | hn
        · refine (admin_yes al te en ev (w.heap.size + 1) _ (by simp) (by go_simp) (by go_simp) ha he hv).mono ?_
          rintro e w1 ⟨rfl, hb⟩
          have c10 : w1.cell? ⟨w.heap.size + 1, 10, none⟩ = some (.pointer (some ⟨w.heap.size, 0, none⟩)) := by rw [hb.cell (by simp)]; go_simp
          have c1 : w1.cell? ⟨w.heap.size, 1, none⟩ = some (.string te) := by rw [hb.cell (by simp; omega)]; go_simp
          have hz : w.heap.size + 1 < w1.heap.size := by have := hb.size; simp at this; omega
          have HB1 := below2 w _ _ w1 hb
          clear hb
          go_wp2_with fail
          refine (alerts_yes te en ev (w.heap.size + 1) w.heap.size _ hz (by omega) c10 c1 ht he hv).mono ?_
          rintro e w2 ⟨rfl, hb⟩
          have HB2 := below_then HB1 hb (by omega)
          clear hb HB1 c10 c1 hz
          go_wp2_with fail
          refine (env_yes en ev te _ he).mono ?_
          rintro e w' ⟨rfl, hw⟩
          obtain rfl := hw.symm
          go_wp2_with fail
          go_quiet (fail)
          go_wp2
          go_ret
          exact ⟨rfl, HB2.out.trans ⟨rfl, rfl, rfl, Nat.le_refl _, fun _ _ => rfl⟩⟩
        · refine (admin_no F al te en ev (w.heap.size + 1) _ (by exact hF) (by simp) (by go_simp) (by go_simp) ha hn).mono ?_
          rintro e w1 ⟨⟨a1, rfl⟩, hb⟩
          have c10 : w1.cell? ⟨w.heap.size + 1, 10, none⟩ = some (.pointer (some ⟨w.heap.size, 0, none⟩)) := by rw [hb.cell (by simp)]; go_simp
          have c1 : w1.cell? ⟨w.heap.size, 1, none⟩ = some (.string te) := by rw [hb.cell (by simp; omega)]; go_simp
          have hz : w.heap.size + 1 < w1.heap.size := by have := hb.size; simp at this; omega
          have HB1 := below2 w _ _ w1 hb
          have hF1 : F.answers w1.tape := by rw [HB1.out.tape]; exact hF
          clear hb
          go_wp2_with fail
          refine (alerts_no F te en ev (w.heap.size + 1) w.heap.size _ (by exact hF1) hz (by omega) c10 c1 ht hn).mono ?_
          rintro e w2 ⟨⟨a2, rfl⟩, hb⟩
          have HB2 := below_then HB1 hb (by omega)
          clear hb HB1 c10 c1 hz hF1
          go_wp2_with fail
          rcases hn with he | ⟨he, hv⟩
          · refine (env_no en ev te _ he).mono ?_
            rintro e w' ⟨rfl, hw⟩
            obtain rfl := hw.symm
            go_wp2_with fail
            go_quiet (fail)
            go_wp2
            go_ret
            exact ⟨rfl, HB2.out.trans ⟨rfl, rfl, rfl, Nat.le_refl _, fun _ _ => rfl⟩⟩
          · refine (env_yes en ev te _ he).mono ?_
            rintro e w' ⟨rfl, hw⟩
            obtain rfl := hw.symm
            go_wp2_with fail
            go_quiet (fail)
            go_wp2
            go_ret
            exact ⟨rfl, HB2.out.trans ⟨rfl, rfl, rfl, Nat.le_refl _, fun _ _ => rfl⟩⟩
end Go.Proofs.Qxb6605920aFmt
