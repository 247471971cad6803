import Derived.Test.Qxb6605920aFmtScriptParts
namespace Go.Proofs.Qxb6605920aFmt
open Go.RowKit Go.Extern.Stop Go.Stop Go.Extern

set_option maxHeartbeats 2000000 in
theorem script_false (F : Interp) (u : ByteArray) (x : Addr) (len cap : Nat) (P V : Nat → ByteArray) (w : World) (hF : F.answers w.tape) (hu : u.size ≤ 262144) (hlen : len ≤ 4096)
    (hp : ∀ k, k < len → w.cell? (x.add (k * 2)) = some (.string (P k))) (hv : ∀ k, k < len → w.cell? ⟨(x.add (k * 2)).block, (x.add (k * 2)).off + 1, none⟩ = some (.string (V k))) (hps : ∀ k, k < len → (P k).size ≤ maxLen) :
    Calls Tryf.prog 5 #[.bool false, .string u, .slice (some x) len cap] w fun e w' => e = .returned (.bool true) ∧ Below w.heap.size w w' := by
  have hneq := fun w => run_neq_slice_nil_any (P := Tryf.prog) w 49 52 (some x) len cap 0 0 Tryf.underlying49
  simp only [Option.isNone_some, Bool.not_false] at hneq
  have H : Hid (F.answers w.tape ∧ u.size ≤ maxLen ∧ len ≤ maxLen ∧ (∀ k, k < len → w.cell? (x.add (k * 2)) = some (.string (P k))) ∧ (∀ k, k < len → w.cell? ⟨(x.add (k * 2)).block, (x.add (k * 2)).off + 1, none⟩ = some (.string (V k))) ∧ ∀ k, k < len → (P k).size ≤ maxLen) :=
    ⟨hF, by unfold maxLen; omega, by unfold maxLen; omega, hp, hv, hps⟩
  clear hps hF
  go_enter Tryf.func5, Tryf.ntmps5
  go_wp2_with fail
  refine (zz16 false u x len cap P V w H.out.2.1 H.out.2.2.1 H.out.2.2.2.1 H.out.2.2.2.2.1).mono ?_
  rintro e w' ⟨r, rfl, hw⟩
  obtain rfl := hw.symm
  clear hw
  cases r
  · go_wp2
    go_ret
    exact ⟨rfl, Below.refl _ _⟩
  go_wp2_with fail
  go_loopw [7, 8] (fun s i wr => ∃ k nq : Nat, ∃ z : Int, k ≤ len ∧ i = .int .i64 k ∧ s = .int .i64 z ∧ wr = w.drewN nq) (fun _ i _ => len - (intOf i).toNat)
  case atStart => exact ⟨0, 0, _, Nat.zero_le _, rfl, rfl, rfl⟩
  case round =>
    obtain ⟨k, nq0, z, hk, rfl, rfl, hwr⟩ := hrel
    subst hwr
    by_cases hlt : k < len
    · have c0 := hp k hlt
      have c1 := hv k hlt
      have hi0 : (0 : Int) ≤ (k : Int) := by omega
      have hi1 : (k : Int) < (len : Int) := by omega
      go_wp2_with fail
      go_quiet (fail)
      go_wp2
      · go_ret
        exact ⟨rfl, ⟨rfl, rfl, rfl, Nat.le_refl _, fun _ _ => rfl⟩⟩
      · go_roundw
        case rel => exact ⟨k + 1, _, _, by omega, by go_num, rfl, rfl⟩
        case measure => simp [intOf]; omega
    · obtain rfl : k = len := by omega
      obtain ⟨i0, hi, hz0, hz1, hz2⟩ := info_parts info52
      go_wp2_with (at_make; refine wpList_make_full _ rfl (.tmp 59) (.tmp 59) 49 rfl w.heap.size 52 i0 _ 2 Tryf.underlying49 hi hz0 hz1 .i64 .i64 _ _ k rfl rfl rfl rfl (by rw [hz2]; omega) (by unfold maxLen; omega) (Nat.le_refl _) ?_; intro wm hown hgr; have HM : Hid (Copied P V w k 0 wm) := made_pairs hown hgr P V; clear hown hgr)
      go_loopw [10] (fun i wr => ∃ j : Nat, j ≤ k ∧ i = .int .i64 j ∧ Hid (Copied P V w k j wr)) (fun i _ => k - (intOf i).toNat)
      case atStart => exact ⟨0, Nat.zero_le _, rfl, HM⟩
      case round =>
        obtain ⟨j, hj, rfl, HR⟩ := hrel
        by_cases hjk : j < k
        · obtain ⟨v0, v1, d0, d1, f0, f1⟩ := HR.out.dest hjk
          have s0 : wr.cell? (x.add (j * 2)) = some (.string (P j)) := (HR.out.2.cell (World.block_lt_of_cell? w _ (hp j hjk))).trans (hp j hjk)
          have s1 : wr.cell? ⟨(x.add (j * 2)).block, (x.add (j * 2)).off + 1, none⟩ = some (.string (V j)) := (HR.out.2.cell (World.block_lt_of_cell? w _ (hv j hjk))).trans (hv j hjk)
          have hi0 : (0 : Int) ≤ (j : Int) := by omega
          have hi1 : (j : Int) < (k : Int) := by omega
          go_wp2
          go_roundw
          case rel => exact ⟨j + 1, by omega, by go_num, HR.out.step hjk⟩
          case measure => simp [intOf]; omega
        · obtain rfl : j = k := by omega
          have hCz := HR.out.lt
          have hF1 : F.answers wr.tape := by rw [HR.out.2.tape]; exact H.out.1
          go_wp2_with fail
          refine (new_any _).mono ?_
          rintro e w1 ⟨rfl, hc, hbel⟩
          have HC : Hid (Rel3 P V w j (fun _ => false) wr.heap.size (.map none) 0 w1) := ⟨hc, HR.out.kept hCz hbel, hCz⟩
          clear hc hbel
          have hCK : w.heap.size < wr.heap.size := hCz
          generalize hKK : wr.heap.size = K at HC ⊢
          clear hKK
          go_wp2_with fail
          go_loopw [12, 13] (fun pr i wr => ∃ t m : Nat, t ≤ j ∧ m ≤ t ∧ i = .int .i64 t ∧ pr = .int .i64 m ∧ Hid (Rel3 P V w j (fun _ => false) K (.map none) m wr)) (fun _ i _ => j - (intOf i).toNat)
          case atStart => exact ⟨0, 0, Nat.zero_le _, Nat.le_refl _, rfl, rfl, HC⟩
          case round =>
            obtain ⟨t, m, htj, hmt, rfl, rfl, HR3⟩ := hrel
            by_cases ht : t < j
            · obtain ⟨e0, e1⟩ := HR3.out.2.1.cells ht
              have hpt : (P t).size ≤ maxLen := H.out.2.2.2.2.2 t ht
              have hF3 : F.answers wr.tape := by rw [HR3.out.2.1.2.tape]; exact H.out.1
              have hi0 : (0 : Int) ≤ (t : Int) := by omega
              have hi1 : (t : Int) < (j : Int) := by omega
              cases hemp : (V t).toList.isEmpty
              · skip
                have HQ := HR3
                go_wp2_with fail
                refine (req_full _ (P t) (V t) _ hemp).mono ?_
                rintro e w' ⟨rfl, hw⟩
                obtain rfl := hw.symm
                clear hw
                go_wp2_with fail
                refine (count_any _ _ _ _ _ HQ.out.1).mono ?_
                rintro e w' ⟨rfl, hw⟩
                obtain rfl := hw.symm
                clear hw
                go_wp2
                go_roundw
                case rel => exact ⟨t + 1, m, by omega, by omega, by go_num, by go_num, HQ⟩
                case measure => simp [intOf]; omega
              · go_wp2_with fail
                refine (req_add F _ (P t) (V t) _ m _ _ hF3 hpt HR3.out.1 (by omega) (cov_none (P t)) hemp).mono ?_
                rintro e w2 ⟨rfl, ha⟩
                have HQ : Hid (Rel3 P V w j (fun _ => false) K (.map none) (m + 1) w2) := HR3.out.add ha
                clear ha
                go_wp2_with fail
                refine (count_any _ _ _ _ _ HQ.out.1).mono ?_
                rintro e w' ⟨rfl, hw⟩
                obtain rfl := hw.symm
                clear hw
                go_wp2
                go_roundw
                case rel => exact ⟨t + 1, m + 1, by omega, by omega, by go_num, by go_num, HQ⟩
                case measure => simp [intOf]; omega
            · go_wp2
              go_ret
              exact ⟨rfl, HR3.out.2.1.2⟩

set_option maxHeartbeats 2000000 in
theorem script_true (F : Interp) (u : ByteArray) (x : Addr) (len cap : Nat) (P V : Nat → ByteArray) (w : World) (hF : F.answers w.tape) (hu : u.size ≤ 262144) (hlen : len ≤ 4096)
    (hp : ∀ k, k < len → w.cell? (x.add (k * 2)) = some (.string (P k))) (hv : ∀ k, k < len → w.cell? ⟨(x.add (k * 2)).block, (x.add (k * 2)).off + 1, none⟩ = some (.string (V k))) (hps : ∀ k, k < len → (P k).size ≤ maxLen) :
    Calls Tryf.prog 5 #[.bool true, .string u, .slice (some x) len cap] w fun e w' => e = .returned (.bool true) ∧ Below w.heap.size w w' := by
  have hneq := fun w => run_neq_slice_nil_any (P := Tryf.prog) w 49 52 (some x) len cap 0 0 Tryf.underlying49
  simp only [Option.isNone_some, Bool.not_false] at hneq
  have H : Hid (F.answers w.tape ∧ u.size ≤ maxLen ∧ len ≤ maxLen ∧ (∀ k, k < len → w.cell? (x.add (k * 2)) = some (.string (P k))) ∧ (∀ k, k < len → w.cell? ⟨(x.add (k * 2)).block, (x.add (k * 2)).off + 1, none⟩ = some (.string (V k))) ∧ ∀ k, k < len → (P k).size ≤ maxLen) :=
    ⟨hF, by unfold maxLen; omega, by unfold maxLen; omega, hp, hv, hps⟩
  clear hps hF
  go_enter Tryf.func5, Tryf.ntmps5
  go_wp2_with fail
  refine (zz16 true u x len cap P V w H.out.2.1 H.out.2.2.1 H.out.2.2.2.1 H.out.2.2.2.2.1).mono ?_
  rintro e w' ⟨r, rfl, hw⟩
  obtain rfl := hw.symm
  clear hw
  cases r
  · go_wp2
    go_ret
    exact ⟨rfl, Below.refl _ _⟩
  go_wp2_with fail
  go_loopw [7, 8] (fun s i wr => ∃ k nq : Nat, ∃ z : Int, k ≤ len ∧ i = .int .i64 k ∧ s = .int .i64 z ∧ wr = w.drewN nq) (fun _ i _ => len - (intOf i).toNat)
  case atStart => exact ⟨0, 0, _, Nat.zero_le _, rfl, rfl, rfl⟩
  case round =>
    obtain ⟨k, nq0, z, hk, rfl, rfl, hwr⟩ := hrel
    subst hwr
    by_cases hlt : k < len
    · have c0 := hp k hlt
      have c1 := hv k hlt
      have hi0 : (0 : Int) ≤ (k : Int) := by omega
      have hi1 : (k : Int) < (len : Int) := by omega
      go_wp2_with fail
      go_quiet (fail)
      go_wp2
      · go_ret
        exact ⟨rfl, ⟨rfl, rfl, rfl, Nat.le_refl _, fun _ _ => rfl⟩⟩
      · go_roundw
        case rel => exact ⟨k + 1, _, _, by omega, by go_num, rfl, rfl⟩
        case measure => simp [intOf]; omega
    · obtain rfl : k = len := by omega
      obtain ⟨i0, hi, hz0, hz1, hz2⟩ := info_parts info52
      go_wp2_with (at_make; refine wpList_make_full _ rfl (.tmp 59) (.tmp 59) 49 rfl w.heap.size 52 i0 _ 2 Tryf.underlying49 hi hz0 hz1 .i64 .i64 _ _ k rfl rfl rfl rfl (by rw [hz2]; omega) (by unfold maxLen; omega) (Nat.le_refl _) ?_; intro wm hown hgr; have HM : Hid (Copied P V w k 0 wm) := made_pairs hown hgr P V; clear hown hgr)
      go_loopw [10] (fun i wr => ∃ j : Nat, j ≤ k ∧ i = .int .i64 j ∧ Hid (Copied P V w k j wr)) (fun i _ => k - (intOf i).toNat)
      case atStart => exact ⟨0, Nat.zero_le _, rfl, HM⟩
      case round =>
        obtain ⟨j, hj, rfl, HR⟩ := hrel
        by_cases hjk : j < k
        · obtain ⟨v0, v1, d0, d1, f0, f1⟩ := HR.out.dest hjk
          have s0 : wr.cell? (x.add (j * 2)) = some (.string (P j)) := (HR.out.2.cell (World.block_lt_of_cell? w _ (hp j hjk))).trans (hp j hjk)
          have s1 : wr.cell? ⟨(x.add (j * 2)).block, (x.add (j * 2)).off + 1, none⟩ = some (.string (V j)) := (HR.out.2.cell (World.block_lt_of_cell? w _ (hv j hjk))).trans (hv j hjk)
          have hi0 : (0 : Int) ≤ (j : Int) := by omega
          have hi1 : (j : Int) < (k : Int) := by omega
          go_wp2
          go_roundw
          case rel => exact ⟨j + 1, by omega, by go_num, HR.out.step hjk⟩
          case measure => simp [intOf]; omega
        · obtain rfl : j = k := by omega
          have hCz := HR.out.lt
          have hF1 : F.answers wr.tape := by rw [HR.out.2.tape]; exact H.out.1
          go_wp2_with fail
          refine (new_any _).mono ?_
          rintro e w0 ⟨rfl, _, hbel⟩
          have HC0 : Hid (Copied P V w j j w0) := HR.out.kept hCz hbel
          clear hbel
          go_wp2_with fail
          refine (new_unread u _).mono ?_
          rintro e w1 ⟨rfl, hc, hbel⟩
          have HC : Hid (Rel3 P V w j (fun k => k.toList == u.toList) (w0.heap.size + 1) (.map (some w0.heap.size)) 0 w1) := ⟨hc, HC0.out.kept HC0.out.lt hbel, Nat.lt_succ_of_lt HC0.out.lt⟩
          clear hc hbel
          generalize hKK : w0.heap.size + 1 = K at HC ⊢
          generalize hMM : Value.map (some w0.heap.size) = mv at HC
          clear hKK hMM
          go_wp2_with fail
          go_loopw [12, 13] (fun pr i wr => ∃ t m : Nat, t ≤ j ∧ m ≤ t ∧ i = .int .i64 t ∧ pr = .int .i64 m ∧ Hid (Rel3 P V w j (fun k => k.toList == u.toList) K mv m wr)) (fun _ i _ => j - (intOf i).toNat)
          case atStart => exact ⟨0, 0, Nat.zero_le _, Nat.le_refl _, rfl, rfl, HC⟩
          case round =>
            obtain ⟨t, m, htj, hmt, rfl, rfl, HR3⟩ := hrel
            by_cases ht : t < j
            · obtain ⟨e0, e1⟩ := HR3.out.2.1.cells ht
              have hpt : (P t).size ≤ maxLen := H.out.2.2.2.2.2 t ht
              have hF3 : F.answers wr.tape := by rw [HR3.out.2.1.2.tape]; exact H.out.1
              have hi0 : (0 : Int) ≤ (t : Int) := by omega
              have hi1 : (t : Int) < (j : Int) := by omega
              cases hemp : (V t).toList.isEmpty
              · skip
                have HQ := HR3
                go_wp2_with fail
                refine (req_full _ (P t) (V t) _ hemp).mono ?_
                rintro e w' ⟨rfl, hw⟩
                obtain rfl := hw.symm
                clear hw
                go_wp2_with fail
                refine (count_any _ _ _ _ _ HQ.out.1).mono ?_
                rintro e w' ⟨rfl, hw⟩
                obtain rfl := hw.symm
                clear hw
                go_wp2
                go_roundw
                case rel => exact ⟨t + 1, m, by omega, by omega, by go_num, by go_num, HQ⟩
                case measure => simp [intOf]; omega
              · rcases Classical.em (Under u (P t)) with hun | hun
                · have HU : Hid (Under u (P t)) := hun
                  clear hun
                  have HQ := HR3
                  go_wp2_with fail
                  refine (req_cov _ (P t) (V t) _ m _ _ hpt HR3.out.1 ((cov_iff_under u (P t)).2 HU.out) hemp).mono ?_
                  rintro e w' ⟨rfl, hw⟩
                  obtain rfl := hw.symm
                  clear hw
                  go_wp2_with fail
                  refine (under_any u (P t) _ H.out.2.1 hpt).mono ?_
                  intro e w' hs
                  obtain ⟨rfl, rfl⟩ := says_true hs HU.out
                  clear hs
                  go_wp2_with fail
                  refine (count_any _ _ _ _ _ HQ.out.1).mono ?_
                  rintro e w' ⟨rfl, hw⟩
                  obtain rfl := hw.symm
                  clear hw
                  go_wp2
                  go_roundw
                  case rel => exact ⟨t + 1, m, by omega, by omega, by go_num, by go_num, HQ⟩
                  case measure => simp [intOf]; omega
                · have HU : Hid (¬ Under u (P t)) := hun
                  clear hun
                  go_wp2_with fail
                  refine (req_add F _ (P t) (V t) _ m _ _ hF3 hpt HR3.out.1 (by omega) (fun h => HU.out ((cov_iff_under u (P t)).1 h)) hemp).mono ?_
                  rintro e w2 ⟨rfl, ha⟩
                  have HQ : Hid (Rel3 P V w j (fun k => k.toList == u.toList) K mv (m + 1) w2) := HR3.out.add ha
                  clear ha
                  go_wp2_with fail
                  refine (under_any u (P t) _ H.out.2.1 hpt).mono ?_
                  intro e w' hs
                  obtain ⟨rfl, rfl⟩ := says_false hs HU.out
                  clear hs
                  go_wp2_with fail
                  refine (count_any _ _ _ _ _ HQ.out.1).mono ?_
                  rintro e w' ⟨rfl, hw⟩
                  obtain rfl := hw.symm
                  clear hw
                  go_wp2
                  go_roundw
                  case rel => exact ⟨t + 1, m + 1, by omega, by omega, by go_num, by go_num, HQ⟩
                  case measure => simp [intOf]; omega
            · go_wp2
              go_ret
              exact ⟨rfl, HR3.out.2.1.2⟩

set_option maxHeartbeats 400000 in
theorem script_nil (h : Bool) (u : ByteArray) (w : World) (hu : u.size ≤ 262144) :
    Calls Tryf.prog 5 #[.bool h, .string u, .slice none 0 0] w fun e w' => e = .returned (.bool true) ∧ Below w.heap.size w w' := by
  have hneq := fun w => run_neq_slice_nil_any (P := Tryf.prog) w 49 52 none 0 0 0 0 Tryf.underlying49
  simp only [Option.isNone_none, Bool.not_true] at hneq
  have H : Hid (u.size ≤ maxLen) := sz hu
  cases h
  · go_enter Tryf.func5, Tryf.ntmps5
    go_wp2_with fail
    refine (zz16_nil false u w H.out).mono ?_
    rintro e w' ⟨r, rfl, hw⟩
    obtain rfl := hw.symm
    clear hw
    cases r
    · go_wp2
      go_ret
      exact ⟨rfl, Below.refl _ _⟩
    go_wp2_with fail
    refine wp_loop_rounds 1 ?_
    rw [rounds_succ]
    go_wp2_with fail
    refine (new_any _).mono ?_
    rintro e w1 ⟨rfl, _, hbel⟩
    have HB : Hid (Below w.heap.size w w1) := hbel
    clear hbel
    go_wp2_with fail
    refine wp_loop_rounds 1 ?_
    rw [rounds_succ]
    go_wp2
    go_ret
    exact ⟨rfl, HB.out⟩
  · go_enter Tryf.func5, Tryf.ntmps5
    go_wp2_with fail
    refine (zz16_nil true u w H.out).mono ?_
    rintro e w' ⟨r, rfl, hw⟩
    obtain rfl := hw.symm
    clear hw
    cases r
    · go_wp2
      go_ret
      exact ⟨rfl, Below.refl _ _⟩
    go_wp2_with fail
    refine wp_loop_rounds 1 ?_
    rw [rounds_succ]
    go_wp2_with fail
    refine (new_any _).mono ?_
    rintro e w0 ⟨rfl, _, hbel⟩
    have HB0 : Hid (Below w.heap.size w w0) := hbel
    clear hbel
    go_wp2_with fail
    refine (new_unread u _).mono ?_
    rintro e w1 ⟨rfl, _, hbel⟩
    have HB : Hid (Below w.heap.size w w1) := HB0.out.trans (hbel.mono HB0.out.size)
    clear hbel
    go_wp2_with fail
    refine wp_loop_rounds 1 ?_
    rw [rounds_succ]
    go_wp2
    go_ret
    exact ⟨rfl, HB.out⟩

/-- Too long a key path, or too many entries: true at once, once the count of the bytes has come back. -/
theorem script_long (h : Bool) (u : ByteArray) (ao : Option Addr) (len cap : Nat) (w : World) (hz : Calls Tryf.prog 16 #[.bool h, .string u, .slice ao len cap] w fun e w' => RetB w e w') (hu : u.size ≤ maxLen) (hl : len ≤ maxLen) (hb : ¬ (u.size ≤ 262144 ∧ len ≤ 4096)) :
    Calls Tryf.prog 5 #[.bool h, .string u, .slice ao len cap] w fun e w' => e = .returned (.bool true) ∧ Below w.heap.size w w' := by
  have hor : ¬ u.size ≤ 262144 ∨ u.size ≤ 262144 ∧ ¬ len ≤ 4096 := by omega
  clear hb
  unfold maxLen at hu hl
  have HZ : Hid (Calls Tryf.prog 16 #[.bool h, .string u, .slice ao len cap] w fun e w' => RetB w e w') := hz
  clear hz
  rcases hor with h1 | ⟨h1, h2⟩
  all_goals
    go_enter Tryf.func5, Tryf.ntmps5
    go_wp2_with fail
    refine Calls.mono HZ.out ?_
    rintro e w' ⟨r, rfl, hw⟩
    obtain rfl := hw.symm
    clear hw HZ
    cases r
    all_goals
      go_wp2
      go_ret
      exact ⟨rfl, Below.refl _ _⟩

theorem script_row (F : Interp) (h : Bool) (u : ByteArray) (x : Addr) (len cap : Nat) (P V : Nat → ByteArray) (w : World) (hF : F.answers w.tape) (hu : u.size ≤ maxLen) (hlen : len ≤ maxLen)
    (hp : ∀ k, k < len → w.cell? (x.add (k * 2)) = some (.string (P k))) (hv : ∀ k, k < len → w.cell? (x.add (k * 2 + 1)) = some (.string (V k))) (hps : ∀ k, k < len → (P k).size ≤ maxLen) :
    Calls Tryf.prog 5 #[.bool h, .string u, .slice (some x) len cap] w fun e w' => e = .returned (.bool true) ∧ Below w.heap.size w w' := by
  have hv' : ∀ k, k < len → w.cell? ⟨(x.add (k * 2)).block, (x.add (k * 2)).off + 1, none⟩ = some (.string (V k)) := by
    intro k hk
    have e : (⟨(x.add (k * 2)).block, (x.add (k * 2)).off + 1, none⟩ : Addr) = x.add (k * 2 + 1) := by
      unfold Addr.add
      by_cases h0 : k * 2 = 0
      · simp [h0]
      · simp [h0]; omega
    rw [e]
    exact hv k hk
  rcases Classical.em (u.size ≤ 262144 ∧ len ≤ 4096) with hb | hb
  · cases h
    · exact script_false F u x len cap P V w hF hb.1 hb.2 hp hv' hps
    · exact script_true F u x len cap P V w hF hb.1 hb.2 hp hv' hps
  · exact script_long h u (some x) len cap w (zz16 h u x len cap P V w hu hlen hp hv') hu hlen hb

theorem script_none (h : Bool) (u : ByteArray) (w : World) (hu : u.size ≤ maxLen) :
    Calls Tryf.prog 5 #[.bool h, .string u, .slice none 0 0] w fun e w' => e = .returned (.bool true) ∧ Below w.heap.size w w' := by
  rcases Classical.em (u.size ≤ 262144 ∧ 0 ≤ 4096) with hb | hb
  · exact script_nil h u w hb.1
  · exact script_long h u none 0 0 w (zz16_nil h u w hu) hu (Nat.zero_le _) hb
end Go.Proofs.Qxb6605920aFmt
