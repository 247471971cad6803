import Derived.Test.Qxb6605801aParts
namespace Go.Proofs.Qxb6605801a.fnLexTakeTiles
open Go.ChangeShapes Go.WideShapes Go.ChangeAt Go.RowKit

theorem info3 : (Try.prog.info? 3).map (fun i => (i.zero, i.size, i.bytes)) = some (some (.int .i64 0), 1, 8) := by kernel_rfl
theorem info5 : (Try.prog.info? 5).map (fun i => (i.zero, i.size, i.bytes)) = some (some (.int .u8 0), 1, 1) := by kernel_rfl
theorem size3 : (Try.prog.info? 3).map (·.size) = some 1 := by kernel_rfl

/-- The cuts as cells. -/
def cutCells (z : Nat → Int) (n : Nat) : List Value := (List.range n).map fun j => .int .i64 (z j)

theorem cutCells_len (z : Nat → Int) (n : Nat) : (cutCells z n).length = n := by simp [cutCells]

theorem cutCells_at (z : Nat → Int) (n j : Nat) (v : Value) (h : (cutCells z n)[j]? = some v) : j < n ∧ v = .int .i64 (z j) := by
  have hj : j < n := by
    have := (List.getElem?_eq_some_iff.1 h).1
    rwa [cutCells_len] at this
  refine ⟨hj, ?_⟩
  simp [cutCells, hj] at h
  exact h.symm

theorem cutCells_one (z : Nat → Int) (n : Nat) : ∀ v ∈ cutCells z n, v.oneCell' = true := by
  intro v hv
  simp only [cutCells, List.mem_map] at hv
  obtain ⟨j, _, rfl⟩ := hv
  rfl

/-- The block that 'make' laid. -/
theorem made_block {w : World} {base g len : Nat} {xs : List Value} (h : w.ownsRow base 3 1 (.slice (some ⟨g, 0, none⟩) len len) len xs) :
    ∃ cur : List Value, cur.length = len ∧ w.heap[g]? = some (.cells cur.toArray 3 (0, 0)) := by
  rcases h.2 with ⟨h, _⟩ | ⟨g', cap, cur, hv, _, hg, _, _, hcs, _⟩
  · cases h
  · simp at hv
    obtain ⟨rfl, rfl⟩ := hv
    exact ⟨cur.toList, by simpa using hcs, by simpa using hg⟩

theorem splice_all (cur cs : List Value) (h : cur.length = cs.length) : splice cur 0 cs = cs := by
  simp [splice, ← h]

theorem copied {w : World} {g n : Nat} {z : Nat → Int} (h : w.heap[g]? = some (.cells (cutCells z n).toArray 3 (0, 0))) : ∀ j, j < n → w.cell? ⟨g, j, none⟩ = some (.int .i64 (z j)) := by
  intro j hj
  simp [World.cell?, h, cutCells, hj]

theorem copy_run {w wm : World} {x : Addr} {n : Nat} {z : Nat → Int} {xs : List Value} (cap : Nat) (hcell : ∀ k, k < n → w.cell? (x.add k) = some (.int .i64 (z k)))
    (hown : wm.ownsRow w.heap.size 3 1 (.slice (some ⟨w.heap.size, 0, none⟩) n n) n xs) (hgr : w.grownBy wm none) :
    ∃ w2, (Builtin.copy_ #[22, 22] 3 #[.slice (some ⟨w.heap.size, 0, none⟩) n n, .slice (some x) n cap]).run Try.prog wm = .ok (.int .i64 n) w2 ∧
      Hid (w2.heap[w.heap.size]? = some (.cells (cutCells z n).toArray 3 (0, 0))) ∧ Hid (Below w.heap.size w w2) := by
  obtain ⟨cur, hcl, hcg⟩ := made_block hown
  have hbm : Below w.heap.size w wm := (Below.refl _ _).grown hgr (Nat.le_refl _) (fun _ h => by cases h)
  have hrun := run_copy_row (P := Try.prog) wm 22 22 3 3 w.heap.size 0 n n x n cap cur.toArray 3 (cutCells z n) Try.underlying22 size3 hcg (by simp [cutCells_len])
    (fun j v hj => by obtain ⟨hlt, rfl⟩ := cutCells_at z n j v hj; exact hgr.cell (hcell j hlt) (by simp)) (by simp [cutCells_len, hcl]) (cutCells_one z n)
  refine ⟨wm.setRow w.heap.size (cutCells z n).toArray, ?_, ?_, ?_⟩
  · rw [hrun, cutCells_len]
    have e : cur.drop n = [] := List.drop_eq_nil_of_le (by omega)
    simp [e, goInt]
  · exact setRow_heap wm _ _ _ 3 _ hcg
  · exact below_setRow hbm (Nat.le_refl _) _

/-- What holds at the head of the second loop, k tokens taken. -/
def Rel2 (a0 : ByteArray) (z : Nat → Int) (n : Nat) (w : World) (L k : Nat) (v : Value) (wr : World) : Prop :=
  wr.ownsRow (L + 1) 5 1 v (qv z k) ((Lib.strCells a0).take (qv z k)) ∧ wr.heap[L]? = some (.cells #[.string a0, .int .i64 (qv z k)] 31 (0, 0)) ∧
    wr.heap[w.heap.size]? = some (.cells (cutCells z n).toArray 3 (0, 0)) ∧ Below w.heap.size w wr ∧ L < wr.heap.size ∧ w.heap.size < L

theorem rel_start {a0 : ByteArray} {z : Nat → Int} {n : Nat} {w w2 : World} (h1 : Hid (w2.heap[w.heap.size]? = some (.cells (cutCells z n).toArray 3 (0, 0)))) (h2 : Hid (Below w.heap.size w w2)) :
    Rel2 a0 z n w w2.heap.size 0 (.slice none 0 0) (w2.alloc (.cells #[.string a0, .int .i64 0] 31)) := by
  have hlt : w.heap.size < w2.heap.size := (Array.getElem?_eq_some_iff.1 h1.out).1
  refine ⟨World.ownsRow_nil _ _ _ _, heap_alloc_new _ _, ?_, h2.out.alloc (by omega) _, by simp, hlt⟩
  rw [Below.heap_alloc _ _ _ hlt]
  exact h1.out

theorem rel_shape {a0 : ByteArray} {z : Nat → Int} {n : Nat} {w : World} {L k : Nat} {v : Value} {wr : World} (h : Rel2 a0 z n w L k v wr) : ∃ ao c, v = .slice ao (qv z k) c := by
  rcases h.1.2 with ⟨h, h0⟩ | ⟨g, cap, cur, hv, _⟩
  · rw [h0]; exact ⟨_, _, h⟩
  · exact ⟨_, _, hv⟩

theorem rel_off {a0 : ByteArray} {z : Nat → Int} {n : Nat} {w : World} {L k : Nat} {v : Value} {wr : World} (h : Rel2 a0 z n w L k v wr) : wr.cell? ⟨L, 1, none⟩ = some (.int .i64 (qv z k)) := by
  simp [World.cell?, h.2.1]

theorem rel_cut {a0 : ByteArray} {z : Nat → Int} {n : Nat} {w : World} {L k : Nat} {v : Value} {wr : World} (h : Rel2 a0 z n w L k v wr) (hk : k < n) : wr.cell? ⟨w.heap.size, k, none⟩ = some (.int .i64 (z k)) :=
  copied h.2.2.1 k hk

theorem own_ne {w : World} {L : Nat} {v : Value} {m : Nat} {xs : List Value} (h : w.ownsRow (L + 1) 5 1 v m xs) : v.ownBlock ≠ some L := by
  intro e
  have := h.lt L e
  omega

theorem rel_kept {a0 : ByteArray} {z : Nat → Int} {n : Nat} {w : World} {L k : Nat} {v : Value} {wr w1 : World} (h : Rel2 a0 z n w L k v wr) (hg : wr.grownBy w1 (some L)) :
    w1.ownsRow (L + 1) 5 1 v (qv z k) ((Lib.strCells a0).take (qv z k)) ∧ L + 1 ≤ w1.heap.size :=
  ⟨h.1.kept hg (.inr (own_ne h.1)), by have := hg.size; have := h.2.2.2.2.1; omega⟩

theorem rel_step {a0 : ByteArray} {z : Nat → Int} {n : Nat} {w : World} {L k : Nat} {v v' : Value} {wr w1 w3 : World} (h : Rel2 a0 z n w L k v wr) (hg : wr.grownBy w1 (some L))
    (h1 : w1.heap[L]? = some (.cells #[.string a0, .int .i64 (qv z (k + 1))] 31 (0, 0))) (hle : qv z k ≤ qv z (k + 1)) (hsz : qv z (k + 1) ≤ a0.size)
    (hown : w3.ownsRow (L + 1) 5 1 v' (qv z k + (a0.extract (qv z k) (qv z (k + 1))).size) ((Lib.strCells a0).take (qv z k) ++ Lib.strCells (a0.extract (qv z k) (qv z (k + 1)))))
    (hgr : w1.grownBy w3 v.ownBlock) : Rel2 a0 z n w L (k + 1) v' w3 := by
  have hL : L < w1.heap.size := (Array.getElem?_eq_some_iff.1 h1).1
  have hC : w.heap.size < L := h.2.2.2.2.2
  have hvb : ∀ b, v.ownBlock = some b → L + 1 ≤ b := fun b hb => (h.1.lt b hb).1
  rw [size_ext _ _ _ hsz, str_take _ _ _ hle, show qv z k + (qv z (k + 1) - qv z k) = qv z (k + 1) from by omega] at hown
  refine ⟨hown, ?_, ?_, ?_, by have := hgr.size; omega, hC⟩
  · rw [hgr.block L hL (fun e => by have := hvb L e.symm; omega)]
    exact h1
  · rw [hgr.block _ (by omega) (fun e => by have := hvb _ e.symm; omega), hg.block _ (by have := h.2.2.2.2.1; omega) (fun e => by simp at e; omega)]
    exact h.2.2.1
  · have hb1 : Below w.heap.size w w1 := h.2.2.2.1.grown hg (by have := h.2.2.2.2.1; omega) (fun b hb => by simp at hb; omega)
    exact hb1.grown hgr (by omega) (fun b hb => by have := hvb b hb; omega)

theorem hid_step {a0 : ByteArray} {z : Nat → Int} {n : Nat} {w : World} {L k : Nat} {v v' : Value} {wr w1 w3 : World} (h : Hid (Rel2 a0 z n w L k v wr)) (hg : Hid (wr.grownBy w1 (some L)))
    (h1 : Hid (w1.heap[L]? = some (.cells #[.string a0, .int .i64 (qv z (k + 1))] 31 (0, 0)))) (hle : qv z k ≤ qv z (k + 1)) (hsz : qv z (k + 1) ≤ a0.size)
    (hown : w3.ownsRow (L + 1) 5 1 v' (qv z k + (a0.extract (qv z k) (qv z (k + 1))).size) ((Lib.strCells a0).take (qv z k) ++ Lib.strCells (a0.extract (qv z k) (qv z (k + 1)))))
    (hgr : w1.grownBy w3 v.ownBlock) : Hid (Rel2 a0 z n w L (k + 1) v' w3) := rel_step h.out hg.out h1.out hle hsz hown hgr

set_option maxHeartbeats 1000000 in
theorem walk_row (a0 : ByteArray) (x : Addr) (len cap : Nat) (z : Nat → Int) (w : World) (hs : a0.size + 8 * len ≤ 1048576)
    (hcell : ∀ k, k < len → w.cell? (x.add k) = some (.int .i64 (z k))) :
    Calls Try.prog 3 #[.string a0, .slice (some x) len cap] w fun e w' => e = .returned (.bool true) ∧ Below w.heap.size w w' := by
  have hneq := fun w => run_neq_slice_nil_any (P := Try.prog) w 22 3 (some x) len cap 0 0 Try.underlying22
  simp only [Option.isNone_some, Bool.not_false] at hneq
  go_enter Try.func3, Try.ntmps3
  go_wp2_with (go_at_call 4; refine (zz_yes a0 (some x) len cap _ (by omega)).mono ?_; rintro e w' ⟨rfl, hw⟩; obtain rfl := hw.symm)
  go_loop [5, 6] (fun p i => ∃ k : Nat, k ≤ len ∧ i = .int .i64 k ∧ p = .int .i64 (pv z k) ∧ Hid (Good z k a0.size)) (fun _ i => len - (intOf i).toNat)
  case atStart => exact ⟨0, Nat.zero_le _, rfl, rfl, fun j hj => absurd hj (Nat.not_lt_zero j)⟩
  case round =>
    obtain ⟨k, hk, rfl, rfl, hgood⟩ := hrel
    by_cases hlt : k < len
    · have hc := hcell k hlt
      by_cases h1 : z k < pv z k
      · go_wp2
        go_ret
        exact ⟨rfl, Below.refl _ _⟩
      · by_cases h2 : (a0.size : Int) < z k
        · go_wp2
          go_ret
          exact ⟨rfl, Below.refl _ _⟩
        · go_wp2
          go_round
          case rel => exact ⟨k + 1, by omega, by go_num, rfl, hgood.out.succ (by omega) (by omega)⟩
          case measure => simp [intOf]; omega
    · obtain rfl : k = len := by omega
      obtain ⟨i0, hi, hz0, hz1, hz2⟩ := info_parts info3
      go_wp2_with (first | (at_make; refine wpList_make_full _ rfl (.tmp 65) (.tmp 65) 22 rfl w.heap.size 3 i0 (.int .i64 0) 1 Try.underlying22 hi hz0 hz1 .i64 .i64 _ _ k rfl rfl rfl rfl (by rw [hz2]; omega) (by unfold maxLen; omega) (Nat.le_refl _) ?_; intro wm hown hgr; obtain ⟨w2, hrun, HG2, HB2⟩ := copy_run cap hcell hown hgr; clear hown hgr) | (go_at_call 5; refine (newLexer_any _ _ _).mono ?_; rintro e w' ⟨rfl, rfl⟩))
      go_loopw [9, 10] (fun v i wr => ∃ j : Nat, j ≤ k ∧ i = .int .i64 j ∧ Hid (Rel2 a0 z k w w2.heap.size j v wr)) (fun _ i _ => k - (intOf i).toNat)
      case atStart => exact ⟨0, Nat.zero_le _, rfl, rel_start HG2 HB2⟩
      case round =>
        obtain ⟨j, hj, rfl, hR⟩ := hrel
        obtain ⟨ao, vc, hv⟩ := rel_shape hR.out
        rw [hv] at hR ⊢
        clear hv
        by_cases hjk : j < k
        · have hcut := rel_cut hR.out hjk
          have hoff := rel_off hR.out
          rw [(hgood.out.q.2 j hjk).1] at hcut
          have hle := (hgood.out.q.2 j hjk).2
          have hsz := (hgood.out.q.1 (j + 1) hjk).2
          go_wp2_with fail
          refine (lexerOff_any _ _ _ hoff).mono ?_
          rintro e w' ⟨rfl, hw'⟩
          obtain rfl := hw'.symm
          go_wp2_with fail
          refine (take7 _ a0 _ (qv z j) _ _ _ _ _ (by unfold maxLen; omega) hle hsz hR.out.2.1).mono ?_
          rintro e w1 ⟨rfl, hg1, hb1⟩
          have hk1 := rel_kept hR.out hg1
          have HG1 : Hid (wr.grownBy w1 (some w2.heap.size)) := hg1
          have HB1 : Hid (w1.heap[w2.heap.size]? = some (.cells #[.string a0, .int .i64 (qv z (j + 1))] 31 (0, 0))) := hb1
          have HK1 : Hid (w1.ownsRow (w2.heap.size + 1) 5 1 (.slice ao (qv z j) vc) (qv z j) ((Lib.strCells a0).take (qv z j))) := hk1.1
          have hz1 := hk1.2
          have hex := size_ext a0 (qv z j) (qv z (j + 1)) hsz
          have HE : Hid ((a0.extract (qv z j) (qv z (j + 1))).size = qv z (j + 1) - qv z j) := hex
          clear hg1 hb1 hk1 hcut hoff hex
          obtain ⟨i5, hi5, hz50, hz51, hz52⟩ := info_parts info5
          go_wp2_with (at_builtin; refine Lib.wpList_append_own_string _ rfl (.tmp 106) (.tmp 107) 26 9 rfl (w2.heap.size + 1) 5 i5 Try.underlying26 Try.underlying9 hi5 hz50 hz51 hz52 _ (qv z j) _ rfl HK1.out _ rfl (by rw [HE.out]; unfold maxLen; omega) (by rw [HE.out]; omega) hz1 ?_; intro v' w3 hown3 hgr3 hiff; clear hiff; have HR3 := hid_step hR HG1 HB1 hle hsz hown3 hgr3; clear hown3 hgr3)
          go_roundw
          case rel => exact ⟨j + 1, by omega, by go_num, HR3⟩
          case measure => simp [intOf]; omega
        · obtain rfl : j = k := by omega
          have hq := hgood.out.q.1 j (Nat.le_refl _)
          have hqs := hq.2
          have hoff := rel_off hR.out
          have hcv : ∀ nq, (convert 26 9 (.slice ao (qv z j) vc)).run Try.prog (wr.drewN nq) = .ok (.string (a0.extract 0 (qv z j))) (wr.drewN nq) := fun nq => conv_own a0 (qv z j) hqs hR.out.1 Try.underlying5 _ rfl
          rw [hq.1]
          clear hq
          go_wp2_with fail
          go_quiet ((go_at_call 6; exact Calls.quiet_of_same (lexerOff_any _ _ _ (by simpa using hoff))))
          go_wp2
          go_ret
          exact ⟨rfl, hR.out.2.2.2.1.trans ⟨rfl, rfl, rfl, Nat.le_refl _, fun _ _ => rfl⟩⟩

/-- No cut at all: a nil slice. -/
theorem conv_nil (w : World) (a0 : ByteArray) : (convert 26 9 (.slice none 0 0)).run Try.prog w = .ok (.string (a0.extract 0 0)) w := by
  exact conv_own (w := w) (base := 0) a0 0 (Nat.zero_le _) (by simpa using World.ownsRow_nil w 0 5 1) Try.underlying5 w rfl

set_option maxHeartbeats 1000000 in
theorem walk_nil (a0 : ByteArray) (w : World) (hs : a0.size ≤ 1048576) :
    Calls Try.prog 3 #[.string a0, .slice none 0 0] w fun e w' => e = .returned (.bool true) ∧ Below w.heap.size w w' := by
  have hneq := fun w => run_neq_slice_nil_any (P := Try.prog) w 22 3 none 0 0 0 0 Try.underlying22
  simp only [Option.isNone_none, Bool.not_true] at hneq
  have hcv := fun w => conv_nil w a0
  go_enter Try.func3, Try.ntmps3
  go_wp2_with (go_at_call 4; refine (zz_yes a0 none 0 0 _ (by omega)).mono ?_; rintro e w' ⟨rfl, hw⟩; obtain rfl := hw.symm)
  refine wp_loop_rounds 1 ?_
  rw [rounds_succ]
  go_wp2_with (go_at_call 5; refine (newLexer_any _ _ _).mono ?_; rintro e w' ⟨rfl, rfl⟩)
  refine wp_loop_rounds 1 ?_
  rw [rounds_succ]
  go_wp2_with fail
  go_quiet ((go_at_call 6; exact Calls.quiet_of_same (lexerOff_any _ 0 _ (by simp [go_sem]))))
  go_wp2
  go_ret
  exact ⟨rfl, ((Below.refl _ _).alloc (Nat.le_refl _) _).trans ⟨rfl, rfl, rfl, Nat.le_refl _, fun _ _ => rfl⟩⟩

/-- Too long a text, or too many cuts: true at once. -/
theorem walk_long1 (a0 : ByteArray) (a1 : Option Addr) (len cap : Nat) (w : World) (h0 : a0.size ≤ maxLen) (h1 : len ≤ maxLen) (h : ¬ a0.size + len ≤ 1048576) :
    Calls Try.prog 3 #[.string a0, .slice a1 len cap] w fun e w' => e = .returned (.bool true) ∧ Below w.heap.size w w' := by
  go_enter Try.func3, Try.ntmps3
  go_wp2_with (go_at_call 4; refine (zz_no a0 a1 len cap _ h0 h1 h).mono ?_; rintro e w' ⟨rfl, hw⟩; obtain rfl := hw.symm)
  go_ret
  exact ⟨rfl, Below.refl _ _⟩

theorem walk_long2 (a0 : ByteArray) (a1 : Option Addr) (len cap : Nat) (w : World) (h : a0.size + len ≤ 1048576) (h8 : ¬ a0.size + 8 * len ≤ 1048576) :
    Calls Try.prog 3 #[.string a0, .slice a1 len cap] w fun e w' => e = .returned (.bool true) ∧ Below w.heap.size w w' := by
  by_cases h9 : len ≤ 131072
  · go_enter Try.func3, Try.ntmps3
    go_wp2_with (go_at_call 4; refine (zz_yes a0 a1 len cap _ h).mono ?_; rintro e w' ⟨rfl, hw⟩; obtain rfl := hw.symm)
    go_ret
    exact ⟨rfl, Below.refl _ _⟩
  · go_enter Try.func3, Try.ntmps3
    go_wp2_with (go_at_call 4; refine (zz_yes a0 a1 len cap _ h).mono ?_; rintro e w' ⟨rfl, hw⟩; obtain rfl := hw.symm)
    go_ret
    exact ⟨rfl, Below.refl _ _⟩
end Go.Proofs.Qxb6605801a.fnLexTakeTiles
