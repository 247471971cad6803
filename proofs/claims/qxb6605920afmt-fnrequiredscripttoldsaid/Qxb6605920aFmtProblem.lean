import Derived.Test.Qxb6605920aFmtLook
namespace Go.Proofs.Qxb6605920aFmt
open Go.RowKit Go.Extern.Stop Go.Stop Go.Extern
attribute [local go_sem ↓] Go.wp_at_zero Go.wp_at_succ

theorem below_same (K : Nat) (w : World) : Below K w w := Below.refl K w

theorem Chk.parts {g : ByteArray → Bool} {K n : Nat} {mv : Value} {w : World} (h : Chk g K mv n w) : ∃ ao cap xs, w.heap[K]? = some (.cells #[.slice ao n cap, mv, .map none, .map none, .map none, .map none] 60 (0, 0)) ∧ w.ownsRow (K + 1) 38 1 (.slice ao n cap) n xs := by
  obtain ⟨_, v, xs, hk, ho⟩ := h
  rcases ho.2 with ⟨rfl, h0⟩ | ⟨gg, cap, cur, rfl, _⟩
  · exact ⟨none, 0, xs, by rw [h0]; exact hk, by rw [h0] at ho ⊢; exact ho⟩
  · exact ⟨_, cap, xs, hk, ho⟩

theorem Chk.kept {g : ByteArray → Bool} {K n : Nat} {mv : Value} {w w' : World} (h : Chk g K mv n w) (hg : w.grownBy w' none) : Chk g K mv n w' := by
  obtain ⟨hm, v, xs, hk, ho⟩ := h
  have hK : K < w.heap.size := (Array.getElem?_eq_some_iff.1 hk).1
  refine ⟨hm.kept ⟨hg.os, hg.tape, hg.output, hg.size, fun k hk' => hg.block k (by omega) (by simp)⟩, v, xs, by rw [hg.block K hK (by simp)]; exact hk, ho.kept hg (by cases v.ownBlock <;> simp)⟩

/-- (*checker).problem where the path is not covered: one problem more. -/
def Added (g : ByteArray → Bool) (K : Nat) (mv : Value) (n : Nat) (w w' : World) : Prop := Chk g K mv (n + 1) w' ∧ Below K w w'

set_option maxHeartbeats 1000000 in
theorem problem_add (F : Interp) (g : ByteArray → Bool) (p : ByteArray) (K n : Nat) (mv : Value) (w : World) (hF : F.answers w.tape) (hp : p.size ≤ maxLen) (hchk : Chk g K mv n w) (hn : n ≤ 65536) (hno : ¬ CovP g p) :
    Calls Tryf.prog 24 #[.pointer (some ⟨K, 0, none⟩), .string p, .string ⟨#[105, 115, 32, 114, 101, 113, 117, 105, 114, 101, 100]⟩, .slice none 0 0] w fun e w' => e = .returned (.tuple #[]) ∧ Added g K mv n w w' := by
  obtain ⟨ao, cap, xs, hk, ho⟩ := hchk.parts
  have hK : K < w.heap.size := (Array.getElem?_eq_some_iff.1 hk).1
  have c0 : w.cell? ⟨K, 0, none⟩ = some (.slice ao n cap) := by simp [World.cell?, hk]
  have c1 : w.cell? ⟨K, 1, none⟩ = some mv := by simp [World.cell?, hk]
  have f0 : w.frozen? ⟨K, 0, none⟩ = false := by simp [World.frozen?, hk]
  have HM : Hid (MapIs g K mv w) := hchk.1
  have HK : Hid (w.heap[K]? = some (.cells #[.slice ao n cap, mv, .map none, .map none, .map none, .map none] 60 (0, 0))) := hk
  have hown : Hid (w.ownsRow (K + 1) 38 1 (.slice ao n cap) n xs) := ho
  have HN : Hid (¬ CovP g p) := hno
  have HP : Hid (p.size ≤ maxLen) := hp
  clear hk ho hno hchk hp
  have hK1 : K < w.heap.size + 1 := by omega
  have hK2 : K < w.heap.size + 1 + 1 := by omega
  have hK3 : K < w.heap.size + 1 + 1 + 1 := by omega
  go_enter Tryf.func24, Tryf.ntmps24
  go_wp2_with fail
  refine (cover_any g p mv w HP.out HM.out.look).mono ?_
  rintro e w' ⟨r, rfl, hr, hw⟩
  obtain rfl := hw.symm
  have hr' : r = false := by cases r with | true => exact absurd (hr.1 rfl) HN.out | false => rfl
  rw [hr']
  clear hr hr' hw
  go_wp2_with fail
  go_region_law ((rw [if_pos (by rfl)]; (try simp only [List.getElem_toArray, List.getElem_cons_zero, List.getElem_cons_succ, Act.put, List.setIfInBounds_toArray, List.set_cons_zero, List.set_cons_succ]); first | (refine wp_sprintf _ _ _ (by rfl) (by rfl) (by rfl) ?_; intro s) | (refine wp_errorf _ _ _ (by rfl) F p s _ (by rfl) (by rfl) (by exact hF) (by go_simp) (by go_simp) ?_; intro s2) | (refine wp_app _ _ (by rfl) w K n ao cap xs _ _ _ (by rfl) (by rfl) hown hK hn (by rfl) c0 f0 ?_; intro gg cap' w1 c01 f01 HA)))
  all_goals
    go_end0
    exact ⟨rfl, chk_after HM.out HK.out HA⟩

set_option maxHeartbeats 400000 in
theorem problem_cov (g : ByteArray → Bool) (p f : ByteArray) (K n : Nat) (mv : Value) (w : World) (hp : p.size ≤ maxLen) (hchk : Chk g K mv n w) (hyes : CovP g p) :
    Calls Tryf.prog 24 #[.pointer (some ⟨K, 0, none⟩), .string p, .string f, .slice none 0 0] w fun e w' => e = .returned (.tuple #[]) ∧ w' = w := by
  obtain ⟨ao, cap, xs, hk, ho⟩ := hchk.parts
  have c1 : w.cell? ⟨K, 1, none⟩ = some mv := by simp [World.cell?, hk]
  have HM : Hid (MapIs g K mv w) := hchk.1
  have HN : Hid (CovP g p) := hyes
  have HP : Hid (p.size ≤ maxLen) := hp
  clear hk ho hyes hchk hp
  go_enter Tryf.func24, Tryf.ntmps24
  go_wp2_with fail
  refine (cover_any g p mv w HP.out HM.out.look).mono ?_
  rintro e w' ⟨r, rfl, hr, hw⟩
  obtain rfl := hw.symm
  have hr' : r = true := hr.2 HN.out
  rw [hr']
  clear hr hr' hw
  go_wp2
  exact bodyPost_ret (v := .tuple #[]) (by simp [results, Tryf.results24, go_sem]) rfl ⟨rfl, rfl⟩

/-- ZZRequired at a value that is not empty. -/
theorem req_full (K : Nat) (p v : ByteArray) (w : World) (hv : v.toList.isEmpty = false) :
    Calls Tryf.prog 13 #[.pointer (some ⟨K, 0, none⟩), .string p, .string v] w fun e w' => e = .returned (.bool true) ∧ w' = w := by
  go_enter Tryf.func13, Tryf.ntmps13
  go_wp2_with (go_at_call 21; go_in)
  go_ret
  exact ⟨rfl, rfl⟩

set_option maxHeartbeats 400000 in
theorem req_add (F : Interp) (g : ByteArray → Bool) (p v : ByteArray) (K n : Nat) (mv : Value) (w : World) (hF : F.answers w.tape) (hp : p.size ≤ maxLen) (hchk : Chk g K mv n w) (hn : n ≤ 65536) (hno : ¬ CovP g p) (hv : v.toList.isEmpty = true) :
    Calls Tryf.prog 13 #[.pointer (some ⟨K, 0, none⟩), .string p, .string v] w fun e w' => e = .returned (.bool false) ∧ Added g K mv n w w' := by
  have HN : Hid (F.answers w.tape ∧ p.size ≤ maxLen ∧ Chk g K mv n w ∧ n ≤ 65536 ∧ ¬ CovP g p) := ⟨hF, hp, hchk, hn, hno⟩
  clear hF hp hchk hn hno
  go_enter Tryf.func13, Tryf.ntmps13
  go_wp2_with (go_at_call 21; go_in)
  refine (problem_add F g p K n mv w HN.out.1 HN.out.2.1 HN.out.2.2.1 HN.out.2.2.2.1 HN.out.2.2.2.2).mono ?_
  rintro e w' ⟨rfl, ha⟩
  have HA : Hid (Added g K mv n w w') := ha
  clear ha
  go_wp2
  go_ret
  exact ⟨rfl, HA.out⟩

set_option maxHeartbeats 400000 in
theorem req_cov (g : ByteArray → Bool) (p v : ByteArray) (K n : Nat) (mv : Value) (w : World) (hp : p.size ≤ maxLen) (hchk : Chk g K mv n w) (hyes : CovP g p) (hv : v.toList.isEmpty = true) :
    Calls Tryf.prog 13 #[.pointer (some ⟨K, 0, none⟩), .string p, .string v] w fun e w' => e = .returned (.bool false) ∧ w' = w := by
  have HN : Hid (p.size ≤ maxLen ∧ Chk g K mv n w ∧ CovP g p) := ⟨hp, hchk, hyes⟩
  clear hp hchk hyes
  go_enter Tryf.func13, Tryf.ntmps13
  go_wp2_with (go_at_call 21; go_in)
  refine (problem_cov g p _ K n mv w HN.out.1 HN.out.2.1 HN.out.2.2).mono ?_
  rintro e w' ⟨rfl, hw⟩
  obtain rfl := hw.symm
  go_wp2
  go_ret
  exact ⟨rfl, rfl⟩

/-- ZZProblemCount. -/
theorem count_any (g : ByteArray → Bool) (K n : Nat) (mv : Value) (w : World) (hchk : Chk g K mv n w) :
    Calls Tryf.prog 15 #[.pointer (some ⟨K, 0, none⟩)] w fun e w' => e = .returned (.int .i64 n) ∧ w' = w := by
  obtain ⟨ao, cap, xs, hk, _⟩ := hchk.parts
  have c0 : w.cell? ⟨K, 0, none⟩ = some (.slice ao n cap) := by simp [World.cell?, hk]
  clear hk hchk
  go_enter Tryf.func15, Tryf.ntmps15
  go_wp2
  go_ret
  exact ⟨rfl, rfl⟩

theorem new_any (w : World) :
    Calls Tryf.prog 11 #[] w fun e w' => e = .returned (.pointer (some ⟨w.heap.size, 0, none⟩)) ∧ Chk (fun _ => false) w.heap.size (.map none) 0 w' ∧ Below w.heap.size w w' := by
  go_enter Tryf.func11, Tryf.ntmps11
  go_wp2
  go_ret
  exact ⟨rfl, ⟨.inl ⟨rfl, rfl⟩, _, [], heap_alloc_new w _, World.ownsRow_nil _ _ _ _⟩, (Below.refl _ _).alloc (Nat.le_refl _) _⟩

set_option maxHeartbeats 400000 in
theorem new_unread (u : ByteArray) (w : World) :
    Calls Tryf.prog 12 #[.string u] w fun e w' => e = .returned (.pointer (some ⟨w.heap.size + 1, 0, none⟩)) ∧ Chk (fun k => k.toList == u.toList) (w.heap.size + 1) (.map (some w.heap.size)) 0 w' ∧ Below w.heap.size w w' := by
  have hmm := @run_makeMap Tryf.prog
  have hin := insert57 u
  go_enter Tryf.func12, Tryf.ntmps12
  go_wp2
  go_ret
  refine ⟨rfl, ⟨.inr ⟨w.heap.size, u, 0, 1, rfl, Nat.lt_succ_self _, ?_, rfl⟩, _, [], ?_, World.ownsRow_nil _ _ _ _⟩, ((Below.refl _ _).alloc (Nat.le_refl _) _).alloc (by simp) _⟩
  · rw [Below.heap_alloc _ _ _ (by simp)]
    exact heap_alloc_new w _
  · have h2 : (w.alloc (.map #[⟨.string u, .bool true, 0⟩] 1)).heap.size = w.heap.size + 1 := by simp
    rw [← h2]
    exact heap_alloc_new _ _
end Go.Proofs.Qxb6605920aFmt
