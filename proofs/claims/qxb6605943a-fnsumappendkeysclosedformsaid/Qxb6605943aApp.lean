import Derived.Test.Qxb6605943aParts
import Derived.Deep.AppendLies
namespace Go.Proofs.Qxb6605943a
open Go.RowKit

/-- At the head of appendKeys' loop, j keys appended. -/
def AppRel (metric : ByteArray) (f t : Int) (n base : Nat) (M : Nat → ByteArray) (Y : Nat → Int) (w : World) (j : Nat) (v : Value) (wr : World) : Prop :=
  wr.ownsRow base 33 2 v (n + j) (kcf M Y (n + j)) ∧ wr.heap[w.heap.size]? = some (.cells #[.string metric, .int .i64 f, .int .i64 t] 37 (0, 0)) ∧ Below base w wr

theorem AppRel.step {metric : ByteArray} {f t : Int} {n base : Nat} {M : Nat → ByteArray} {Y : Nat → Int} {w : World} {j : Nat} {v v' : Value} {wr w1 : World} {O : Obj} (h : AppRel metric f t n base M Y w j v wr) (hbase : base ≤ w.heap.size)
    (hM : M (n + j) = metric) (hY : Y (n + j) = f + j) (hown : w1.ownsRow base 33 2 v' (n + j + 1) (kcf M Y (n + j) ++ [.string metric, .int .i64 (f + j)])) (hg : (wr.alloc O).grownBy w1 v.ownBlock) :
    AppRel metric f t n base M Y w (j + 1) v' w1 := by
  obtain ⟨ho, hb, hbel⟩ := h
  have hB : w.heap.size < wr.heap.size := (Array.getElem?_eq_some_iff.1 hb).1
  have hne : some w.heap.size ≠ v.ownBlock := by
    intro e
    rcases ho.2 with ⟨rfl, _⟩ | ⟨gg, cap, cur, rfl, _, hh, _⟩
    · simp [Value.ownBlock] at e
    · simp [Value.ownBlock] at e
      rw [← e, hb] at hh
      simp at hh
  refine ⟨?_, ?_, ?_⟩
  · have e : kcf M Y (n + j) ++ [.string metric, .int .i64 (f + j)] = kcf M Y (n + (j + 1)) := by
      show _ = kcf M Y (n + j) ++ [.string (M (n + j)), .int .i64 (Y (n + j))]
      rw [hM, hY]
    rw [e] at hown
    exact hown
  · rw [hg.block _ (by simp; omega) hne, Below.heap_alloc _ _ _ hB]
    exact hb
  · exact (hbel.alloc (by omega) O).grown hg (by simp; omega) (fun k hk => (ho.lt k hk).1)

theorem AppRel.cells {metric : ByteArray} {f t : Int} {n base : Nat} {M : Nat → ByteArray} {Y : Nat → Int} {w : World} {j : Nat} {v : Value} {wr : World} (h : AppRel metric f t n base M Y w j v wr) :
    wr.cell? ⟨w.heap.size, 0, none⟩ = some (.string metric) ∧ wr.cell? ⟨w.heap.size, 2, none⟩ = some (.int .i64 t) := by
  constructor <;> simp [World.cell?, h.2.1]

/-- What the call handed back. -/
def Apped (n m base : Nat) (M : Nat → ByteArray) (Y : Nat → Int) (w : World) (e : Ending) (w' : World) : Prop :=
  ∃ v', e = .returned v' ∧ w'.ownsRow base 33 2 v' (n + m) (kcf M Y (n + m)) ∧ Below base w w'

set_option maxHeartbeats 1000000 in
theorem app13 (metric : ByteArray) (f t : Int) (m n base : Nat) (v : Value) (M : Nat → ByteArray) (Y : Nat → Int) (w : World) (hown : w.ownsRow base 33 2 v n (kcf M Y n)) (hbase : base ≤ w.heap.size) (hn : n + m ≤ 262144)
    (ht : t + 1 = f + m) (hf : -9223372036854775808 ≤ f) (hmax : f + m ≤ 9223372036854775807) (hM : ∀ i, i < m → M (n + i) = metric) (hY : ∀ i : Nat, i < m → Y (n + i) = f + i) :
    Calls Try.prog 13 #[.agg #[.string metric, .int .i64 f, .int .i64 t], v] w fun e w' => Apped n m base M Y w e w' := by
  obtain ⟨i0, hi, hz0, hz1, hz2⟩ := info_parts info33
  have HT : Hid (t + 1 = f + m) := ht
  have HO : Hid (w.ownsRow base 33 2 v n (kcf M Y n)) := hown
  have HMY : Hid ((∀ i, i < m → M (n + i) = metric) ∧ ∀ i : Nat, i < m → Y (n + i) = f + i) := ⟨hM, hY⟩
  clear hM hY hown ht
  go_enter Try.func13, Try.ntmps13
  go_wp2_with fail
  go_loopw [1, 5] (fun v y wr => ∃ j : Nat, j ≤ m ∧ y = .int .i64 (f + j) ∧ Hid (AppRel metric f t n base M Y w j v wr)) (fun _ y _ => (f + m - intOf y).toNat)
  case atStart => exact ⟨0, Nat.zero_le _, by go_num, HO.out.alloc _, heap_alloc_new w _, (Below.refl _ _).alloc hbase _⟩
  case round =>
    obtain ⟨j, hj, rfl, HR⟩ := hrel
    have hcc := HR.out.cells
    obtain ⟨c0, c2⟩ := hcc
    by_cases hlt : j < m
    · have hle : f + j ≤ t := by have := HT.out; omega
      have hu : f + j + 1 ≤ 9223372036854775807 := by omega
      have hl : -9223372036854775808 ≤ f + j + 1 := by omega
      have hz : base ≤ wr.heap.size := Nat.le_trans hbase HR.out.2.2.size
      go_wp2_with (at_builtin; refine wpList_append_own _ rfl (.tmp 14) (.tmp 19) 26 rfl base 33 i0 _ 2 24 Try.underlying26 hi hz0 hz1 hz2 rfl (by decide) _ (n + j) _ rfl (HR.out.1.alloc _) ⟨wr.heap.size, 0, none⟩ 1 1 [.string metric, .int .i64 (f + j)] rfl rfl (World.news_of_block (cs := #[.string metric, .int .i64 (f + j)]) (t := 33) (fr := (0, 0)) (heap_alloc_new wr _)) (by intro u hu; simp at hu; rcases hu with rfl | rfl <;> rfl) (by unfold maxLen; omega) (by omega) (by simp; omega) ?_; intro v' w1 hown1 hgr hiff; have HR1 : Hid (AppRel metric f t n base M Y w (j + 1) v' w1) := HR.out.step hbase (HMY.out.1 j hlt) (HMY.out.2 j hlt) hown1 hgr; clear hown1 hgr hiff)
      go_roundw
      case rel => exact ⟨j + 1, by omega, by go_num, HR1⟩
      case measure => simp [intOf]; omega
    · have hgt : ¬ f + j ≤ t := by have := HT.out; omega
      obtain rfl : j = m := by omega
      go_wp2
      go_ret
      exact ⟨_, rfl, HR.out.1, HR.out.2.2⟩

theorem own_shape {w : World} {base n : Nat} {v : Value} {xs : List Value} (h : w.ownsRow base 33 2 v n xs) (hn : 0 < n) : ∃ g cap, v = .slice (some ⟨g, 0, none⟩) n cap := by
  rcases h.2 with ⟨_, h0⟩ | ⟨g, cap, cur, hv, _⟩
  · omega
  · exact ⟨g, cap, hv⟩

/-- ZZsumAppendKeys: what it hands back is a row of the call's own. -/
def Apped8 (N base : Nat) (M : Nat → ByteArray) (Y : Nat → Int) (w : World) (e : Ending) (w' : World) : Prop :=
  ∃ g cap, e = .returned (.slice (some ⟨g, 0, none⟩) N cap) ∧ w'.ownsRow base 33 2 (.slice (some ⟨g, 0, none⟩) N cap) N (kcf M Y N) ∧ Below base w w'

set_option maxHeartbeats 400000 in
theorem app8 (metric : ByteArray) (f t : Int) (m n base : Nat) (v : Value) (M : Nat → ByteArray) (Y : Nat → Int) (w : World) (hown : w.ownsRow base 33 2 v n (kcf M Y n)) (hbase : base ≤ w.heap.size) (hn : n + m ≤ 262144) (hpos : 0 < n + m)
    (ht : t + 1 = f + m) (hf : -9223372036854775808 ≤ f) (hmax : f + m ≤ 9223372036854775807) (hM : ∀ i, i < m → M (n + i) = metric) (hY : ∀ i : Nat, i < m → Y (n + i) = f + i) :
    Calls Try.prog 8 #[.string metric, .int .i64 f, .int .i64 t, v] w fun e w' => Apped8 (n + m) base M Y w e w' := by
  have H : Hid (∃ (_ : w.ownsRow base 33 2 v n (kcf M Y n)), t + 1 = f + m ∧ (∀ i, i < m → M (n + i) = metric) ∧ ∀ i : Nat, i < m → Y (n + i) = f + i) := ⟨hown, ht, hM, hY⟩
  clear hown ht hM hY
  go_enter Try.func8, Try.ntmps8
  go_wp2_with fail
  obtain ⟨ho, ht, hM, hY⟩ := H.out
  refine (app13 metric f t m n base v M Y w ho hbase hn ht hf hmax hM hY).mono ?_
  clear ho ht hM hY
  rintro e w1 ⟨v', rfl, ho, hb⟩
  have HO : Hid (w1.ownsRow base 33 2 v' (n + m) (kcf M Y (n + m)) ∧ Below base w w1) := ⟨ho, hb⟩
  clear ho hb
  go_wp2
  go_ret
  obtain ⟨g, cap, hv⟩ := own_shape HO.out.1 hpos
  exact ⟨g, cap, by rw [hv]; rfl, by rw [← hv]; exact HO.out.1, HO.out.2⟩

/-- A key of an owned row. -/
theorem own_key {w : World} {base N g cap : Nat} {M : Nat → ByteArray} {Y : Nat → Int} (h : w.ownsRow base 33 2 (.slice (some ⟨g, 0, none⟩) N cap) N (kcf M Y N)) {k : Nat} (hk : k < N) :
    w.cell? ⟨g, k * 2, none⟩ = some (.string (M k)) ∧ w.cell? ⟨g, k * 2 + 1, none⟩ = some (.int .i64 (Y k)) := by
  have hc := h.cells (g := g) rfl
  obtain ⟨h0, h1⟩ := kcf_at M Y N k hk
  have e : ∀ j, (⟨g, 0, none⟩ : Addr).add j = ⟨g, j, none⟩ := by intro j; unfold Addr.add; split <;> simp_all
  have a0 := hc _ _ h0
  have a1 := hc _ _ h1
  rw [e] at a0 a1
  exact ⟨a0, a1⟩

/-- It is owned still where nothing below B has turned, its block being below B. -/
theorem own_kept {w w' : World} {base B N g cap : Nat} {xs : List Value} (h : w.ownsRow base 33 2 (.slice (some ⟨g, 0, none⟩) N cap) N xs) (hb : Below B w w') (hB : w.heap.size ≤ B) : w'.ownsRow base 33 2 (.slice (some ⟨g, 0, none⟩) N cap) N xs := by
  have hg : g < w.heap.size := (h.lt g rfl).2
  refine ⟨h.1, ?_⟩
  rcases h.2 with ⟨h, _⟩ | ⟨g', c', cur, hv, h1, hh, r⟩
  · cases h
  · simp at hv
    obtain ⟨rfl, rfl⟩ := hv
    exact .inr ⟨g, cap, cur, rfl, h1, by rw [hb.block g (by omega)]; exact hh, r⟩
end Go.Proofs.Qxb6605943a
