import Derived.Test.Qxb6605920aFmtTable
namespace Go.Proofs.Qxb6605920aFmt
open Go.RowKit Go.Extern.Stop Go.Stop Go.Extern

/-- The call returned a Bool; the world is as it was. -/
def RetB (w : World) (e : Ending) (w' : World) : Prop := ∃ r : Bool, e = .returned (.bool r) ∧ w' = w
theorem retB (w : World) (r : Bool) : RetB w (.returned (.bool r)) w := ⟨r, rfl, rfl⟩

set_option maxHeartbeats 400000 in
theorem zz16 (h : Bool) (u : ByteArray) (x : Addr) (len cap : Nat) (P V : Nat → ByteArray) (w : World) (hu : u.size ≤ maxLen) (hlen : len ≤ maxLen)
    (hp : ∀ k, k < len → w.cell? (x.add (k * 2)) = some (.string (P k))) (hv : ∀ k, k < len → w.cell? ⟨(x.add (k * 2)).block, (x.add (k * 2)).off + 1, none⟩ = some (.string (V k))) :
    Calls Tryf.prog 16 #[.bool h, .string u, .slice (some x) len cap] w fun e w' => RetB w e w' := by
  unfold maxLen at hu hlen
  go_enter Tryf.func16, Tryf.ntmps16
  go_wp2
  any_goals (go_ret; exact retB _ _)
  go_loop [7, 8] (fun n i => ∃ k : Nat, ∃ z : Int, k ≤ len ∧ i = .int .i64 k ∧ n = .int .i64 z) (fun _ i => len - (intOf i).toNat)
  case atStart => exact ⟨0, _, Nat.zero_le _, rfl, rfl⟩
  case round =>
    obtain ⟨k, z, hk, rfl, rfl⟩ := hrel
    by_cases hlt : k < len
    · have c0 := hp k hlt
      have c1 := hv k hlt
      go_wp2
      any_goals (go_ret; exact retB _ _)
      go_round
      case rel => exact ⟨k + 1, _, by omega, by go_num, rfl⟩
      case measure => simp [intOf]; omega
    · go_wp2
      go_ret
      exact retB _ _

set_option maxHeartbeats 400000 in
theorem zz16_nil (h : Bool) (u : ByteArray) (w : World) (hu : u.size ≤ maxLen) :
    Calls Tryf.prog 16 #[.bool h, .string u, .slice none 0 0] w fun e w' => RetB w e w' := by
  unfold maxLen at hu
  go_enter Tryf.func16, Tryf.ntmps16
  go_wp2
  any_goals (go_ret; exact retB _ _)
  refine wp_loop_rounds 1 ?_
  rw [rounds_succ]
  go_wp2
  go_ret
  exact retB _ _

theorem info52 : (Tryf.prog.info? 52).map (fun i => (i.zero, i.size, i.bytes)) = some (some (.agg #[.string ⟨#[]⟩, .string ⟨#[]⟩]), 2, 32) := by kernel_rfl

/-- The copy of the entries, k of them done: block C of two cells an entry. -/
def Copied (P V : Nat → ByteArray) (w : World) (len k : Nat) (wr : World) : Prop :=
  (∃ cur : List Value, cur.length = len * 2 ∧ wr.heap[w.heap.size]? = some (.cells cur.toArray 52 (0, 0)) ∧ ∀ j, j < k → cur[j * 2]? = some (.string (P j)) ∧ cur[j * 2 + 1]? = some (.string (V j))) ∧ Below w.heap.size w wr

theorem made_pairs {w wm : World} {len nq : Nat} {xs : List Value} (h : wm.ownsRow w.heap.size 52 2 (.slice (some ⟨w.heap.size, 0, none⟩) len len) len xs) (hg : (w.drewN nq).grownBy wm none) (P V : Nat → ByteArray) : Copied P V w len 0 wm := by
  refine ⟨?_, ?_⟩
  · rcases h.2 with ⟨h, _⟩ | ⟨g', cap, cur, hv, _, hg, _, _, hcs, _⟩
    · cases h
    · simp at hv
      obtain ⟨rfl, rfl⟩ := hv
      exact ⟨cur.toList, by simpa using hcs, by simpa using hg, fun j hj => absurd hj (Nat.not_lt_zero j)⟩
  · have h0 : Below w.heap.size w (w.drewN nq) := ⟨rfl, rfl, rfl, Nat.le_refl _, fun _ _ => rfl⟩
    exact h0.grown hg (Nat.le_refl _) (fun _ h => by cases h)

theorem Copied.dest {P V : Nat → ByteArray} {w : World} {len k : Nat} {wr : World} (h : Copied P V w len k wr) (hk : k < len) :
    ∃ v0 v1, wr.cell? ⟨w.heap.size, k * 2, none⟩ = some v0 ∧ wr.cell? ⟨w.heap.size, k * 2 + 1, none⟩ = some v1 ∧ wr.frozen? ⟨w.heap.size, k * 2, none⟩ = false ∧ wr.frozen? ⟨w.heap.size, k * 2 + 1, none⟩ = false := by
  obtain ⟨⟨cur, hl, hb, _⟩, _⟩ := h
  refine ⟨cur[k * 2]'(by omega), cur[k * 2 + 1]'(by omega), ?_, ?_, ?_, ?_⟩
  · simp [World.cell?, hb, show k * 2 < cur.length by omega]
  · simp [World.cell?, hb, show k * 2 + 1 < cur.length by omega]
  · simp [World.frozen?, hb]
  · simp [World.frozen?, hb]

theorem Copied.cells {P V : Nat → ByteArray} {w : World} {len n : Nat} {wr : World} (h : Copied P V w len n wr) {k : Nat} (hk : k < n) :
    wr.cell? ⟨w.heap.size, k * 2, none⟩ = some (.string (P k)) ∧ wr.cell? ⟨w.heap.size, k * 2 + 1, none⟩ = some (.string (V k)) := by
  obtain ⟨⟨cur, hl, hb, hc⟩, _⟩ := h
  obtain ⟨h0, h1⟩ := hc k hk
  exact ⟨by simp [World.cell?, hb, h0], by simp [World.cell?, hb, h1]⟩

theorem Copied.step {P V : Nat → ByteArray} {w : World} {len k : Nat} {wr : World} (h : Copied P V w len k wr) (hk : k < len) :
    Copied P V w len (k + 1) ((wr.setCell ⟨w.heap.size, k * 2, none⟩ (.string (P k))).setCell ⟨w.heap.size, k * 2 + 1, none⟩ (.string (V k))) := by
  obtain ⟨⟨cur, hl, hb, hc⟩, hbel⟩ := h
  refine ⟨⟨(cur.set (k * 2) (.string (P k))).set (k * 2 + 1) (.string (V k)), by simpa using hl, ?_, ?_⟩, (hbel.setCell (Nat.le_refl _) _).setCell (Nat.le_refl _) _⟩
  · simp [World.setCell, Array.getElem?_modify, hb]
  · intro j hj
    by_cases e : j = k
    · subst e
      have h1 : j * 2 + 1 ≠ j * 2 := by omega
      refine ⟨?_, ?_⟩
      · rw [List.getElem?_set_ne h1, List.getElem?_set_self (by omega)]
      · rw [List.getElem?_set_self (by simp; omega)]
    · obtain ⟨h0, h1⟩ := hc j (by omega)
      refine ⟨?_, ?_⟩
      · rw [List.getElem?_set_ne (by omega), List.getElem?_set_ne (by omega)]; exact h0
      · rw [List.getElem?_set_ne (by omega), List.getElem?_set_ne (by omega)]; exact h1

theorem Copied.kept {P V : Nat → ByteArray} {w : World} {len n K : Nat} {wr w' : World} (h : Copied P V w len n wr) (hK : w.heap.size < K) (hb : Below K wr w') : Copied P V w len n w' := by
  obtain ⟨⟨cur, hl, hh, hc⟩, hbel⟩ := h
  exact ⟨⟨cur, hl, by rw [hb.block _ hK]; exact hh, hc⟩, hbel.trans (hb.mono (Nat.le_of_lt hK))⟩

theorem Copied.lt {P V : Nat → ByteArray} {w : World} {len n : Nat} {wr : World} (h : Copied P V w len n wr) : w.heap.size < wr.heap.size := by
  obtain ⟨⟨cur, hl, hh, hc⟩, _⟩ := h
  exact (Array.getElem?_eq_some_iff.1 hh).1

/-- What holds at the head of the last loop: m problems so far. -/
def Rel3 (P V : Nat → ByteArray) (w : World) (len : Nat) (g : ByteArray → Bool) (K : Nat) (mv : Value) (m : Nat) (wr : World) : Prop := Chk g K mv m wr ∧ Copied P V w len len wr ∧ w.heap.size < K

theorem Rel3.add {P V : Nat → ByteArray} {w : World} {len : Nat} {g : ByteArray → Bool} {K : Nat} {mv : Value} {m : Nat} {wr w' : World} (h : Rel3 P V w len g K mv m wr) (ha : Added g K mv m wr w') : Rel3 P V w len g K mv (m + 1) w' :=
  ⟨ha.1, h.2.1.kept h.2.2 ha.2, h.2.2⟩
end Go.Proofs.Qxb6605920aFmt
