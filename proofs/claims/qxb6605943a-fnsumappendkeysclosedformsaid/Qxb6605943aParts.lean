import Derived.Test.Qxb6605943aRows
import Derived.WalkKit
import Derived.ProofKit
import Derived.WalkSpells
import Derived.WalkLawsBesides
import Derived.OpenShut
import Derived.Below
import Derived.BigQuiet
import Derived.Deep.QuietTactic
import Derived.Deep.RegionHeld3
namespace Go.Proofs.Qxb6605943a
open Go.RowKit

/-- What the walk is told of the keys that came in: nil, or a row of two cells a key. -/
def KeysIn (w : World) (ao : Option Addr) (len cap : Nat) (M : Nat → ByteArray) (Y : Nat → Int) : Prop :=
  (ao = none ∧ len = 0 ∧ cap = 0) ∨ ∃ x, ao = some x ∧ (∀ k, k < len → w.cell? (x.add (k * 2)) = some (.string (M k))) ∧ ∀ k, k < len → w.cell? ⟨(x.add (k * 2)).block, (x.add (k * 2)).off + 1, none⟩ = some (.int .i64 (Y k))

/-- It is still so where nothing that was there has turned. -/
theorem KeysIn.kept {w w' : World} {B : Nat} {ao : Option Addr} {len cap : Nat} {M : Nat → ByteArray} {Y : Nat → Int} (h : KeysIn w ao len cap M Y) (hb : Below B w w') (hB : w.heap.size ≤ B) : KeysIn w' ao len cap M Y := by
  rcases h with h | ⟨x, h, hm, hy⟩
  · exact .inl h
  · refine .inr ⟨x, h, fun k hk => ?_, fun k hk => ?_⟩
    · rw [hb.cell (Nat.lt_of_lt_of_le (World.block_lt_of_cell? w _ (hm k hk)) hB)]; exact hm k hk
    · rw [hb.cell (Nat.lt_of_lt_of_le (World.block_lt_of_cell? w _ (hy k hk)) hB)]; exact hy k hk

/-- The call returned a Bool; the world is as it was. -/
def RetB (w : World) (e : Ending) (w' : World) : Prop := ∃ r : Bool, e = .returned (.bool r) ∧ w' = w
theorem retB (w : World) (r : Bool) : RetB w (.returned (.bool r)) w := ⟨r, rfl, rfl⟩
def RetI (w : World) (e : Ending) (w' : World) : Prop := ∃ r : Int, e = .returned (.int .i64 r) ∧ w' = w
theorem retI (w : World) (r : Int) : RetI w (.returned (.int .i64 r)) w := ⟨r, rfl, rfl⟩

set_option maxHeartbeats 400000 in
theorem zz5 (a : ByteArray) (f t : Int) (ao : Option Addr) (len cap : Nat) (M : Nat → ByteArray) (Y : Nat → Int) (w : World) (ha : a.size ≤ maxLen) (hlen : len ≤ maxLen) (hk : KeysIn w ao len cap M Y) :
    Calls Try.prog 5 #[.string a, .int .i64 f, .int .i64 t, .slice ao len cap] w fun e w' => RetB w e w' := by
  unfold maxLen at ha hlen
  rcases hk with ⟨rfl, rfl, rfl⟩ | ⟨x, rfl, hm, _⟩
  · go_enter Try.func5, Try.ntmps5
    go_wp2
    any_goals (go_ret; exact retB _ _)
    refine wp_loop_rounds 1 ?_
    rw [rounds_succ]
    go_wp2
    go_ret
    exact retB _ _
  · go_enter Try.func5, Try.ntmps5
    go_wp2
    any_goals (go_ret; exact retB _ _)
    go_loop [9, 10] (fun n i => ∃ k : Nat, ∃ z : Int, k ≤ len ∧ i = .int .i64 k ∧ n = .int .i64 z) (fun _ i => len - (intOf i).toNat)
    case atStart => exact ⟨0, _, Nat.zero_le _, rfl, rfl⟩
    case round =>
      obtain ⟨k, z, hk, rfl, rfl⟩ := hrel
      by_cases hlt : k < len
      · have c0 := hm k hlt
        go_wp2
        any_goals (go_ret; exact retB _ _)
        go_round
        case rel => exact ⟨k + 1, _, by omega, by go_num, rfl⟩
        case measure => simp [intOf]; omega
      · go_wp2
        go_ret
        exact retB _ _

set_option maxHeartbeats 400000 in
theorem zz12 (a : ByteArray) (f d t : Int) (ao : Option Addr) (len cap : Nat) (M : Nat → ByteArray) (Y : Nat → Int) (w : World) (ha : a.size ≤ maxLen) (hlen : len ≤ maxLen) (hk : KeysIn w ao len cap M Y) :
    Calls Try.prog 12 #[.string a, .int .i64 f, .int .i64 d, .int .i64 t, .slice ao len cap] w fun e w' => RetB w e w' := by
  unfold maxLen at ha hlen
  rcases hk with ⟨rfl, rfl, rfl⟩ | ⟨x, rfl, hm, _⟩
  · go_enter Try.func12, Try.ntmps12
    go_wp2
    any_goals (go_ret; exact retB _ _)
    refine wp_loop_rounds 1 ?_
    rw [rounds_succ]
    go_wp2
    go_ret
    exact retB _ _
  · go_enter Try.func12, Try.ntmps12
    go_wp2
    any_goals (go_ret; exact retB _ _)
    go_loop [11, 12] (fun n i => ∃ k : Nat, ∃ z : Int, k ≤ len ∧ i = .int .i64 k ∧ n = .int .i64 z) (fun _ i => len - (intOf i).toNat)
    case atStart => exact ⟨0, _, Nat.zero_le _, rfl, rfl⟩
    case round =>
      obtain ⟨k, z, hk, rfl, rfl⟩ := hrel
      by_cases hlt : k < len
      · have c0 := hm k hlt
        go_wp2
        any_goals (go_ret; exact retB _ _)
        go_round
        case rel => exact ⟨k + 1, _, by omega, by go_num, rfl⟩
        case measure => simp [intOf]; omega
      · go_wp2
        go_ret
        exact retB _ _

set_option maxHeartbeats 400000 in
theorem keyBytes_any (ao : Option Addr) (len cap : Nat) (M : Nat → ByteArray) (Y : Nat → Int) (w : World) (hlen : len ≤ maxLen) (hk : KeysIn w ao len cap M Y) :
    Calls Try.prog 6 #[.slice ao len cap] w fun e w' => RetI w e w' := by
  unfold maxLen at hlen
  rcases hk with ⟨rfl, rfl, rfl⟩ | ⟨x, rfl, hm, _⟩
  · go_enter Try.func6, Try.ntmps6
    go_wp2
    refine wp_loop_rounds 1 ?_
    rw [rounds_succ]
    go_wp2
    go_ret
    exact retI _ _
  · go_enter Try.func6, Try.ntmps6
    go_wp2
    any_goals (go_ret; exact retI _ _)
    go_loop [3, 4] (fun n i => ∃ k : Nat, ∃ z : Int, k ≤ len ∧ i = .int .i64 k ∧ n = .int .i64 z) (fun _ i => len - (intOf i).toNat)
    case atStart => exact ⟨0, _, Nat.zero_le _, rfl, rfl⟩
    case round =>
      obtain ⟨k, z, hk, rfl, rfl⟩ := hrel
      by_cases hlt : k < len
      · have c0 := hm k hlt
        go_wp2
        any_goals (go_ret; exact retI _ _)
        go_round
        case rel => exact ⟨k + 1, _, by omega, by go_num, rfl⟩
        case measure => simp [intOf]; omega
      · go_wp2
        go_ret
        exact retI _ _

theorem uwrap (f t : Int) (h : f ≤ t) (h2 : t - f < 18446744073709551616) : IntKind.u64.wrap (IntKind.u64.wrap t - IntKind.u64.wrap f) = t - f := by
  simp only [IntKind.wrap, IntKind.signed, IntKind.bits]
  simp
  omega

set_option maxHeartbeats 400000 in
theorem year_zero (f t : Int) (w : World) (hf : -9223372036854775808 ≤ f) (hf' : f ≤ 9223372036854775807) (ht : -9223372036854775808 ≤ t) (ht' : t ≤ 9223372036854775807) (h : t < f ∨ 9223372036854775807 ≤ t ∨ 65536 ≤ t - f) :
    Calls Try.prog 7 #[.int .i64 f, .int .i64 t] w fun e w' => e = .returned (.int .i64 0) ∧ w' = w := by
  by_cases h1 : t < f
  · go_enter Try.func7, Try.ntmps7
    go_wp2
    go_ret
    exact ⟨rfl, rfl⟩
  by_cases h2 : 9223372036854775807 ≤ t
  · have h2' : (t == 9223372036854775807) = true := by rw [beq_iff_eq]; omega
    go_enter Try.func7, Try.ntmps7
    go_wp2
    go_ret
    exact ⟨rfl, rfl⟩
  · have h2' : (t == 9223372036854775807) = false := by rw [beq_eq_false_iff_ne]; omega
    have h3 : 65536 ≤ t - f := by omega
    have he := uwrap f t (by omega) (by omega)
    clear h
    go_enter Try.func7, Try.ntmps7
    go_wp2
    go_ret
    exact ⟨rfl, rfl⟩

set_option maxHeartbeats 400000 in
theorem year_z (f t z : Int) (w : World) (h0 : 0 ≤ z) (hm : z < 65536) (he : IntKind.u64.wrap (IntKind.u64.wrap t - IntKind.u64.wrap f) = z) (h2' : (t == 9223372036854775807) = false) (h1 : f ≤ t) :
    Calls Try.prog 7 #[.int .i64 f, .int .i64 t] w fun e w' => e = .returned (.int .i64 (z + 1)) ∧ w' = w := by
  go_enter Try.func7, Try.ntmps7
  go_wp2
  go_ret
  exact ⟨rfl, rfl⟩

theorem year_n (f t : Int) (m : Nat) (w : World) (hm : m < 65536) (e : t - f = m) (ht' : t < 9223372036854775807) :
    Calls Try.prog 7 #[.int .i64 f, .int .i64 t] w fun e w' => e = .returned (.int .i64 ((m : Int) + 1)) ∧ w' = w :=
  year_z f t m w (by omega) (by omega) (by rw [uwrap f t (by omega) (by omega)]; exact e) (by rw [beq_eq_false_iff_ne]; omega) (by omega)

/-- n keys as cells, two a key. -/
def kcf (M : Nat → ByteArray) (Y : Nat → Int) : Nat → List Value
  | 0 => []
  | n + 1 => kcf M Y n ++ [.string (M n), .int .i64 (Y n)]

theorem kcf_len (M : Nat → ByteArray) (Y : Nat → Int) : ∀ n, (kcf M Y n).length = n * 2
  | 0 => rfl
  | n + 1 => by simp [kcf, kcf_len M Y n]; omega

theorem kcf_at (M : Nat → ByteArray) (Y : Nat → Int) : ∀ n j, j < n → (kcf M Y n)[j * 2]? = some (.string (M j)) ∧ (kcf M Y n)[j * 2 + 1]? = some (.int .i64 (Y j))
  | 0, _, h => absurd h (Nat.not_lt_zero _)
  | n + 1, j, h => by
    have hl := kcf_len M Y n
    by_cases e : j = n
    · subst e
      simp only [kcf]
      constructor
      · rw [List.getElem?_append_right (by omega), hl]; simp
      · rw [List.getElem?_append_right (by omega), hl, show j * 2 + 1 - j * 2 = 1 by omega]; rfl
    · obtain ⟨h0, h1⟩ := kcf_at M Y n j (by omega)
      simp only [kcf]
      rw [List.getElem?_append_left (by omega), List.getElem?_append_left (by omega)]
      exact ⟨h0, h1⟩

theorem kcf_one (M : Nat → ByteArray) (Y : Nat → Int) : ∀ n, ∀ u ∈ kcf M Y n, u.oneCell' = true
  | 0, _, h => by cases h
  | n + 1, u, h => by
    simp only [kcf, List.mem_append] at h
    rcases h with h | h
    · exact kcf_one M Y n u h
    · simp at h
      rcases h with rfl | rfl <;> rfl

theorem info33 : (Try.prog.info? 33).map (fun i => (i.zero, i.size, i.bytes)) = some (some (.agg #[.string ⟨#[]⟩, .int .i64 0]), 2, 24) := by kernel_rfl

/-- The copy of the keys, k of them done. -/
def Copied (M : Nat → ByteArray) (Y : Nat → Int) (w : World) (len k : Nat) (wr : World) : Prop :=
  (∃ cur : List Value, cur.length = len * 2 ∧ wr.heap[w.heap.size]? = some (.cells cur.toArray 33 (0, 0)) ∧ cur.take (k * 2) = kcf M Y k) ∧ Below w.heap.size w wr

theorem made_pairs {w wm : World} {len : Nat} {xs : List Value} (h : wm.ownsRow w.heap.size 33 2 (.slice (some ⟨w.heap.size, 0, none⟩) len len) len xs) (hg : w.grownBy wm none) (M : Nat → ByteArray) (Y : Nat → Int) : Copied M Y w len 0 wm := by
  refine ⟨?_, ?_⟩
  · rcases h.2 with ⟨h, _⟩ | ⟨g', cap, cur, hv, _, hg, _, _, hcs, _⟩
    · cases h
    · simp at hv
      obtain ⟨rfl, rfl⟩ := hv
      exact ⟨cur.toList, by simpa using hcs, by simpa using hg, by simp [kcf]⟩
  · exact (Below.refl _ _).grown hg (Nat.le_refl _) (fun _ h => by cases h)

theorem Copied.dest {M : Nat → ByteArray} {Y : Nat → Int} {w : World} {len k : Nat} {wr : World} (h : Copied M Y w len k wr) (hk : k < len) :
    ∃ v0 v1, wr.cell? ⟨w.heap.size, k * 2, none⟩ = some v0 ∧ wr.cell? ⟨w.heap.size, k * 2 + 1, none⟩ = some v1 ∧ wr.frozen? ⟨w.heap.size, k * 2, none⟩ = false ∧ wr.frozen? ⟨w.heap.size, k * 2 + 1, none⟩ = false := by
  obtain ⟨⟨cur, hl, hb, _⟩, _⟩ := h
  refine ⟨cur[k * 2]'(by omega), cur[k * 2 + 1]'(by omega), ?_, ?_, ?_, ?_⟩
  · simp [World.cell?, hb, show k * 2 < cur.length by omega]
  · simp [World.cell?, hb, show k * 2 + 1 < cur.length by omega]
  · simp [World.frozen?, hb]
  · simp [World.frozen?, hb]

theorem take_two (cur : List Value) (n : Nat) (a b : Value) (h : n + 2 ≤ cur.length) : ((cur.set n a).set (n + 1) b).take (n + 2) = cur.take n ++ [a, b] := by
  apply List.ext_getElem?
  intro i
  by_cases h1 : i < n
  · rw [List.getElem?_take_of_lt (by omega), List.getElem?_set_ne (by omega), List.getElem?_set_ne (by omega), List.getElem?_append_left (by simp; omega), List.getElem?_take_of_lt h1]
  · by_cases h2 : i = n
    · subst h2
      rw [List.getElem?_take_of_lt (by omega), List.getElem?_set_ne (by omega), List.getElem?_set_self (by omega), List.getElem?_append_right (by simp; omega)]
      simp [show min i cur.length = i by omega]
    · by_cases h3 : i = n + 1
      · subst h3
        rw [List.getElem?_take_of_lt (by omega), List.getElem?_set_self (by simp; omega), List.getElem?_append_right (by simp; omega)]
        simp [show min n cur.length = n by omega]
      · rw [List.getElem?_eq_none (by simp; omega), List.getElem?_eq_none (by simp; omega)]

theorem Copied.step {M : Nat → ByteArray} {Y : Nat → Int} {w : World} {len k : Nat} {wr : World} (h : Copied M Y w len k wr) (hk : k < len) (nq : Nat) :
    Copied M Y w len (k + 1) (((wr.setCell ⟨w.heap.size, k * 2, none⟩ (.string (M k))).setCell ⟨w.heap.size, k * 2 + 1, none⟩ (.int .i64 (Y k))).drewN nq) := by
  obtain ⟨⟨cur, hl, hb, hc⟩, hbel⟩ := h
  refine ⟨⟨(cur.set (k * 2) (.string (M k))).set (k * 2 + 1) (.int .i64 (Y k)), by simpa using hl, ?_, ?_⟩, ((hbel.setCell (Nat.le_refl _) _).setCell (Nat.le_refl _) _).trans ⟨rfl, rfl, rfl, Nat.le_refl _, fun _ _ => rfl⟩⟩
  · simp [World.setCell, Array.getElem?_modify, hb]
  · rw [show (k + 1) * 2 = k * 2 + 2 by omega, take_two _ _ _ _ (by omega), hc]
    rfl

theorem Copied.owns {M : Nat → ByteArray} {Y : Nat → Int} {w : World} {len : Nat} {wr : World} (h : Copied M Y w len len wr) (hl : len ≤ maxLen) : wr.ownsRow w.heap.size 33 2 (.slice (some ⟨w.heap.size, 0, none⟩) len len) len (kcf M Y len) := by
  obtain ⟨⟨cur, hlc, hb, hc⟩, _⟩ := h
  exact ⟨kcf_len M Y len, .inr ⟨w.heap.size, len, cur.toArray, rfl, Nat.le_refl _, hb, Nat.le_refl _, hl, by simpa using hlc, by simpa using hc⟩⟩

theorem keep2 {wr : World} {p a b : Addr} {v u u' : Value} (h : wr.cell? p = some v) (na : p.block ≠ a.block) (nb : p.block ≠ b.block) : (((wr.setCell a u).setCell b u').drew).cell? p = some v := by
  have e1 : ((wr.setCell a u).setCell b u').heap[p.block]? = wr.heap[p.block]? := by
    rw [Below.heap_setCell _ _ _ _ nb, Below.heap_setCell _ _ _ _ na]
  exact (World.cell?_of_block (w := wr) (w' := ((wr.setCell a u).setCell b u').drew) e1).trans h

set_option maxHeartbeats 1000000 in
theorem toKeys_row (x : Addr) (len cap : Nat) (M : Nat → ByteArray) (Y : Nat → Int) (w : World) (hlen : len ≤ 65536)
    (hm : ∀ k, k < len → w.cell? (x.add (k * 2)) = some (.string (M k))) (hy : ∀ k, k < len → w.cell? ⟨(x.add (k * 2)).block, (x.add (k * 2)).off + 1, none⟩ = some (.int .i64 (Y k))) :
    Calls Try.prog 9 #[.slice (some x) len cap] w fun e w' => e = .returned (.slice (some ⟨w.heap.size, 0, none⟩) len len) ∧ Copied M Y w len len w' := by
  obtain ⟨i0, hi, hz0, hz1, hz2⟩ := info_parts info33
  go_enter Try.func9, Try.ntmps9
  go_wp2_with (at_make; refine wpList_make_full _ rfl (.tmp 6) (.tmp 6) 26 rfl w.heap.size 33 i0 _ 2 Try.underlying26 hi hz0 hz1 .i64 .i64 _ _ len rfl rfl rfl rfl (by rw [hz2]; omega) (by unfold maxLen; omega) (Nat.le_refl _) ?_; intro wm hown hgr; have HM : Hid (Copied M Y w len 0 wm) := made_pairs hown hgr M Y; clear hown hgr)
  go_loopw [4] (fun i wr => ∃ k : Nat, k ≤ len ∧ i = .int .i64 k ∧ Hid (Copied M Y w len k wr)) (fun i _ => len - (intOf i).toNat)
  case atStart => exact ⟨0, Nat.zero_le _, rfl, HM⟩
  case round =>
    obtain ⟨k, hk, rfl, HR⟩ := hrel
    by_cases hlt : k < len
    · obtain ⟨v0, v1, d0, d1, f0, f1⟩ := HR.out.dest hlt
      have l0 := World.block_lt_of_cell? w _ (hm k hlt)
      have l1 := World.block_lt_of_cell? w _ (hy k hlt)
      have s0 : wr.cell? (x.add (k * 2)) = some (.string (M k)) := (HR.out.2.cell l0).trans (hm k hlt)
      have s1 : wr.cell? ⟨(x.add (k * 2)).block, (x.add (k * 2)).off + 1, none⟩ = some (.int .i64 (Y k)) := (HR.out.2.cell l1).trans (hy k hlt)
      have hi0 : (0 : Int) ≤ (k : Int) := by omega
      have hi1 : (k : Int) < (len : Int) := by omega
      have HN0 : Hid ((x.add (k * 2)).block ≠ w.heap.size) := (by omega : (x.add (k * 2)).block ≠ w.heap.size)
      have HS0 : Hid (wr.cell? (x.add (k * 2)) = some (.string (M k))) := s0
      have HS1 : Hid (wr.cell? ⟨(x.add (k * 2)).block, (x.add (k * 2)).off + 1, none⟩ = some (.int .i64 (Y k))) := s1
      go_wp2_with fail
      go_region_held3 (fun w' => w'.cell? (x.add (k * 2)) = some (.string (M k)) ∧ w'.cell? ⟨(x.add (k * 2)).block, (x.add (k * 2)).off + 1, none⟩ = some (.int .i64 (Y k))) (first | exact And.intro (keep2 HS0.out HN0.out HN0.out) (keep2 HS1.out HN0.out HN0.out) | go_keep) (fail)
      go_wp2
      go_roundw
      case rel => exact ⟨k + 1, by omega, by go_num, HR.out.step hlt 1⟩
      case measure => simp [intOf]; omega
    · obtain rfl : k = len := by omega
      go_wp2
      go_ret
      exact ⟨rfl, HR.out⟩

set_option maxHeartbeats 1000000 in
theorem toKeys_nil (M : Nat → ByteArray) (Y : Nat → Int) (w : World) :
    Calls Try.prog 9 #[.slice none 0 0] w fun e w' => e = .returned (.slice (some ⟨w.heap.size, 0, none⟩) 0 0) ∧ Copied M Y w 0 0 w' := by
  obtain ⟨i0, hi, hz0, hz1, hz2⟩ := info_parts info33
  go_enter Try.func9, Try.ntmps9
  go_wp2_with (at_make; refine wpList_make_full _ rfl (.tmp 6) (.tmp 6) 26 rfl w.heap.size 33 i0 _ 2 Try.underlying26 hi hz0 hz1 .i64 .i64 _ _ 0 rfl rfl rfl rfl (by rw [hz2]; omega) (by unfold maxLen; omega) (Nat.le_refl _) ?_; intro wm hown hgr; have HM : Hid (Copied M Y w 0 0 wm) := made_pairs hown hgr M Y; clear hown hgr)
  refine wp_loop_rounds 1 ?_
  rw [rounds_succ]
  go_wp2
  go_ret
  exact ⟨rfl, HM.out⟩

/-- toKeys: a row of the call's own with the same keys. -/
theorem toKeys_any (ao : Option Addr) (len cap : Nat) (M : Nat → ByteArray) (Y : Nat → Int) (w : World) (hlen : len ≤ 65536) (hk : KeysIn w ao len cap M Y) :
    Calls Try.prog 9 #[.slice ao len cap] w fun e w' => e = .returned (.slice (some ⟨w.heap.size, 0, none⟩) len len) ∧ w'.ownsRow w.heap.size 33 2 (.slice (some ⟨w.heap.size, 0, none⟩) len len) len (kcf M Y len) ∧ Below w.heap.size w w' := by
  rcases hk with ⟨rfl, rfl, rfl⟩ | ⟨x, rfl, hm, hy⟩
  · exact (toKeys_nil M Y w).mono fun e w' ⟨he, hc⟩ => ⟨he, hc.owns (Nat.zero_le _), hc.2⟩
  · exact (toKeys_row x len cap M Y w hlen hm hy).mono fun e w' ⟨he, hc⟩ => ⟨he, hc.owns (by unfold maxLen; omega), hc.2⟩
end Go.Proofs.Qxb6605943a
