import Derived.Test.Qxb6605801aCalls
import Derived.Laws.CopyOwn
import Derived.Lib.AppendStr
namespace Go.Proofs.Qxb6605801a.fnLexTakeTiles
open Go.ChangeShapes Go.WideShapes Go.ChangeAt Go.RowKit

/-- A float stored: the kit has the store's law for the other kinds. -/
theorem run_store_float {P : Program} (w : World) (a : Addr) (m : Mode) (k : FloatKind) (x : Nat) : (store a (.float k x) m).run P w = stored P w a (.float k x) m := run_store P w a _ m rfl
attribute [local go_sem] run_store_float

theorem heap_put2 (w : World) (b : Nat) (s : ByteArray) (o : Int) (v : Value) (hb : w.heap[b]? = some (.cells #[.string s, .int .i64 o] 31 (0, 0))) :
    (w.setCell ⟨b, 1, none⟩ v).heap[b]? = some (.cells #[.string s, v] 31 (0, 0)) := by
  simp [World.setCell, Array.getElem?_modify, hb]

theorem grown_put (w : World) (b : Nat) (v : Value) : w.grownBy (w.setCell ⟨b, 1, none⟩ v) (some b) :=
  ⟨rfl, rfl, rfl, by simp [World.setCell], fun k _ hne => Below.heap_setCell _ _ _ _ (fun h => hne (by rw [h]))⟩

theorem grown_trans {a b c : World} {r : Option Nat} (h : a.grownBy b r) (k : b.grownBy c r) : a.grownBy c r :=
  ⟨k.os.trans h.os, k.tape.trans h.tape, k.output.trans h.output, Nat.le_trans h.size k.size, fun i hi hne => (k.block i (Nat.lt_of_lt_of_le hi h.size) hne).trans (h.block i hi hne)⟩

set_option maxHeartbeats 400000 in
theorem take8 (b : Nat) (s t0 : ByteArray) (o st en : Nat) (k o0 : Int) (w : World) (_hs : s.size ≤ maxLen) (hse : st ≤ en) (hen : en ≤ s.size)
    (hb : w.heap[b]? = some (.cells #[.string s, .int .i64 o] 31 (0, 0))) :
    Calls Try.prog 8 #[.pointer (some ⟨b, 0, none⟩), .agg #[.int .i64 k, .int .i64 o0, .string t0, .int .i64 0, .int .i64 0, .string ⟨#[]⟩, .string ⟨#[]⟩, .int .i64 0, .float .f64 0, .bool false, .bool false, .map none, .slice none 0 0], .int .i64 st, .int .i64 en] w
      fun e w' => e = .returned (.agg #[.int .i64 k, .int .i64 st, .string (s.extract st en), .int .i64 0, .int .i64 0, .string ⟨#[]⟩, .string ⟨#[]⟩, .int .i64 0, .float .f64 0, .bool false, .bool false, .map none, .slice none 0 0]) ∧ w.grownBy w' (some b) ∧ w'.heap[b]? = some (.cells #[.string s, .int .i64 en] 31 (0, 0)) := by
  unfold maxLen at _hs
  have hblt : b < w.heap.size := (Array.getElem?_eq_some_iff.1 hb).1
  have c0 : w.cell? ⟨b, 0, none⟩ = some (.string s) := by simp [World.cell?, hb]
  have c1 : w.cell? ⟨b, 1, none⟩ = some (.int .i64 o) := by simp [World.cell?, hb]
  have f1 : w.frozen? ⟨b, 1, none⟩ = false := by simp [World.frozen?, hb]
  have HB : Hid (w.heap[b]? = some (.cells #[.string s, .int .i64 o] 31 (0, 0))) := hb
  clear hb
  go_enter Try.func8, Try.ntmps8
  go_wp2
  refine bodyPost_ret (v := .agg #[.int .i64 k, .int .i64 st, .string (s.extract st en), .int .i64 0, .int .i64 0, .string ⟨#[]⟩, .string ⟨#[]⟩, .int .i64 0, .float .f64 0, .bool false, .bool false, .map none, .slice none 0 0]) (by simp [results, Try.results8, go_sem]) rfl ⟨rfl, ?_, ?_⟩
  · exact grown_trans (grown_put w b _) (grown_trans (World.grownBy_alloc _ _ _) (World.grownBy_alloc _ _ _))
  · have h1 := heap_put2 w b s o (.int .i64 en) HB.out
    rw [Below.heap_alloc _ _ _ (by simp; omega), Below.heap_alloc _ _ _ (by simp; omega)]
    exact h1

set_option maxHeartbeats 400000 in
theorem take7 (b : Nat) (s t0 : ByteArray) (o st en : Nat) (k o0 : Int) (w : World) (hs : s.size ≤ maxLen) (hse : st ≤ en) (hen : en ≤ s.size)
    (hb : w.heap[b]? = some (.cells #[.string s, .int .i64 o] 31 (0, 0))) :
    Calls Try.prog 7 #[.pointer (some ⟨b, 0, none⟩), .int .i64 k, .int .i64 0, .string t0, .int .i64 o0, .int .i64 st, .int .i64 en] w
      fun e w' => e = .returned (.tuple #[.int .i64 k, .int .i64 0, .int .i64 st, .string (s.extract st en)]) ∧ w.grownBy w' (some b) ∧ w'.heap[b]? = some (.cells #[.string s, .int .i64 en] 31 (0, 0)) := by
  have hblt : b < w.heap.size := (Array.getElem?_eq_some_iff.1 hb).1
  have HB : Hid (w.heap[b]? = some (.cells #[.string s, .int .i64 o] 31 (0, 0))) := hb
  clear hb
  go_enter Try.func7, Try.ntmps7
  go_wp2_with fail
  refine (take8 b s t0 o st en k o0 _ hs hse hen HB.out).mono ?_
  rintro e w1 ⟨rfl, hg, hb1⟩
  have hz1 := hg.size
  have HG : Hid (w.grownBy w1 (some b)) := hg
  have HB1 : Hid (w1.heap[b]? = some (.cells #[.string s, .int .i64 en] 31 (0, 0))) := hb1
  clear hg hb1
  go_wp2_with fail
  go_quiet (fail)
  go_wp2
  refine bodyPost_ret (v := .tuple #[.int .i64 k, .int .i64 0, .int .i64 st, .string (s.extract st en)]) (by simp [results, Try.results7, go_sem]) rfl ⟨rfl, ?_, ?_⟩
  · exact grown_trans (grown_trans HG.out (World.grownBy_alloc _ _ _)) ⟨rfl, rfl, rfl, Nat.le_refl _, fun _ _ _ => rfl⟩
  · rw [World.heap_drewN, Below.heap_alloc _ _ _ (by omega)]
    exact HB1.out
end Go.Proofs.Qxb6605801a.fnLexTakeTiles
