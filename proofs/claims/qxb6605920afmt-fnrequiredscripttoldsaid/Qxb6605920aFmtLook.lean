import Derived.Test.Qxb6605920aFmtCover
import Derived.Deep.RegionHeld3
import Derived.Deep.RegionLaw
import Derived.Deep.AppendLies
import Derived.Deep.DrawnRows
import Derived.MapKept
namespace Go.Proofs.Qxb6605920aFmt
open Go.RowKit Go.Extern.Stop Go.Stop Go.Extern
attribute [local go_sem ↓] Go.wp_at_zero Go.wp_at_succ
attribute [local go_sem] call25 call28 guard op9_115w strict9 ptr69 elem69 isError69 fmtD fmtDr fmtCr

/-- fmt.Errorf at the format of (*checker).problem, two strings. -/
theorem errorf_two (F : Interp) (x y : ByteArray) (b : Nat) (w : World) (hF : F.answers w.tape) (hc : w.cell? ⟨b, 0, none⟩ = some (.iface 9 (.string x))) (hc1 : w.cell? ⟨b, 1, none⟩ = some (.iface 9 (.string y))) :
    Calls Tryf.prog 23 #[.string ⟨#[37, 115, 58, 32, 37, 115]⟩, .slice (some ⟨b, 0, none⟩) 2 2] w fun e w' => e = .returned (.iface 69 (.pointer (some ⟨w.heap.size, 0, none⟩))) ∧
      ∃ s, w' = (w.alloc (.cells #[.string s] 71)).drew := by
  have hF' := answers_open hF
  go_enter Tryf.func23, Tryf.ntmps23
  go_wp2
  go_ret
  exact ⟨rfl, _, rfl⟩

/-- fmt.Sprintf at the format without a verb, no operand: a string, one draw. -/
theorem rows_sprintf (a : Value) (f : ByteArray) (w : World) (R : Value → World → Prop) (h : ∀ s, R (.string s) w.drew) : Rows Tryf.prog FmtCalls.turnsRow (FmtCalls.save 0 0 a f [] []) w R := by
  apply rows_value nextTurns
  case hr => go_simp; exact ⟨rfl, rfl⟩
  case h => exact h _

theorem run_sprintf (w : World) : (FmtCalls.sprintf #[9, 64] #[9] #[.string ⟨#[105, 115, 32, 114, 101, 113, 117, 105, 114, 101, 100]⟩, .slice none 0 0]).run Tryf.prog w =
    .ok (.row FmtCalls.turnsRow (FmtCalls.save 0 0 (.slice none 0 0) ⟨#[105, 115, 32, 114, 101, 113, 117, 105, 114, 101, 100]⟩ [] [])) w := by kernel_rfl

theorem wp_sprintf {o : Oper} {a : Act} {w : World} {K : Act → World → Prop} {Q : Exit → Act → World → Prop} (f x : Operand) (ts : Array TypeId)
    (ho : o.op = .call { callee := .value (.func 28), args := #[f, x], argTypes := ts }) (hf : a.eval f = .string ⟨#[105, 115, 32, 114, 101, 113, 117, 105, 114, 101, 100]⟩) (hx : a.eval x = .slice none 0 0)
    (h : ∀ s, K (a.put o.dst (.string s)) w.drew) : Oper.wp Tryf.prog o a w K Q := by
  have h28 : a.eval (.func 28) = .func (.func 28) #[] #[] := rfl
  unfold Oper.wp
  simp [execOp, ho, resolve, invoke, hf, hx, h28, Deferred.ofValue, call28, run_sprintf, Oper.upon_row]
  exact rows_sprintf _ _ w _ h

/-- A call of fmt.Errorf as one step of a region that draws its order. -/
theorem wp_errorf {o : Oper} {a : Act} {w : World} {K : Act → World → Prop} {Q : Exit → Act → World → Prop} (f x : Operand) (ts : Array TypeId)
    (ho : o.op = .call { callee := .value (.func 23), args := #[f, x], argTypes := ts }) (F : Interp) (p q : ByteArray) (b : Nat) (hf : a.eval f = .string ⟨#[37, 115, 58, 32, 37, 115]⟩) (hx : a.eval x = .slice (some ⟨b, 0, none⟩) 2 2)
    (hF : F.answers w.tape) (hc : w.cell? ⟨b, 0, none⟩ = some (.iface 9 (.string p))) (hc1 : w.cell? ⟨b, 1, none⟩ = some (.iface 9 (.string q)))
    (h : ∀ s, K (a.put o.dst (.iface 69 (.pointer (some ⟨w.heap.size, 0, none⟩)))) (w.alloc (.cells #[.string s] 71)).drew) : Oper.wp Tryf.prog o a w K Q := by
  have h23 : a.eval (.func 23) = .func (.func 23) #[] #[] := rfl
  have hr : (callFunc 23 #[.string ⟨#[37, 115, 58, 32, 37, 115]⟩, .slice (some ⟨b, 0, none⟩) 2 2]).run Tryf.prog w = .ok (.enter 23 #[.string ⟨#[37, 115, 58, 32, 37, 115]⟩, .slice (some ⟨b, 0, none⟩) 2 2]) w := by kernel_rfl
  unfold Oper.wp
  simp [execOp, ho, resolve, invoke, hf, hx, h23, Deferred.ofValue, hr, Oper.upon_enter]
  refine (errorf_two F p q b w hF hc hc1).mono ?_
  rintro e w' ⟨rfl, s, rfl⟩
  exact h s

theorem info38 : (Tryf.prog.info? 38).map (fun i => (i.zero, i.size, i.bytes)) = some (some .nilIface, 1, 16) := by kernel_rfl

/-- What the set of unread key paths is: nil, or a map of one entry in a block below K; 'g': what a look-up in it answers. -/
def MapIs (g : ByteArray → Bool) (K : Nat) (mv : Value) (w : World) : Prop :=
  (mv = .map none ∧ g = fun _ => false) ∨
  ∃ M u b c, mv = .map (some M) ∧ M < K ∧ w.heap[M]? = some (.map #[⟨.string u, .bool true, b⟩] c) ∧ g = fun k => k.toList == u.toList

/-- The checker in block K: its problems are n errors in a row of the call's own from block K + 1 on. -/
def Chk (g : ByteArray → Bool) (K : Nat) (mv : Value) (n : Nat) (w : World) : Prop :=
  MapIs g K mv w ∧ ∃ v xs, w.heap[K]? = some (.cells #[v, mv, .map none, .map none, .map none, .map none] 60 (0, 0)) ∧ w.ownsRow (K + 1) 38 1 v n xs

theorem own3 {w : World} {base e n : Nat} {v : Value} {xs : List Value} (h : Hid (w.ownsRow base e 1 v n xs)) (V E O : Obj) : ((((w.alloc V).alloc E).alloc O).drew.drew.drew).ownsRow base e 1 v n xs :=
  ((((h.out.alloc V).alloc E).alloc O).drew.drew).drew

theorem news3 (w : World) (V E : Obj) (x : Value) : ∀ j u, [x][j]? = some u → ((((w.alloc V).alloc E).alloc (.cells #[x] 38)).drew.drew.drew).cell? ((⟨w.heap.size + 1 + 1, 0, none⟩ : Addr).add j) = some u := by
  have hb : ((((w.alloc V).alloc E).alloc (.cells #[x] 38)).drew.drew.drew).heap[w.heap.size + 1 + 1]? = some (.cells #[x] 38 (0, 0)) := by
    have h2 : ((w.alloc V).alloc E).heap.size = w.heap.size + 1 + 1 := by simp
    have := heap_alloc_new ((w.alloc V).alloc E) (.cells #[x] 38)
    rw [h2] at this
    exact this
  exact World.news_of_block hb

/-- The checker's own cells behind the append. -/
theorem after_app {w w1 : World} {K n : Nat} {v : Value} {xs : List Value} {V E O : Obj} (h : Hid (w.ownsRow (K + 1) 38 1 v n xs)) (hK : K < w.heap.size) (hg : ((((w.alloc V).alloc E).alloc O).drew.drew.drew).grownBy w1 v.ownBlock) :
    w1.heap[K]? = w.heap[K]? := by
  have hne : some K ≠ v.ownBlock := fun e => by have := (h.out.lt K e.symm).1; omega
  rw [hg.block K (by simp; omega) hne]
  show (((w.alloc V).alloc E).alloc O).heap[K]? = _
  rw [Below.heap_alloc _ _ _ (by simp; omega), Below.heap_alloc _ _ _ (by simp; omega), Below.heap_alloc _ _ _ hK]

theorem cell_same {w w1 : World} {K : Nat} (h : w1.heap[K]? = w.heap[K]?) (o : Nat) : w1.cell? ⟨K, o, none⟩ = w.cell? ⟨K, o, none⟩ ∧ w1.frozen? ⟨K, o, none⟩ = w.frozen? ⟨K, o, none⟩ :=
  ⟨World.cell?_of_block h, World.frozen?_of_block h⟩

/-- What the append leaves: one error more; the blocks ahead of the checker's, and the checker's own, are as they were. -/
def Appended (K n : Nat) (v : Value) (w w1 : World) : Prop :=
  (∃ xs, w1.ownsRow (K + 1) 38 1 v n xs) ∧ w1.heap[K]? = w.heap[K]? ∧ Below K w w1

theorem wp_app {o : Oper} {a : Act} {Kc : Act → World → Prop} {Q : Exit → Act → World → Prop} (s x : Operand)
    (ho : o.op = .call { callee := .builtin .append, args := #[s, x], argTypes := #[55, 55] }) (w : World) (K n : Nat) (ao : Option Addr) (cap : Nat) (xs : List Value) (V E : Obj) (y : Value)
    (hs : a.eval s = .slice ao n cap) (hx : a.eval x = .slice (some ⟨w.heap.size + 1 + 1, 0, none⟩) 1 1) (hown : Hid (w.ownsRow (K + 1) 38 1 (.slice ao n cap) n xs)) (hK : K < w.heap.size) (hn : n ≤ 65536) (hy : y.oneCell' = true)
    (c0 : w.cell? ⟨K, 0, none⟩ = some (.slice ao n cap)) (f0 : w.frozen? ⟨K, 0, none⟩ = false)
    (h : ∀ g cap' w1, w1.cell? ⟨K, 0, none⟩ = some (.slice ao n cap) → w1.frozen? ⟨K, 0, none⟩ = false → Hid (Appended K (n + 1) (.slice (some ⟨g, 0, none⟩) (n + 1) cap') w w1) → Kc (a.put o.dst (.slice (some ⟨g, 0, none⟩) (n + 1) cap')) w1) :
    Oper.wp Tryf.prog o a ((((w.alloc V).alloc E).alloc (.cells #[y] 38)).drew.drew.drew) Kc Q := by
  obtain ⟨i0, hi, hz0, hz1, hz2⟩ := info_parts info38
  refine wp_append_lies _ s x 55 ho (K + 1) 38 i0 .nilIface 1 16 Tryf.underlying55 hi hz0 hz1 hz2 rfl (by omega) (.slice ao n cap) n xs hs (own3 hown V E _) ⟨w.heap.size + 1 + 1, 0, none⟩ 1 1 [y] hx rfl (news3 w V E y)
    (by intro u hu; simp at hu; subst hu; exact hy) (by omega) (by unfold maxLen; omega) (by omega) (by simp; omega) (w.heap.size + 1 + 1 + 1) (by simp) ?_
  intro g cap' w1 hown1 hgrow _ _
  have hsame := after_app hown hK hgrow
  refine h g cap' w1 ((cell_same hsame 0).1.trans c0) ((cell_same hsame 0).2.trans f0) ⟨⟨_, hown1⟩, hsame, ?_⟩
  have hb : Below K w ((((w.alloc V).alloc E).alloc (.cells #[y] 38)).drew.drew.drew) := ((((Below.refl K w).alloc (by omega) V).alloc (by simp; omega) E).alloc (by simp; omega) _).drew.drew.drew
  exact hb.grown hgrow (by simp; omega) (fun k hk => by have := (hown.out.lt k hk).1; omega)

theorem check9 (k : ByteArray) (e : Bool) (w : World) : (Instr.checkKey e 10000 9 (.string k)).run Tryf.prog w = .ok () w :=
  MapKept.run_checkKey (P := Tryf.prog) (kt := 9) Tryf.underlying9 (by simp [MapKept.IsKey]) e 9999

theorem look_nil57 (k : ByteArray) (w : World) : (Instr.lookup 57 (.map none) (.string k) false).run Tryf.prog w = .ok (.bool false) w := by
  simp only [Instr.lookup]
  have hf := MapKept.run_findKey (P := Tryf.prog) (w := w) (kt := 9) (k := .string k) (l := []) (a := none) Tryf.underlying9 rfl
  simp [run_underlying Tryf.underlying57, check9, hf]

theorem look_one57 (k u : ByteArray) (M b c : Nat) (w : World) (h : w.heap[M]? = some (.map #[⟨.string u, .bool true, b⟩] c)) : (Instr.lookup 57 (.map (some M)) (.string k) false).run Tryf.prog w = .ok (.bool (k.toList == u.toList)) w := by
  rw [← beq_toListBytes]
  simp only [Instr.lookup]
  cases hk : (k == u)
  · have hf := MapKept.run_findKey (P := Tryf.prog) (w := w) (kt := 9) (k := .string k) (l := [⟨.string u, .bool true, b⟩]) (a := none) Tryf.underlying9 (by simp [Instr.findNow, Instr.sameNow, hk])
    simp [run_underlying Tryf.underlying57, MapKept.run_getObj_map h, check9, hf]
  · have hf := MapKept.run_findKey (P := Tryf.prog) (w := w) (kt := 9) (k := .string k) (l := [⟨.string u, .bool true, b⟩]) (a := some (0, .bool true)) Tryf.underlying9 (by simp [Instr.findNow, Instr.sameNow, hk])
    simp [run_underlying Tryf.underlying57, MapKept.run_getObj_map h, check9, hf]

theorem MapIs.look {g : ByteArray → Bool} {K : Nat} {mv : Value} {w : World} (h : MapIs g K mv w) : ∀ k : ByteArray, (Instr.lookup 57 mv (.string k) false).run Tryf.prog w = .ok (.bool (g k)) w := by
  intro k
  rcases h with ⟨rfl, rfl⟩ | ⟨M, u, b, c, rfl, _, hb, rfl⟩
  · exact look_nil57 k w
  · exact look_one57 k u M b c w hb

theorem MapIs.kept {g : ByteArray → Bool} {K : Nat} {mv : Value} {w w' : World} (h : MapIs g K mv w) (hb : Below K w w') : MapIs g K mv w' := by
  rcases h with h | ⟨M, u, b, c, rfl, hM, hh, rfl⟩
  · exact .inl h
  · exact .inr ⟨M, u, b, c, rfl, hM, by rw [hb.block M hM]; exact hh, rfl⟩

theorem put_last (w : World) (a b : Obj) : (w.alloc a).heap.setIfInBounds w.heap.size b = (w.alloc b).heap := by
  show (w.heap.push a).setIfInBounds w.heap.size b = w.heap.push b
  apply Array.ext'
  simp

/-- 'm[path] = true' in the map that was just made. -/
theorem insert57 (u : ByteArray) (w : World) : (Instr.mapUpdate 57 (.map (some w.heap.size)) (.string u) (.bool true)).run Tryf.prog (w.alloc (.map #[] 0)) = .ok () (w.alloc (.map #[⟨.string u, .bool true, 0⟩] 1)) := by
  simp only [Instr.mapUpdate]
  have hb : (w.alloc (.map #[] 0)).heap[w.heap.size]? = some (.map #[] 0) := heap_alloc_new w _
  have hf := MapKept.run_findKey (P := Tryf.prog) (w := w.alloc (.map #[] 0)) (kt := 9) (k := .string u) (l := []) (a := none) Tryf.underlying9 rfl
  simp [run_underlying Tryf.underlying57, MapKept.run_getObj_map hb, check9, hf, MapKept.run_setObj_map _ hb]
  rw [put_last]
  rfl

theorem chk_after {g : ByteArray → Bool} {K n : Nat} {mv v v' : Value} {w w1 : World} (hm : MapIs g K mv w) (hk : w.heap[K]? = some (.cells #[v, mv, .map none, .map none, .map none, .map none] 60 (0, 0)))
    (ha : Hid (Appended K (n + 1) v' w w1)) : Chk g K mv (n + 1) (w1.setCell ⟨K, 0, none⟩ v') ∧ Below K w (w1.setCell ⟨K, 0, none⟩ v') := by
  obtain ⟨⟨xs, hown⟩, hs, hb⟩ := ha.out
  have hb' : Below K w (w1.setCell ⟨K, 0, none⟩ v') := hb.setCell (Nat.le_refl _) _
  refine ⟨⟨hm.kept hb', v', xs, ?_, ownsRow_setCell_below hown (Nat.lt_succ_self K) _⟩, hb'⟩
  rw [hk] at hs
  simp [World.setCell, Array.getElem?_modify, hs]
end Go.Proofs.Qxb6605920aFmt
