import Derived.Test.Qxb6605801aTake
import Derived.Laws.IdiomStrings
import Derived.Lib.Strings
import Derived.Lib.BufferRead
namespace Go.Proofs.Qxb6605801a.fnLexTakeTiles
open Go.ChangeShapes Go.WideShapes Go.ChangeAt Go.RowKit

/-- What stands ahead of the k-th cut: 0, or the cut before it. -/
def pv (z : Nat → Int) : Nat → Int
  | 0 => 0
  | k + 1 => z k

/-- The first n cuts rise from 0 and stay within m. -/
def Good (z : Nat → Int) (n m : Nat) : Prop := ∀ j, j < n → pv z j ≤ z j ∧ z j ≤ (m : Int)

theorem Good.bd {z : Nat → Int} {n m : Nat} (h : Good z n m) : ∀ k, k ≤ n → 0 ≤ pv z k ∧ pv z k ≤ (m : Int) := by
  intro k
  induction k with
  | zero => intro _; exact ⟨Int.le_refl _, by show (0 : Int) ≤ _; omega⟩
  | succ k ih =>
    intro hk
    have h1 := ih (by omega)
    have h2 := h k (by omega)
    show 0 ≤ z k ∧ z k ≤ (m : Int)
    omega

theorem Good.succ {z : Nat → Int} {n m : Nat} (h : Good z n m) (h1 : pv z n ≤ z n) (h2 : z n ≤ (m : Int)) : Good z (n + 1) m := by
  intro j hj
  by_cases e : j = n
  · subst e; exact ⟨h1, h2⟩
  · exact h j (by omega)

/-- The cuts as places in the text. -/
def qv (z : Nat → Int) (k : Nat) : Nat := (pv z k).toNat

theorem Good.q {z : Nat → Int} {n m : Nat} (h : Good z n m) : (∀ k, k ≤ n → pv z k = (qv z k : Int) ∧ qv z k ≤ m) ∧ (∀ j, j < n → z j = (qv z (j + 1) : Int) ∧ qv z j ≤ qv z (j + 1)) := by
  have a : ∀ k, k ≤ n → pv z k = (qv z k : Int) ∧ qv z k ≤ m := by
    intro k hk
    have := h.bd k hk
    unfold qv
    omega
  refine ⟨a, fun j hj => ?_⟩
  have h1 := a j (by omega)
  have h2 := a (j + 1) (by omega)
  have h3 := h j hj
  have h4 : pv z (j + 1) = z j := rfl
  rw [h4] at h2
  exact ⟨h2.1, by omega⟩

theorem size_ext (s : ByteArray) (a b : Nat) (hb : b ≤ s.size) : (s.extract a b).size = b - a := by
  simp; omega

theorem str_take (s : ByteArray) (a b : Nat) (h : a ≤ b) : (Lib.strCells s).take a ++ Lib.strCells (s.extract a b) = (Lib.strCells s).take b := by
  unfold Lib.strCells
  rw [Lib.extract_data, List.map_take, List.map_drop]
  have : b = a + (b - a) := by omega
  conv => rhs; rw [this]
  rw [List.take_add]

/-- 'string(joined)': what is owned, as a text. -/
theorem conv_own {w : World} {base : Nat} {v : Value} (s : ByteArray) (n : Nat) (hn : n ≤ s.size) (h : w.ownsRow base 5 1 v n ((Lib.strCells s).take n)) (u8 : Try.prog.underlying 5 = some (.int .u8)) (w' : World) (hw : w'.heap = w.heap) :
    (convert 26 9 v).run Try.prog w' = .ok (.string (s.extract 0 n)) w' := by
  have hl : (s.data.toList.take n).length = n := by
    rw [List.length_take]
    have : s.data.toList.length = s.size := by simp
    omega
  have he : (⟨(s.data.toList.take n).toArray⟩ : ByteArray) = s.extract 0 n := by
    apply ByteArray.ext
    apply Array.toList_inj.1
    rw [Lib.extract_data]
    simp
  rcases h.2 with ⟨rfl, rfl⟩ | ⟨g, cap, cur, rfl, _, hg, _, _, _, htake⟩
  · rw [Lib.run_convert_nil_bytes w' 26 9 5 0 Try.underlying26 u8 Try.underlying9]
    have : (⟨#[]⟩ : ByteArray) = s.extract 0 0 := by rw [← he]; simp
    rw [this]
  · have hc := run_convert_bytes_back (P := Try.prog) w' 26 9 5 ⟨g, 0, none⟩ cap (s.data.toList.take n) Try.underlying26 u8 Try.underlying9 (fun j hj => by
      have h1 := h.cells (g := g) rfl j (.int .u8 ((s.data.toList.take n)[j].toNat : Int)) (by
        unfold Lib.strCells
        rw [← List.map_take, List.getElem?_map, List.getElem?_eq_getElem hj]
        rfl)
      rw [← h1]
      exact World.cell?_of_block (by rw [hw]))
    rw [hl, he] at hc
    exact hc
end Go.Proofs.Qxb6605801a.fnLexTakeTiles
