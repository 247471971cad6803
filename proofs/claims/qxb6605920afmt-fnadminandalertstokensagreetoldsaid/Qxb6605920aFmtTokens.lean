import Derived.Test.Qxb6605920aFmtFacts
import Derived.BigQuiet
import Derived.Deep.QuietTactic
import Derived.Below
namespace Go.Proofs.Qxb6605920aFmt
open Go.RowKit Go.Extern.Stop Go.Stop Go.Extern
attribute [local go_sem] call25 guard op9_115w strict9 ptr69 elem69 isError69

/-- fmt.Errorf at a format with one operand, a string under s. -/
theorem errorf_one (F : Interp) (fm x : ByteArray) (b : Nat) (w : World) (hF : F.answers w.tape) (_h2 : ∀ w, (FmtDoors.printed fm 1).run Tryf.prog w = .ok [(0, 115, false)] w)
    (hc : w.cell? ⟨b, 0, none⟩ = some (.iface 9 (.string x))) :
    Calls Tryf.prog 23 #[.string fm, .slice (some ⟨b, 0, none⟩) 1 1] w fun e w' => e = .returned (.iface 69 (.pointer (some ⟨w.heap.size, 0, none⟩))) ∧ Below w.heap.size w w' := by
  have hF' := answers_open hF
  go_enter Tryf.func23, Tryf.ntmps23
  go_wp2
  go_ret
  exact ⟨rfl, ((Below.refl _ _).alloc (Nat.le_refl _) _).drew⟩

theorem below3 (w : World) (o1 o2 o3 : Obj) (w' : World) (h : Below (((w.alloc o1).alloc o2).alloc o3).heap.size (((w.alloc o1).alloc o2).alloc o3) w') : Below w.heap.size w w' :=
  ((((Below.refl _ _).alloc (Nat.le_refl _) o1).alloc (by simp) o2).alloc (by simp; omega) o3).trans (h.mono (by simp; omega))

theorem errorf_A (F : Interp) (x : ByteArray) (b : Nat) (w : World) (hF : F.answers w.tape) (hc : w.cell? ⟨b, 0, none⟩ = some (.iface 9 (.string x))) :
    Calls Tryf.prog 23 #[.string ⟨#[97, 100, 109, 105, 110, 95, 116, 111, 107, 101, 110, 95, 101, 110, 118, 58, 32, 101, 110, 118, 105, 114, 111, 110, 109, 101, 110, 116, 32, 118, 97, 114, 105, 97, 98, 108, 101, 32, 37, 115, 32, 105, 115, 32, 110, 111, 116, 32, 115, 101, 116]⟩, .slice (some ⟨b, 0, none⟩) 1 1] w fun e w' => e = .returned (.iface 69 (.pointer (some ⟨w.heap.size, 0, none⟩))) ∧ Below w.heap.size w w' :=
  errorf_one F _ x b w hF fmtAr hc
theorem errorf_B (F : Interp) (x : ByteArray) (b : Nat) (w : World) (hF : F.answers w.tape) (hc : w.cell? ⟨b, 0, none⟩ = some (.iface 9 (.string x))) :
    Calls Tryf.prog 23 #[.string ⟨#[97, 108, 101, 114, 116, 115, 46, 116, 111, 107, 101, 110, 95, 101, 110, 118, 58, 32, 101, 110, 118, 105, 114, 111, 110, 109, 101, 110, 116, 32, 118, 97, 114, 105, 97, 98, 108, 101, 32, 37, 115, 32, 105, 115, 32, 110, 111, 116, 32, 115, 101, 116]⟩, .slice (some ⟨b, 0, none⟩) 1 1] w fun e w' => e = .returned (.iface 69 (.pointer (some ⟨w.heap.size, 0, none⟩))) ∧ Below w.heap.size w w' :=
  errorf_one F _ x b w hF fmtBr hc

set_option maxHeartbeats 400000 in
theorem admin_yes (al te en ev : ByteArray) (C : Nat) (w : World) (hC : C < w.heap.size) (h3 : w.cell? ⟨C, 3, none⟩ = some (.string al)) (h4 : w.cell? ⟨C, 4, none⟩ = some (.string te))
    (ha : al.toList.isEmpty = false) (he : (te.toList == en.toList) = true) (hv : ev.toList.isEmpty = false) :
    Calls Tryf.prog 7 #[.pointer (some ⟨C, 0, none⟩), .string en, .string ev] w fun e w' => e = .returned (.tuple #[.string ev, .nilIface]) ∧ Below w.heap.size w w' := by
  go_enter Tryf.func7, Tryf.ntmps7
  go_wp2
  go_ret2
  exact ⟨rfl, ((Below.refl _ _).alloc (Nat.le_refl _) _).alloc (by simp) _⟩

set_option maxRecDepth 100000 in
set_option maxHeartbeats 400000 in
theorem admin_no (F : Interp) (al te en ev : ByteArray) (C : Nat) (w : World) (hF : F.answers w.tape) (hC : C < w.heap.size) (h3 : w.cell? ⟨C, 3, none⟩ = some (.string al)) (h4 : w.cell? ⟨C, 4, none⟩ = some (.string te))
    (ha : al.toList.isEmpty = false) (h : (te.toList == en.toList) = false ∨ (te.toList == en.toList) = true ∧ ev.toList.isEmpty = true) :
    Calls Tryf.prog 7 #[.pointer (some ⟨C, 0, none⟩), .string en, .string ev] w fun e w' => (∃ a, e = .returned (.tuple #[.string ⟨#[]⟩, .iface 69 (.pointer (some a))])) ∧ Below w.heap.size w w' := by
  rcases h with h | ⟨h, h'⟩
  · go_enter Tryf.func7, Tryf.ntmps7
    go_wp2_with (first | (go_at_call 17; go_in) | (go_at_call 22; go_in) | (go_at_call 18; go_in))
    refine (errorf_A F te _ _ (by exact hF) (by go_simp)).mono ?_
    rintro e w' ⟨rfl, hb⟩
    have HB : Hid _ := hb
    clear hb
    go_wp2
    go_ret2
    exact ⟨⟨_, rfl⟩, below3 w _ _ _ w' HB.out⟩
  · go_enter Tryf.func7, Tryf.ntmps7
    go_wp2_with (first | (go_at_call 17; go_in) | (go_at_call 22; go_in) | (go_at_call 18; go_in))
    refine (errorf_A F te _ _ (by exact hF) (by go_simp)).mono ?_
    rintro e w' ⟨rfl, hb⟩
    have HB : Hid _ := hb
    clear hb
    go_wp2
    go_ret2
    exact ⟨⟨_, rfl⟩, below3 w _ _ _ w' HB.out⟩

set_option maxHeartbeats 400000 in
theorem alerts_yes (te en ev : ByteArray) (C A : Nat) (w : World) (hC : C < w.heap.size) (hA : A < w.heap.size) (h3 : w.cell? ⟨C, 10, none⟩ = some (.pointer (some ⟨A, 0, none⟩))) (h4 : w.cell? ⟨A, 1, none⟩ = some (.string te))
    (ha : te.toList.isEmpty = false) (he : (te.toList == en.toList) = true) (hv : ev.toList.isEmpty = false) :
    Calls Tryf.prog 8 #[.pointer (some ⟨C, 0, none⟩), .string en, .string ev] w fun e w' => e = .returned (.tuple #[.string ev, .nilIface]) ∧ Below w.heap.size w w' := by
  go_enter Tryf.func8, Tryf.ntmps8
  go_wp2
  go_ret2
  exact ⟨rfl, ((Below.refl _ _).alloc (Nat.le_refl _) _).alloc (by simp) _⟩

set_option maxRecDepth 100000 in
set_option maxHeartbeats 400000 in
theorem alerts_no (F : Interp) (te en ev : ByteArray) (C A : Nat) (w : World) (hF : F.answers w.tape) (hC : C < w.heap.size) (hA : A < w.heap.size) (h3 : w.cell? ⟨C, 10, none⟩ = some (.pointer (some ⟨A, 0, none⟩))) (h4 : w.cell? ⟨A, 1, none⟩ = some (.string te))
    (ha : te.toList.isEmpty = false) (h : (te.toList == en.toList) = false ∨ (te.toList == en.toList) = true ∧ ev.toList.isEmpty = true) :
    Calls Tryf.prog 8 #[.pointer (some ⟨C, 0, none⟩), .string en, .string ev] w fun e w' => (∃ a, e = .returned (.tuple #[.string ⟨#[]⟩, .iface 69 (.pointer (some a))])) ∧ Below w.heap.size w w' := by
  rcases h with h | ⟨h, h'⟩
  · go_enter Tryf.func8, Tryf.ntmps8
    go_wp2_with (first | (go_at_call 19; go_in) | (go_at_call 20; go_in))
    refine (errorf_B F te _ _ (by exact hF) (by go_simp)).mono ?_
    rintro e w' ⟨rfl, hb⟩
    have HB : Hid _ := hb
    clear hb
    go_wp2
    go_ret2
    exact ⟨⟨_, rfl⟩, below3 w _ _ _ w' HB.out⟩
  · go_enter Tryf.func8, Tryf.ntmps8
    go_wp2_with (first | (go_at_call 19; go_in) | (go_at_call 20; go_in))
    refine (errorf_B F te _ _ (by exact hF) (by go_simp)).mono ?_
    rintro e w' ⟨rfl, hb⟩
    have HB : Hid _ := hb
    clear hb
    go_wp2
    go_ret2
    exact ⟨⟨_, rfl⟩, below3 w _ _ _ w' HB.out⟩

theorem env_yes (en ev te : ByteArray) (w : World) (h : (te.toList == en.toList) = true) :
    Calls Tryf.prog 9 #[.string en, .string ev, .string te] w fun e w' => e = .returned (.string ev) ∧ w' = w := by
  go_enter Tryf.func9, Tryf.ntmps9
  go_wp2
  go_ret
  exact ⟨rfl, rfl⟩

theorem env_no (en ev te : ByteArray) (w : World) (h : (te.toList == en.toList) = false) :
    Calls Tryf.prog 9 #[.string en, .string ev, .string te] w fun e w' => e = .returned (.string ⟨#[]⟩) ∧ w' = w := by
  go_enter Tryf.func9, Tryf.ntmps9
  go_wp2
  go_ret
  exact ⟨rfl, rfl⟩
end Go.Proofs.Qxb6605920aFmt
