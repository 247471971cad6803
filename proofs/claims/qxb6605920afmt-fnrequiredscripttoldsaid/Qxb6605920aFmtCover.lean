import Derived.Test.Qxb6605920aFmtFacts
import Derived.BigQuiet
import Derived.Deep.QuietTactic
import Derived.Below
import Derived.Lib.Strings
import Derived.Laws.StructEq
import Derived.WalkLawsBesides
namespace Go.Proofs.Qxb6605920aFmt
open Go.RowKit

/-- What a look-up in the set of unread key paths answers, 'g', laid over a path: the whole document, the path itself, or the part ahead of one of its dots. -/
def CovP (g : ByteArray → Bool) (p : ByteArray) : Prop := g ⟨#[]⟩ = true ∨ g p = true ∨ ∃ i, ∃ h : i < p.size, (p[i].toNat : Int) = 46 ∧ g (p.extract 0 i) = true

/-- underKeyPath, as its text has it. -/
def Under (u p : ByteArray) : Prop := u.toList.isEmpty = true ∨ (p.toList == u.toList) = true ∨ ∃ h : u.size < p.size, (p[u.size].toNat : Int) = 46 ∧ ((p.extract 0 u.size).toList == u.toList) = true

theorem bytes_eq {a b : ByteArray} (h : (a.toList == b.toList) = true) : a = b := by
  have h' := eq_of_beq h
  rw [Lib.toList_data, Lib.toList_data] at h'
  exact ByteArray.ext (Array.toList_inj.1 h')

theorem cov_iff_under (u p : ByteArray) : CovP (fun k => k.toList == u.toList) p ↔ Under u p := by
  unfold CovP Under
  have h0 : ((⟨#[]⟩ : ByteArray).toList == u.toList) = u.toList.isEmpty := by
    have : (⟨#[]⟩ : ByteArray).toList = [] := by rw [Lib.toList_data]
    rw [this]
    cases u.toList <;> rfl
  simp only [h0]
  constructor
  · rintro (h | h | ⟨i, hi, h1, h2⟩)
    · exact .inl h
    · exact .inr (.inl h)
    · have e := bytes_eq h2
      have hs : u.size = i := by rw [← e]; simp; omega
      subst hs
      exact .inr (.inr ⟨hi, h1, h2⟩)
  · rintro (h | h | ⟨hi, h1, h2⟩)
    · exact .inl h
    · exact .inr (.inl h)
    · exact .inr (.inr ⟨_, hi, h1, h2⟩)

theorem cov_none (p : ByteArray) : ¬ CovP (fun _ => false) p := by
  rintro (h | h | ⟨i, hi, h1, h2⟩)
  · cases h
  · cases h
  · cases h2

/-- The call returned the Bool that says C; the world is as it was. -/
def Says (C : Prop) (w : World) (e : Ending) (w' : World) : Prop := ∃ r : Bool, e = .returned (.bool r) ∧ (r = true ↔ C) ∧ w' = w
theorem says_yes {C : Prop} (w : World) (h : C) : Says C w (.returned (.bool true)) w := ⟨true, rfl, ⟨fun _ => h, fun _ => rfl⟩, rfl⟩
theorem says_no {C : Prop} (w : World) (h : ¬ C) : Says C w (.returned (.bool false)) w := ⟨false, rfl, ⟨fun h => (by cases h), fun h' => absurd h' h⟩, rfl⟩

set_option maxHeartbeats 400000 in
theorem cover_any (g : ByteArray → Bool) (p : ByteArray) (mv : Value) (w : World) (hp : p.size ≤ maxLen) (hl : ∀ k : ByteArray, (Instr.lookup 57 mv (.string k) false).run Tryf.prog w = .ok (.bool (g k)) w) :
    Calls Tryf.prog 27 #[mv, .string p] w fun e w' => Says (CovP g p) w e w' := by
  unfold maxLen at hp
  cases h0 : g ⟨#[]⟩ with
  | true =>
    go_enter Tryf.func27, Tryf.ntmps27
    go_wp2
    go_ret
    exact says_yes _ (.inl h0)
  | false =>
    cases h1 : g p with
    | true =>
      go_enter Tryf.func27, Tryf.ntmps27
      go_wp2
      go_ret
      exact says_yes _ (.inr (.inl h1))
    | false =>
      have H0 : Hid (g ⟨#[]⟩ = false) := h0
      have H1 : Hid (g p = false) := h1
      go_enter Tryf.func27, Tryf.ntmps27
      go_wp2
      go_loop [15] (fun i => ∃ k : Nat, k ≤ p.size ∧ i = .int .i64 k ∧ Hid (∀ j, ∀ h : j < p.size, j < k → (p[j].toNat : Int) = 46 → g (p.extract 0 j) = false)) (fun i => p.size - (intOf i).toNat)
      case atStart => exact ⟨0, Nat.zero_le _, rfl, fun j _ hj => absurd hj (Nat.not_lt_zero j)⟩
      case round =>
        obtain ⟨k, hk, rfl, HN⟩ := hrel
        by_cases hlt : k < p.size
        · by_cases hd : (p[k].toNat : Int) = 46
          · cases hg : g (p.extract 0 k) with
            | true =>
              have hd' : ((p[k].toNat : Int) == 46) = true := by rw [beq_iff_eq]; exact hd
              have HD : Hid ((p[k].toNat : Int) = 46) := hd
              clear hd
              go_wp2
              go_ret
              exact says_yes _ (.inr (.inr ⟨k, hlt, HD.out, hg⟩))
            | false =>
              have hd' : ((p[k].toNat : Int) == 46) = true := by rw [beq_iff_eq]; exact hd
              clear hd
              go_wp2
              go_round
              case rel => exact ⟨k + 1, by omega, by go_num, fun j h hj hx => by
                by_cases e : j = k
                · subst e; exact hg
                · exact HN.out j h (by omega) hx⟩
              case measure => simp [intOf]; omega
          · have hd' : ((p[k].toNat : Int) == 46) = false := by rw [beq_eq_false_iff_ne]; exact hd
            have HD : Hid (¬ (p[k].toNat : Int) = 46) := hd
            clear hd
            go_wp2
            go_round
            case rel => exact ⟨k + 1, by omega, by go_num, fun j h hj hx => by
              by_cases e : j = k
              · subst e; exact absurd hx HD.out
              · exact HN.out j h (by omega) hx⟩
            case measure => simp [intOf]; omega
        · go_wp2
          go_ret
          refine says_no _ (fun h => ?_)
          rcases h with h | h | ⟨i, hi, h1, h2⟩
          · rw [H0.out] at h; cases h
          · rw [H1.out] at h; cases h
          · rw [HN.out i hi (by omega) h1] at h2; cases h2

set_option maxHeartbeats 400000 in
theorem under_any (u p : ByteArray) (w : World) (_hu : u.size ≤ maxLen) (_hp : p.size ≤ maxLen) :
    Calls Tryf.prog 14 #[.string u, .string p] w fun e w' => Says (Under u p) w e w' := by
  unfold maxLen at _hu _hp
  cases h0 : u.toList.isEmpty with
  | true =>
    go_enter Tryf.func14, Tryf.ntmps14
    go_wp2
    go_ret
    exact says_yes _ (.inl h0)
  | false =>
    cases h1 : (p.toList == u.toList) with
    | true =>
      go_enter Tryf.func14, Tryf.ntmps14
      go_wp2
      go_ret
      exact says_yes _ (.inr (.inl h1))
    | false =>
      have H0 : Hid (u.toList.isEmpty = false) := h0
      have H1 : Hid ((p.toList == u.toList) = false) := h1
      by_cases hlt : u.size < p.size
      · by_cases hd : (p[u.size].toNat : Int) = 46
        · have hd' : ((p[u.size].toNat : Int) == 46) = true := by rw [beq_iff_eq]; exact hd
          have HD : Hid ((p[u.size].toNat : Int) = 46) := hd
          clear hd
          cases h2 : ((p.extract 0 u.size).toList == u.toList) with
          | true =>
            go_enter Tryf.func14, Tryf.ntmps14
            go_wp2
            go_ret
            exact says_yes _ (.inr (.inr ⟨hlt, HD.out, h2⟩))
          | false =>
            have H2 : Hid (((p.extract 0 u.size).toList == u.toList) = false) := h2
            go_enter Tryf.func14, Tryf.ntmps14
            go_wp2
            go_ret
            refine says_no _ (fun h => ?_)
            rcases h with h | h | ⟨_, _, h⟩
            · rw [H0.out] at h; cases h
            · rw [H1.out] at h; cases h
            · rw [H2.out] at h; cases h
        · have hd' : ((p[u.size].toNat : Int) == 46) = false := by rw [beq_eq_false_iff_ne]; exact hd
          have HD : Hid (¬ (p[u.size].toNat : Int) = 46) := hd
          clear hd
          go_enter Tryf.func14, Tryf.ntmps14
          go_wp2
          go_ret
          refine says_no _ (fun h => ?_)
          rcases h with h | h | ⟨_, h, _⟩
          · rw [H0.out] at h; cases h
          · rw [H1.out] at h; cases h
          · exact HD.out h
      · have hd : decide ((u.size : Int) < (p.size : Int)) = false := by simp; omega
        go_enter Tryf.func14, Tryf.ntmps14
        go_wp2
        go_ret
        refine says_no _ (fun h => ?_)
        rcases h with h | h | ⟨h, _⟩
        · rw [H0.out] at h; cases h
        · rw [H1.out] at h; cases h
        · omega
end Go.Proofs.Qxb6605920aFmt
