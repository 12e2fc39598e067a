/- rolledBackOf and the walk of FnRolledBackOfRoundTrip. -/
import Derived.Test.Qxb6604012aModsRows
import Derived.WalkKit
import Derived.ProofKit
import Derived.Below
import Derived.BigRegion
namespace Go.Proofs.Qxb6604012aMods
open Go.ChangeShapes Go.WideShapes Go.ChangeAt Go.RowKit

/-- The call answered a bool. -/
def Answers (e : Ending) : Prop := ∃ r : Bool, e = .returned (.bool r)
theorem Answers.mk (r : Bool) : Answers (.returned (.bool r)) := ⟨r, rfl⟩

set_option maxHeartbeats 400000 in
theorem bytes10 (a b c : ByteArray) (w : World) (ha : a.size ≤ maxLen) (hb : b.size ≤ maxLen) (hc : c.size ≤ maxLen) :
    Calls Trym.prog 10 #[.string a, .string b, .string c] w fun e w' => Answers e ∧ w' = w := by
  unfold maxLen at ha hb hc
  go_enter Trym.func10, Trym.ntmps10
  go_wp2
  all_goals go_ret
  all_goals exact ⟨Answers.mk _, rfl⟩

set_option maxHeartbeats 400000 in
theorem back13_zero (w : World) :
    Calls Trym.prog 13 #[.agg #[.string ⟨#[]⟩, .string ⟨#[]⟩, .string ⟨#[]⟩]] w fun e w' => e = .returned (.pointer none) ∧ Below w.heap.size w w' := by
  go_enter Trym.func13, Trym.ntmps13
  go_wp2
  go_ret
  exact ⟨rfl, (Below.refl _ _).alloc (Nat.le_refl _) _⟩

/-- The three strings behind a pointer to a block of the call's own. -/
def BackIs (a b c : ByteArray) (w : World) (e : Ending) (w' : World) : Prop :=
  ∃ g, e = .returned (.pointer (some ⟨g, 0, none⟩)) ∧ w.heap.size ≤ g ∧ g < w'.heap.size ∧ w'.cell? ⟨g, 0, none⟩ = some (.string a) ∧ w'.cell? ⟨g, 1, none⟩ = some (.string b) ∧ w'.cell? ⟨g, 2, none⟩ = some (.string c) ∧ Below w.heap.size w w'

set_option maxHeartbeats 400000 in
theorem back13_some (a b c : ByteArray) (w : World) (h : ¬ (a.toList = [] ∧ b.toList = [] ∧ c.toList = [])) :
    Calls Trym.prog 13 #[.agg #[.string a, .string b, .string c]] w fun e w' => BackIs a b c w e w' := by
  have HN : Hid (¬ (a.toList = [] ∧ b.toList = [] ∧ c.toList = [])) := h
  clear h
  go_enter Trym.func13, Trym.ntmps13
  go_wp2
  all_goals first
    | (exfalso; exact HN.out ⟨by assumption, by assumption, by assumption⟩)
    | (go_ret; exact ⟨_, rfl, by omega, by simp, by simp [go_sem], by simp [go_sem], by simp [go_sem], ((Below.refl _ _).alloc (Nat.le_refl _) _).alloc (by simp) _⟩)

set_option maxHeartbeats 400000 in
theorem back11_zero (w : World) :
    Calls Trym.prog 11 #[.agg #[.string ⟨#[]⟩, .string ⟨#[]⟩, .string ⟨#[]⟩]] w fun e w' => e = .returned (.pointer none) ∧ Below w.heap.size w w' := by
  go_enter Trym.func11, Trym.ntmps11
  go_wp2_with fail
  refine (back13_zero _).mono ?_
  rintro e w' ⟨rfl, hb⟩
  go_wp2
  go_ret
  exact ⟨rfl, ((Below.refl _ _).alloc (Nat.le_refl _) _).trans (hb.mono (by simp))⟩

set_option maxHeartbeats 400000 in
theorem back11_some (a b c : ByteArray) (w : World) (h : ¬ (a.toList = [] ∧ b.toList = [] ∧ c.toList = [])) :
    Calls Trym.prog 11 #[.agg #[.string a, .string b, .string c]] w fun e w' => BackIs a b c w e w' := by
  go_enter Trym.func11, Trym.ntmps11
  go_wp2_with fail
  refine (back13_some a b c _ h).mono ?_
  rintro e w' ⟨g, rfl, hg, hlt, h0, h1, h2, hb⟩
  have HB : Hid (BackIs a b c w (.returned (.pointer (some ⟨g, 0, none⟩))) w') := ⟨g, rfl, by simp at hg; omega, hlt, h0, h1, h2, ((Below.refl _ _).alloc (Nat.le_refl _) _).trans (hb.mono (by simp))⟩
  clear hg hlt h0 h1 h2 hb h
  go_wp2
  go_ret
  exact HB.out

set_option maxHeartbeats 1000000 in
theorem walk4 (a b c : ByteArray) (w : World) (ha : a.size ≤ maxLen) (hb : b.size ≤ maxLen) (hc : c.size ≤ maxLen) :
    Calls Trym.prog 4 #[.string a, .string b, .string c] w fun e w' => e = .returned (.bool true) ∧ Below w.heap.size w w' := by
  by_cases hz : a.toList = [] ∧ b.toList = [] ∧ c.toList = []
  · have emp : ∀ {x : ByteArray}, x.toList = [] → x = ⟨#[]⟩ := fun {x} h => by
      rw [ByteArray.toList_eq] at h
      exact ByteArray.ext (Array.ext' h)
    obtain ⟨za, zb, zc⟩ := hz
    obtain rfl := emp za
    obtain rfl := emp zb
    obtain rfl := emp zc
    clear emp za zb zc
    go_enter Trym.func4, Trym.ntmps4
    go_wp2_with fail
    refine (bytes10 _ _ _ _ ha hb hc).mono ?_
    rintro e w' ⟨⟨r, rfl⟩, rfl⟩
    cases r
    · go_wp2_with fail
      go_ret
      exact ⟨rfl, Below.refl _ _⟩
    go_wp2_with fail
    refine (back11_zero _).mono ?_
    rintro e w1 ⟨rfl, hb1⟩
    have s0 : w1.cell? ⟨w'.heap.size, 0, none⟩ = some (.string ⟨#[]⟩) := (hb1.cell (by simp)).trans (by simp [go_sem])
    have s1 : w1.cell? ⟨w'.heap.size, 1, none⟩ = some (.string ⟨#[]⟩) := (hb1.cell (by simp)).trans (by simp [go_sem])
    have s2 : w1.cell? ⟨w'.heap.size, 2, none⟩ = some (.string ⟨#[]⟩) := (hb1.cell (by simp)).trans (by simp [go_sem])
    have hbW : Below w'.heap.size w' w1 := ((Below.refl _ _).alloc (Nat.le_refl _) _).trans (hb1.mono (by simp))
    clear hb1
    go_wp2_with fail
    go_ret
    exact ⟨rfl, hbW⟩
  · unfold maxLen at ha hb hc
    have HZ : Hid (¬ (a.toList = [] ∧ b.toList = [] ∧ c.toList = [])) := hz
    clear hz
    by_cases g1 : 1048576 < (a.size : Int)
    · go_enter Trym.func4, Trym.ntmps4
      go_wp2_with fail
      refine (bytes10 _ _ _ _ ha hb hc).mono ?_
      rintro e w' ⟨⟨r, rfl⟩, rfl⟩
      cases r
      all_goals
        go_wp2_with fail
        go_ret
        exact ⟨rfl, Below.refl _ _⟩
    by_cases g2 : 1048576 < (b.size : Int)
    · go_enter Trym.func4, Trym.ntmps4
      go_wp2_with fail
      refine (bytes10 _ _ _ _ ha hb hc).mono ?_
      rintro e w' ⟨⟨r, rfl⟩, rfl⟩
      cases r
      all_goals
        go_wp2_with fail
        go_ret
        exact ⟨rfl, Below.refl _ _⟩
    by_cases g3 : 1048576 < (c.size : Int)
    · go_enter Trym.func4, Trym.ntmps4
      go_wp2_with fail
      refine (bytes10 _ _ _ _ ha hb hc).mono ?_
      rintro e w' ⟨⟨r, rfl⟩, rfl⟩
      cases r
      all_goals
        go_wp2_with fail
        go_ret
        exact ⟨rfl, Below.refl _ _⟩
    by_cases g4 : 1048576 < (a.size : Int) + (b.size : Int) + (c.size : Int)
    · go_enter Trym.func4, Trym.ntmps4
      go_wp2_with fail
      refine (bytes10 _ _ _ _ ha hb hc).mono ?_
      rintro e w' ⟨⟨r, rfl⟩, rfl⟩
      cases r
      all_goals
        go_wp2_with fail
        go_ret
        exact ⟨rfl, Below.refl _ _⟩
    go_enter Trym.func4, Trym.ntmps4
    go_wp2_with fail
    refine (bytes10 _ _ _ _ ha hb hc).mono ?_
    rintro e w' ⟨⟨r, rfl⟩, rfl⟩
    cases r
    · go_wp2_with fail
      go_ret
      exact ⟨rfl, Below.refl _ _⟩
    go_wp2_with fail
    refine (back11_some a b c _ HZ.out).mono ?_
    rintro e w1 ⟨g, rfl, hg, hlt, h0, h1, h2, hb1⟩
    have s0 : w1.cell? ⟨w'.heap.size, 0, none⟩ = some (.string a) := (hb1.cell (by simp)).trans (by simp [go_sem])
    have s1 : w1.cell? ⟨w'.heap.size, 1, none⟩ = some (.string b) := (hb1.cell (by simp)).trans (by simp [go_sem])
    have s2 : w1.cell? ⟨w'.heap.size, 2, none⟩ = some (.string c) := (hb1.cell (by simp)).trans (by simp [go_sem])
    have hbW : Below w'.heap.size w' w1 := ((Below.refl _ _).alloc (Nat.le_refl _) _).trans (hb1.mono (by simp))
    have hlt' : w'.heap.size < w1.heap.size := by have := hb1.size; simp at this; omega
    clear hb1 hg
    go_wp2_with fail
    go_region
    go_wp2
    go_ret
    exact ⟨by simp, (hbW.alloc (by omega) _).drew⟩
end Go.Proofs.Qxb6604012aMods
