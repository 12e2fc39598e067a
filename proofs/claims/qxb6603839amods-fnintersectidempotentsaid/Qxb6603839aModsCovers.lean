/- covers, and the strings' functions under it. -/
import Derived.Test.Qxb6603839aModsRows
import Derived.WalkKit
import Derived.ProofKit
import Derived.Below
namespace Go.Proofs.Qxb6603839aMods
open Go.ChangeShapes Go.WideShapes Go.ChangeAt Go.RowKit

/-- Begins with a star. -/
def wildB (p : ByteArray) : Bool := decide (0 < p.size) && ((p.extract 0 1).toList == [42])
/-- s ends in t. -/
def sufB (s t : ByteArray) : Bool := decide (t.size ≤ s.size) && ((s.extract (s.size - t.size) s.size).toList == t.toList)
/-- What covers answers. -/
def covB (p h : ByteArray) : Bool := if wildB p = true then decide ((p.extract 1 p.size).size < h.size) && sufB h (p.extract 1 p.size) else p.toList == h.toList

theorem covB_self (p : ByteArray) : covB p p = true := by
  unfold covB
  by_cases hw : wildB p = true
  · rw [if_pos hw]
    have h0 : 0 < p.size := by
      unfold wildB at hw
      rw [Bool.and_eq_true] at hw
      exact of_decide_eq_true hw.1
    have hs : (p.extract 1 p.size).size = p.size - 1 := by rw [ByteArray.size_extract]; omega
    unfold sufB
    rw [hs, show p.size - (p.size - 1) = 1 by omega]
    simp
    omega
  · rw [if_neg hw]
    simp

set_option maxHeartbeats 400000 in
theorem prefix22 (s : ByteArray) (w : World) (hs : s.size ≤ 1048576) : Calls Trym.prog 22 #[.string s, .string ⟨#[42]⟩] w fun e w' => e = .returned (.bool (wildB s)) ∧ w' = w := by
  by_cases h0 : 0 < s.size
  · have HW : Hid (wildB s = ((s.extract 0 1).toList == [42])) := by unfold Hid wildB; simp [h0]
    go_enter Trym.func22, Trym.ntmps22
    go_wp2
    go_ret
    exact ⟨by rw [HW.out]; rfl, rfl⟩
  · have HW : Hid (wildB s = false) := by unfold Hid wildB; simp [h0]
    go_enter Trym.func22, Trym.ntmps22
    go_wp2
    go_ret
    exact ⟨by rw [HW.out]; rfl, rfl⟩

set_option maxHeartbeats 400000 in
theorem suffix21 (s t : ByteArray) (w : World) (hs : s.size ≤ 1048576) (ht : t.size ≤ 1048576) : Calls Trym.prog 21 #[.string s, .string t] w fun e w' => e = .returned (.bool (sufB s t)) ∧ w' = w := by
  by_cases h0 : t.size ≤ s.size
  · have HW : Hid (sufB s t = ((s.extract (s.size - t.size) s.size).toList == t.toList)) := by unfold Hid sufB; simp [h0]
    go_enter Trym.func21, Trym.ntmps21
    go_wp2
    go_ret
    exact ⟨by rw [HW.out]; rfl, rfl⟩
  · have HW : Hid (sufB s t = false) := by unfold Hid sufB; simp [h0]
    go_enter Trym.func21, Trym.ntmps21
    go_wp2
    go_ret
    exact ⟨by rw [HW.out]; rfl, rfl⟩

set_option maxHeartbeats 400000 in
theorem suffix18 (s t : ByteArray) (w : World) (hs : s.size ≤ 1048576) (ht : t.size ≤ 1048576) : Calls Trym.prog 18 #[.string s, .string t] w fun e w' => e = .returned (.bool (sufB s t)) ∧ w' = w := by
  go_enter Trym.func18, Trym.ntmps18
  go_wp2_with fail
  refine (suffix21 s t _ hs ht).mono ?_
  rintro e w' ⟨rfl, rfl⟩
  go_wp2
  go_ret
  exact ⟨rfl, rfl⟩

set_option maxHeartbeats 400000 in
theorem cut20_no (s : ByteArray) (w : World) (hs : s.size ≤ 1048576) (h : wildB s = false) : Calls Trym.prog 20 #[.string s, .string ⟨#[42]⟩] w fun e w' => e = .returned (.tuple #[.string s, .bool false]) ∧ w' = w := by
  go_enter Trym.func20, Trym.ntmps20
  go_wp2_with fail
  refine (prefix22 s _ hs).mono ?_
  rintro e w' ⟨rfl, rfl⟩
  rw [h]
  go_wp2
  go_ret2
  exact ⟨rfl, rfl⟩

theorem wildB_pos {s : ByteArray} (h : wildB s = true) : 1 ≤ s.size := by
  unfold wildB at h
  rw [Bool.and_eq_true] at h
  have := of_decide_eq_true h.1
  omega

set_option maxHeartbeats 400000 in
theorem cut20_yes (s : ByteArray) (w : World) (hs : s.size ≤ 1048576) (h : wildB s = true) : Calls Trym.prog 20 #[.string s, .string ⟨#[42]⟩] w fun e w' => e = .returned (.tuple #[.string (s.extract 1 s.size), .bool true]) ∧ w' = w := by
  have hp := wildB_pos h
  go_enter Trym.func20, Trym.ntmps20
  go_wp2_with fail
  refine (prefix22 s _ hs).mono ?_
  rintro e w' ⟨rfl, rfl⟩
  rw [h]
  go_wp2
  go_ret2
  exact ⟨rfl, rfl⟩

set_option maxHeartbeats 400000 in
theorem cut17_no (s : ByteArray) (w : World) (hs : s.size ≤ 1048576) (h : wildB s = false) : Calls Trym.prog 17 #[.string s, .string ⟨#[42]⟩] w fun e w' => e = .returned (.tuple #[.string s, .bool false]) ∧ w' = w := by
  go_enter Trym.func17, Trym.ntmps17
  go_wp2_with fail
  refine (cut20_no s _ hs h).mono ?_
  rintro e w' ⟨rfl, rfl⟩
  go_wp2
  go_ret2
  exact ⟨rfl, rfl⟩

set_option maxHeartbeats 400000 in
theorem cut17_yes (s : ByteArray) (w : World) (hs : s.size ≤ 1048576) (h : wildB s = true) : Calls Trym.prog 17 #[.string s, .string ⟨#[42]⟩] w fun e w' => e = .returned (.tuple #[.string (s.extract 1 s.size), .bool true]) ∧ w' = w := by
  go_enter Trym.func17, Trym.ntmps17
  go_wp2_with fail
  refine (cut20_yes s _ hs h).mono ?_
  rintro e w' ⟨rfl, rfl⟩
  go_wp2
  go_ret2
  exact ⟨rfl, rfl⟩

set_option maxHeartbeats 400000 in
theorem covers15 (p h : ByteArray) (w : World) (hp : p.size ≤ 1048576) (hh : h.size ≤ 1048576) : Calls Trym.prog 15 #[.string p, .string h] w fun e w' => e = .returned (.bool (covB p h)) ∧ w' = w := by
  cases hw : wildB p with
  | false =>
    have HC : Hid (covB p h = (p.toList == h.toList)) := by unfold Hid covB; rw [hw]; rfl
    go_enter Trym.func15, Trym.ntmps15
    go_wp2_with fail
    refine (cut17_no p _ hp hw).mono ?_
    rintro e w' ⟨rfl, rfl⟩
    go_wp2_with fail
    go_ret
    exact ⟨by rw [HC.out]; rfl, rfl⟩
  | true =>
    have hr : (p.extract 1 p.size).size ≤ 1048576 := by rw [ByteArray.size_extract]; omega
    have HC : Hid (covB p h = (decide ((p.extract 1 p.size).size < h.size) && sufB h (p.extract 1 p.size))) := by unfold Hid covB; rw [if_pos hw]
    go_enter Trym.func15, Trym.ntmps15
    go_wp2_with fail
    refine (cut17_yes p _ hp hw).mono ?_
    rintro e w' ⟨rfl, rfl⟩
    generalize p.extract 1 p.size = t at *
    by_cases hlt : t.size < h.size
    · have HC' : Hid (covB p h = sufB h t) := by unfold Hid; rw [HC.out]; simp [hlt]
      clear HC
      go_wp2_with fail
      refine (suffix18 h t _ hh hr).mono ?_
      rintro e w' ⟨rfl, rfl⟩
      go_wp2_with fail
      go_ret
      exact ⟨by rw [HC'.out]; rfl, rfl⟩
    · have HC' : Hid (covB p h = false) := by unfold Hid; rw [HC.out]; simp [hlt]
      clear HC
      go_wp2_with fail
      go_ret
      exact ⟨by rw [HC'.out]; rfl, rfl⟩
end Go.Proofs.Qxb6603839aMods
