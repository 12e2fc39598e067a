/- The walk of FnIsIdentifierMatchesModel. -/
import Derived.Test.Qxb6603839aModsIdentA
namespace Go.Proofs.Qxb6603839aMods
open Go.ChangeShapes Go.WideShapes Go.ChangeAt Go.RowKit

set_option maxHeartbeats 400000 in
theorem bytes10 (s : ByteArray) (w : World) (hs : s.size ≤ maxLen) : Calls Trym.prog 10 #[.string s] w fun e w' => Answers e (fun r => r = true → s.size ≤ 1048576) ∧ w' = w := by
  unfold maxLen at hs
  by_cases h : 1048576 < (s.size : Int)
  · go_enter Trym.func10, Trym.ntmps10
    go_wp2
    go_ret
    exact ⟨Answers.mk _ (by simp), rfl⟩
  · go_enter Trym.func10, Trym.ntmps10
    go_wp2
    go_ret
    exact ⟨Answers.mk _ (fun _ => by omega), rfl⟩

set_option maxHeartbeats 400000 in
theorem ident12 (s : ByteArray) (w : World) (hs : s.size ≤ 1048576) : Calls Trym.prog 12 #[.string s] w fun e w' => Answers e (fun r => r = true ↔ Ident s) ∧ Below w.heap.size w w' := by
  go_enter Trym.func12, Trym.ntmps12
  go_wp2_with fail
  refine (ident14 s _ hs).mono ?_
  rintro e w1 ⟨⟨r, rfl, hr⟩, hb⟩
  have HR : Hid (r = true ↔ Ident s) := hr
  clear hr
  go_wp2
  go_ret
  exact ⟨Answers.mk _ HR.out, hb⟩

/-- What the law's own loop knows behind k bytes. -/
def Want (s : ByteArray) (k : Nat) (wt : Bool) : Prop :=
  (wt = true → 0 < s.size ∧ ¬ Digit (byteAt s 0) ∧ ∀ i, i < k → Letter (byteAt s i) ∨ Digit (byteAt s i)) ∧ (wt = false → ¬ Ident s)

theorem Want.no {s : ByteArray} {k : Nat} (h : ¬ Ident s) : Want s k false := ⟨fun h2 => by simp at h2, fun _ => h⟩
theorem Want.step {s : ByteArray} {k : Nat} (h : Want s k true) (hk : Letter (byteAt s k) ∨ Digit (byteAt s k)) : Want s (k + 1) true := by
  refine ⟨fun _ => ⟨(h.1 rfl).1, (h.1 rfl).2.1, fun i hi => ?_⟩, fun h2 => by simp at h2⟩
  by_cases e : i = k
  · subst e; exact hk
  · exact (h.1 rfl).2.2 i (by omega)
theorem Want.stop {s : ByteArray} {k : Nat} (hk : k < s.size) (h : ¬ (Letter (byteAt s k) ∨ Digit (byteAt s k))) : Want s (k + 1) false := .no fun hi => h (hi.2.2 k hk)
theorem Want.done {s : ByteArray} (h : Want s s.size true) : Ident s := h.1 rfl

set_option maxHeartbeats 1000000 in
theorem walk4 (s : ByteArray) (w : World) (hs : s.size ≤ maxLen) : Calls Trym.prog 4 #[.string s] w fun e w' => e = .returned (.bool true) ∧ Below w.heap.size w w' := by
  go_enter Trym.func4, Trym.ntmps4
  go_wp2_with fail
  refine (bytes10 s _ hs).mono ?_
  rintro e w' ⟨⟨r, rfl, hr⟩, rfl⟩
  cases r
  · go_wp2_with fail
    go_ret
    exact ⟨rfl, Below.refl _ _⟩
  replace hr := hr rfl
  clear hs
  have fin : ∀ {r : Bool} {b : Bool} , (r = true ↔ Ident s) → (b = true ↔ Ident s) → r = b := fun h1 h2 => by
    rw [Bool.eq_iff_iff, h1, h2]
  by_cases h0 : s.size = 0
  · have HW : Hid (false = true ↔ Ident s) := by
      unfold Hid
      exact ⟨fun h => by simp at h, fun h => by have := h.1; omega⟩
    go_wp2_with fail
    refine wp_loop_rounds 1 ?_
    rw [rounds_succ]
    go_wp2_with fail
    refine (ident12 s _ hr).mono ?_
    rintro e w1 ⟨⟨r, rfl, hi⟩, hb⟩
    obtain rfl : r = false := fin hi HW.out
    clear hi
    go_wp2_with fail
    go_ret
    exact ⟨rfl, hb⟩
  · have hp : 0 < s.size := by omega
    by_cases hd : (48 : Int) ≤ (s[0].toNat : Int) ∧ (s[0].toNat : Int) ≤ 57
    · have HW : Hid (false = true ↔ Ident s) := by
        unfold Hid
        exact ⟨fun h => by simp at h, fun h => absurd (show Digit (byteAt s 0) by rw [byteAt_lt hp]; exact hd) h.2.1⟩
      obtain ⟨d0, d1⟩ := hd
      go_wp2_with fail
      refine wp_loop_rounds 1 ?_
      rw [rounds_succ]
      go_wp2_with fail
      refine (ident12 s _ hr).mono ?_
      rintro e w1 ⟨⟨r, rfl, hi⟩, hb⟩
      obtain rfl : r = false := fin hi HW.out
      clear hi
      go_wp2_with fail
      go_ret
      exact ⟨rfl, hb⟩
    · have HW : Hid (Want s 0 true) := ⟨fun _ => ⟨hp, by rw [byteAt_lt hp]; exact hd, fun i hi => absurd hi (by omega)⟩, fun h2 => by simp at h2⟩
      rcases (show (s[0].toNat : Int) < 48 ∨ ((48 : Int) ≤ (s[0].toNat : Int) ∧ (57 : Int) < (s[0].toNat : Int)) from by omega) with hx | ⟨hx, hx'⟩
      all_goals
        clear hd
        go_wp2_with fail
        go_loop [3, 4] (fun wv i => ∃ (k : Nat) (wt : Bool), k ≤ s.size ∧ i = .int .i64 k ∧ wv = .bool wt ∧ Want s k wt) (fun _ i => s.size - (intOf i).toNat)
        case atStart => exact ⟨0, true, Nat.zero_le _, rfl, by first | (simp; done) | (simp; omega), HW.out⟩
        case round =>
          clear HW
          obtain ⟨k, wt, hk, rfl, rfl, hw⟩ := hrel
          have HW : Hid (Want s k wt) := hw
          clear hw
          cases wt with
          | false =>
            have HI : Hid (false = true ↔ Ident s) := ⟨fun h => by simp at h, fun h => absurd h (HW.out.2 rfl)⟩
            by_cases hlt : k < s.size
            all_goals
              go_wp2_with fail
              refine (ident12 s _ hr).mono ?_
              rintro e w1 ⟨⟨r, rfl, hi⟩, hb⟩
              obtain rfl : r = false := fin hi HI.out
              clear hi
              go_wp2_with fail
              go_ret
              exact ⟨rfl, hb⟩
          | true =>
            by_cases hlt : k < s.size
            · go_wp2_with fail
              have hub := s[k].toNat_lt
              refine (word11 _ _ (by omega) (by omega)).mono ?_
              rintro e w1 ⟨⟨r, rfl, hi⟩, rfl⟩
              rw [← byteAt_lt hlt] at hi
              cases r with
              | false =>
                have HN : Hid (Want s (k + 1) false) := .stop hlt (fun h => by simp at hi; exact (by rcases h with h | h; exact hi.1 h; exact hi.2 h))
                clear hi
                go_wp2
                go_round
                case rel => exact ⟨k + 1, false, by omega, by go_num, rfl, HN.out⟩
                case measure => simp [intOf]; omega
              | true =>
                have HN : Hid (Want s (k + 1) true) := HW.out.step (hi.1 rfl)
                clear hi
                go_wp2
                go_round
                case rel => exact ⟨k + 1, true, by omega, by go_num, rfl, HN.out⟩
                case measure => simp [intOf]; omega
            · obtain rfl : k = s.size := by omega
              have HI : Hid (Ident s) := HW.out.done
              go_wp2_with fail
              refine (ident12 s _ hr).mono ?_
              rintro e w1 ⟨⟨r, rfl, hi⟩, hb⟩
              obtain rfl : r = true := fin hi ⟨fun _ => HI.out, fun _ => rfl⟩
              clear hi
              go_wp2_with fail
              go_ret
              exact ⟨rfl, hb⟩
end Go.Proofs.Qxb6603839aMods
