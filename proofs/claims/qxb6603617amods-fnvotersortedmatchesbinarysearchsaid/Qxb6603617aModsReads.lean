/- The walks of the functions that only read the list of members. -/
import Derived.Test.Qxb6603617aModsMem
namespace Go.Proofs.Qxb6603617aMods
open Go.ChangeShapes Go.WideShapes Go.ChangeAt Go.RowKit

set_option maxHeartbeats 400000 in
theorem bytes13 (a : Option Addr) (n c : Nat) (I : Nat → Int) (A : Nat → ByteArray) (V : Nat → Bool) (id : Int) (ad : ByteArray) (vt : Bool) (pr : Int) (w : World)
    (hn : n ≤ maxLen) (had : ad.size ≤ maxLen) (hA : ∀ i, (A i).size ≤ maxLen) (hm : Mems w a n I A V) :
    Calls Trym.prog 13 #[.slice a n c, .int .u64 id, .string ad, .bool vt, .int .u64 pr] w fun e w' => Answers e (fun _ => True) ∧ w' = w := by
  unfold maxLen at hn had hA
  by_cases hbig : 1048576 < (n : Int)
  · go_enter Trym.func13, Trym.ntmps13
    go_wp2
    go_ret
    exact ⟨Answers.mk _ trivial, rfl⟩
  · go_enter Trym.func13, Trym.ntmps13
    go_wp2
    go_loop [11, 12] (fun z i => ∃ (k : Nat) (t : Int), k ≤ n ∧ i = .int .i64 k ∧ z = .int .i64 t ∧ 0 ≤ t ∧ t ≤ 1048576) (fun _ i => n - (intOf i).toNat)
    case atStart => exact ⟨0, _, Nat.zero_le _, rfl, rfl, by omega, by omega⟩
    case round =>
      obtain ⟨k, t, hk, rfl, rfl, ht0, ht1⟩ := hrel
      by_cases hlt : k < n
      · obtain ⟨b, o, rfl, hb, hc⟩ := hm (by omega)
        obtain ⟨e0, e1, e2⟩ := hc k hlt
        have eA := hA k
        clear hc hA hm
        by_cases c1 : 1048576 < ((A k).size : Int)
        · go_wp2
          go_ret
          exact ⟨Answers.mk _ trivial, rfl⟩
        · by_cases c2 : 1048576 < t + ((A k).size : Int)
          · go_wp2
            go_ret
            exact ⟨Answers.mk _ trivial, rfl⟩
          · go_wp2
            go_round
            case rel => exact ⟨k + 1, _, by omega, by go_num, rfl, by omega, by omega⟩
            case measure => simp [intOf]; omega
      · clear hA hm
        go_wp2
        all_goals go_ret
        all_goals exact ⟨Answers.mk _ trivial, rfl⟩

set_option maxHeartbeats 400000 in
theorem bytes7 (a : Option Addr) (n c : Nat) (I : Nat → Int) (A : Nat → ByteArray) (V : Nat → Bool) (id : Int) (w : World)
    (hn : n ≤ maxLen) (hA : ∀ i, (A i).size ≤ maxLen) (hm : Mems w a n I A V) :
    Calls Trym.prog 7 #[.slice a n c, .int .u64 id] w fun e w' => Answers e (fun _ => True) ∧ w' = w := by
  unfold maxLen at hn hA
  by_cases hbig : 1048576 < (n : Int)
  · go_enter Trym.func7, Trym.ntmps7
    go_wp2
    go_ret
    exact ⟨Answers.mk _ trivial, rfl⟩
  · go_enter Trym.func7, Trym.ntmps7
    go_wp2
    go_loop [5, 6] (fun z i => ∃ (k : Nat) (t : Int), k ≤ n ∧ i = .int .i64 k ∧ z = .int .i64 t ∧ 0 ≤ t ∧ t ≤ 1048576) (fun _ i => n - (intOf i).toNat)
    case atStart => exact ⟨0, _, Nat.zero_le _, rfl, rfl, by omega, by omega⟩
    case round =>
      obtain ⟨k, t, hk, rfl, rfl, ht0, ht1⟩ := hrel
      by_cases hlt : k < n
      · obtain ⟨b, o, rfl, hb, hc⟩ := hm (by omega)
        obtain ⟨e0, e1, e2⟩ := hc k hlt
        have eA := hA k
        clear hc hA hm
        by_cases c1 : 1048576 < ((A k).size : Int)
        · go_wp2
          go_ret
          exact ⟨Answers.mk _ trivial, rfl⟩
        · by_cases c2 : 1048576 < t + ((A k).size : Int)
          · go_wp2
            go_ret
            exact ⟨Answers.mk _ trivial, rfl⟩
          · go_wp2
            go_round
            case rel => exact ⟨k + 1, _, by omega, by go_num, rfl, by omega, by omega⟩
            case measure => simp [intOf]; omega
      · clear hA hm
        go_wp2
        all_goals go_ret
        all_goals exact ⟨Answers.mk _ trivial, rfl⟩

set_option maxHeartbeats 400000 in
theorem fit8 (a : Option Addr) (n c : Nat) (I : Nat → Int) (A : Nat → ByteArray) (V : Nat → Bool) (x : Int) (w : World)
    (hn : n ≤ maxLen) (hx0 : 0 ≤ x) (hx1 : x ≤ 1048576) (hA : ∀ i, (A i).size ≤ maxLen) (hm : Mems w a n I A V) :
    Calls Trym.prog 8 #[.slice a n c, .int .i64 x] w fun e w' => Answers e (fun r => r = true → n ≤ 32768) ∧ w' = w := by
  unfold maxLen at hn hA
  by_cases hbig : 32768 < (n : Int)
  · go_enter Trym.func8, Trym.ntmps8
    go_wp2
    go_ret
    exact ⟨Answers.mk _ (by simp), rfl⟩
  · by_cases htot : 1048576 < 32 * (n : Int) + x
    · go_enter Trym.func8, Trym.ntmps8
      go_wp2
      go_ret
      exact ⟨Answers.mk _ (by simp), rfl⟩
    · go_enter Trym.func8, Trym.ntmps8
      go_wp2
      go_loop [5, 6] (fun z i => ∃ (k : Nat) (t : Int), k ≤ n ∧ i = .int .i64 k ∧ z = .int .i64 t ∧ 0 ≤ t ∧ t ≤ 1048576) (fun _ i => n - (intOf i).toNat)
      case atStart => exact ⟨0, _, Nat.zero_le _, rfl, rfl, by omega, by omega⟩
      case round =>
        obtain ⟨k, t, hk, rfl, rfl, ht0, ht1⟩ := hrel
        by_cases hlt : k < n
        · obtain ⟨b, o, rfl, hb, hc⟩ := hm (by omega)
          obtain ⟨e0, e1, e2⟩ := hc k hlt
          have eA := hA k
          clear hc hA hm
          by_cases c1 : 1048576 < ((A k).size : Int)
          · go_wp2
            go_ret
            exact ⟨Answers.mk _ (by simp), rfl⟩
          · by_cases c2 : 1048576 < t + ((A k).size : Int)
            · go_wp2
              go_ret
              exact ⟨Answers.mk _ (by simp), rfl⟩
            · go_wp2
              go_round
              case rel => exact ⟨k + 1, _, by omega, by go_num, rfl, by omega, by omega⟩
              case measure => simp [intOf]; omega
        · clear hA hm
          go_wp2
          all_goals go_ret
          all_goals exact ⟨Answers.mk _ (fun _ => by omega), rfl⟩
end Go.Proofs.Qxb6603617aMods
