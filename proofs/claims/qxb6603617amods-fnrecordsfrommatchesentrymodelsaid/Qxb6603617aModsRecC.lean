/- ZZnewRecords, ZZrecordsFields, zzSameBytes. -/
import Derived.Test.Qxb6603617aModsRecB
namespace Go.Proofs.Qxb6603617aMods
open Go.ChangeShapes Go.WideShapes Go.ChangeAt Go.RowKit

set_option maxHeartbeats 400000 in
theorem new21 (a0 a1 a3 a4 : Option Addr) (n0 n1 n3 n4 c0 c1 c3 c4 : Nat) (x : Int) (w : World) :
    Calls Trym.prog 21 #[.slice a0 n0 c0, .slice a1 n1 c1, .int .u64 x, .slice a3 n3 c3, .slice a4 n4 c4] w fun e w' =>
      e = .returned (.agg #[.slice a0 n0 c0, .slice a1 n1 c1, .int .u64 x, .slice a3 n3 c3, .slice a4 n4 c4]) ∧ Below w.heap.size w w' := by
  go_enter Trym.func21, Trym.ntmps21
  go_wp2
  exact bodyPost_ret (v := .agg #[.slice a0 n0 c0, .slice a1 n1 c1, .int .u64 x, .slice a3 n3 c3, .slice a4 n4 c4]) (by simp [results, Trym.results21, go_sem]) rfl ⟨rfl, (Below.refl _ _).alloc (Nat.le_refl _) _⟩

set_option maxHeartbeats 400000 in
theorem fields22 (a0 a1 a3 a4 : Option Addr) (n0 n1 n3 n4 c0 c1 c3 c4 : Nat) (x : Int) (w : World) :
    Calls Trym.prog 22 #[.agg #[.slice a0 n0 c0, .slice a1 n1 c1, .int .u64 x, .slice a3 n3 c3, .slice a4 n4 c4]] w fun e w' =>
      e = .returned (.tuple #[.slice a0 n0 c0, .slice a1 n1 c1, .int .u64 x, .slice a3 n3 c3, .slice a4 n4 c4]) ∧ Below w.heap.size w w' := by
  go_enter Trym.func22, Trym.ntmps22
  go_wp2
  go_quiet (fail)
  go_wp2
  exact bodyPost_ret (v := .tuple #[.slice a0 n0 c0, .slice a1 n1 c1, .int .u64 x, .slice a3 n3 c3, .slice a4 n4 c4]) (by simp [results, Trym.results22, go_sem]) rfl ⟨rfl, below_drewN ((Below.refl _ _).alloc (Nat.le_refl _) _) _⟩

set_option maxHeartbeats 400000 in
theorem same24 (a : Option Addr) (base n c : Nat) (Z : Nat → Int) (w : World) (hn : n ≤ 1048576) (hz : Ints .u8 w base a n Z) :
    Calls Trym.prog 24 #[.slice a n c, .slice a n c] w fun e w' => e = .returned (.bool true) ∧ Below w.heap.size w w' := by
  go_enter Trym.func24, Trym.ntmps24
  go_wp2
  go_loopw [5] (fun i wr => ∃ k : Nat, k ≤ n ∧ i = .int .i64 k ∧ Below w.heap.size w wr) (fun i _ => n - (intOf i).toNat)
  case atStart => exact ⟨0, Nat.zero_le _, rfl, Below.refl _ _⟩
  case round =>
    obtain ⟨k, hk, rfl, hbel⟩ := hrel
    by_cases hlt : k < n
    · obtain ⟨b, o, rfl, _, hb, hc⟩ := hz (by omega)
      have e0 := hc.below hbel hb k hlt
      clear hc hz
      go_wp2
      go_quiet (fail)
      go_wp2
      go_roundw
      case rel => exact ⟨k + 1, by omega, by go_num, below_drewN hbel _⟩
      case measure => simp [intOf]; omega
    · go_wp2
      go_ret
      exact ⟨rfl, hbel⟩
end Go.Proofs.Qxb6603617aMods
