/- The callees of the two laws on 'place': each by a contract of its own. -/
import Derived.Test.Qxb6603594aModsRows
import Derived.WalkKit
import Derived.ProofKit
import Derived.OpenShut
import Derived.ShutString
namespace Go.Proofs.Qxb6603594aMods
open Go.ChangeShapes Go.WideShapes Go.ChangeAt Go.RowKit

theorem place_zero (w : World) :
    Calls Trym.prog 9 #[.int .i64 0] w fun e w' => e = .returned (.pointer none) ∧ w' = w.alloc (.cells #[.int .i64 0] 3) := by
  go_enter Trym.func9, Trym.ntmps9
  go_wp2
  go_ret
  exact ⟨rfl, rfl⟩

theorem place_some (a : Int) (h : (a == 0) = false) (w : World) :
    Calls Trym.prog 9 #[.int .i64 a] w fun e w' => e = .returned (.pointer (some ⟨w.heap.size, 0, none⟩)) ∧ w' = w.alloc (.cells #[.int .i64 a] 3) := by
  go_enter Trym.func9, Trym.ntmps9
  go_wp2
  go_ret
  exact ⟨rfl, rfl⟩

theorem zplace_zero (w : World) :
    Calls Trym.prog 6 #[.int .i64 0] w fun e w' => e = .returned (.pointer none) ∧ w' = w.alloc (.cells #[.int .i64 0] 3) := by
  go_enter Trym.func6, Trym.ntmps6
  go_wp2_with fail
  refine (place_zero _).mono ?_
  rintro e w' ⟨rfl, rfl⟩
  go_wp2
  go_ret
  exact ⟨rfl, rfl⟩

theorem zplace_some (a : Int) (h : (a == 0) = false) (w : World) :
    Calls Trym.prog 6 #[.int .i64 a] w fun e w' => e = .returned (.pointer (some ⟨w.heap.size, 0, none⟩)) ∧ w' = w.alloc (.cells #[.int .i64 a] 3) := by
  go_enter Trym.func6, Trym.ntmps6
  go_wp2_with fail
  refine (place_some a h _).mono ?_
  rintro e w' ⟨rfl, rfl⟩
  go_wp2
  go_ret
  exact ⟨rfl, rfl⟩

theorem unplace_nil (w : World) :
    Calls Trym.prog 7 #[.pointer none] w fun e w' => e = .returned (.int .i64 0) ∧ w' = w := by
  go_enter Trym.func7, Trym.ntmps7
  go_wp2
  go_ret
  exact ⟨rfl, rfl⟩

theorem unplace_at (a : Int) (b : Nat) (w : World) (h : w.cell? ⟨b, 0, none⟩ = some (.int .i64 a)) :
    Calls Trym.prog 7 #[.pointer (some ⟨b, 0, none⟩)] w fun e w' => e = .returned (.int .i64 a) ∧ w' = w := by
  go_enter Trym.func7, Trym.ntmps7
  go_wp2
  go_ret
  exact ⟨rfl, rfl⟩
end Go.Proofs.Qxb6603594aMods
