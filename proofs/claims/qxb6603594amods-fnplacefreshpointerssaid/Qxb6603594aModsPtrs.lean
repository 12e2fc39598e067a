/- '==' between two pointers to two boxes of the call's own: false. -/
import Derived.Test.Qxb6603594aModsPlace
import Derived.LaidEqlPtr
namespace Go.Proofs.Qxb6603594aMods
open Go.ChangeShapes Go.WideShapes Go.ChangeAt Go.RowKit

theorem size3 : (Trym.prog.info? 3).map (·.size) = some 1 := by kernel_rfl

theorem two_boxes (u v : Value) (w : World) :
    (binOp .eql 22 (.pointer (some ⟨w.heap.size, 0, none⟩)) (.pointer (some ⟨w.heap.size + 1, 0, none⟩))).run Trym.prog ((w.alloc (.cells #[u] 3)).alloc (.cells #[v] 3)) = .ok (.bool false) ((w.alloc (.cells #[u] 3)).alloc (.cells #[v] 3)) := by
  obtain ⟨j, hj, hjs⟩ := Option.map_eq_some_iff.1 size3
  have h1 : ((w.alloc (.cells #[u] 3)).alloc (.cells #[v] 3)).heap[w.heap.size]? = some (.cells #[u] 3) := by
    show ((w.heap.push (.cells #[u] 3)).push (.cells #[v] 3))[w.heap.size]? = _
    simp [Array.getElem?_push]
  have h2 : ((w.alloc (.cells #[u] 3)).alloc (.cells #[v] 3)).heap[w.heap.size + 1]? = some (.cells #[v] 3) := by
    show ((w.heap.push (.cells #[u] 3)).push (.cells #[v] 3))[w.heap.size + 1]? = _
    rw [Array.getElem?_push, if_pos (by simp)]
  exact run_eql_ptr_other (P := Trym.prog) _ (ca := #[u]) (cb := #[v]) (ta := 3) (tb := 3) Trym.underlying22 hj (by rw [hjs]; decide) (by simp) h1 h2
end Go.Proofs.Qxb6603594aMods
