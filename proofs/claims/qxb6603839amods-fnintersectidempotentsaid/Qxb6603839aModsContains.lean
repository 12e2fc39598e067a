/- slices.Index, slices.Contains at []string. -/
import Derived.Test.Qxb6603839aModsStrs
namespace Go.Proofs.Qxb6603839aMods
open Go.ChangeShapes Go.WideShapes Go.ChangeAt Go.RowKit

/-- slices.Index: at least 0 exactly where the string stands in the list. -/
def IndexIs (l : List ByteArray) (v : ByteArray) (e : Ending) : Prop := ∃ j : Int, e = .returned (.int .i64 j) ∧ -1 ≤ j ∧ j ≤ 4096 ∧ (0 ≤ j ↔ v ∈ l)

theorem toList_inj {a b : ByteArray} (h : a.toList = b.toList) : a = b := by
  rw [ByteArray.toList_eq, ByteArray.toList_eq] at h
  exact ByteArray.ext (Array.ext' h)

theorem mem_nth {l : List ByteArray} {v : ByteArray} (h : v ∈ l) : ∃ i, i < l.length ∧ nth l i = v := by
  obtain ⟨i, hi, e⟩ := List.getElem_of_mem h
  refine ⟨i, hi, ?_⟩
  unfold nth
  rw [List.getD_eq_getElem?_getD, List.getElem?_eq_getElem hi]
  exact e

set_option maxHeartbeats 400000 in
theorem index19 (a : Option Addr) (c : Nat) (l : List ByteArray) (v : ByteArray) (w : World) (hn : l.length ≤ 4096) (hm : Strs w a l) :
    Calls Trym.prog 19 #[.slice a l.length c, .string v] w fun e w' => IndexIs l v e ∧ w' = w := by
  go_enter Trym.func19, Trym.ntmps19
  go_wp2
  go_loop [8] (fun i => ∃ k : Nat, k ≤ l.length ∧ i = .int .i64 k ∧ ∀ j, j < k → nth l j ≠ v) (fun i => l.length - (intOf i).toNat)
  case atStart => exact ⟨0, Nat.zero_le _, rfl, fun j hj => absurd hj (by omega)⟩
  case round =>
    obtain ⟨k, hk, rfl, hne⟩ := hrel
    have HN : Hid (∀ j, j < k → nth l j ≠ v) := hne
    clear hne
    by_cases hlt : k < l.length
    · obtain ⟨b, o, rfl, hb, hc⟩ := hm (by omega)
      have e0 := hc k hlt
      clear hc hm
      obtain ⟨x, hx⟩ : ∃ x, x = nth l k := ⟨_, rfl⟩
      rw [← hx] at e0
      have HX : Hid (x = nth l k) := hx
      clear hx
      by_cases hq : x = v
      · have hb' : (v.toList == x.toList) = true := by rw [hq]; exact beq_self_eq_true _
        have HQ : Hid (x = v) := hq
        clear hq
        go_wp2
        go_ret
        exact ⟨⟨k, rfl, by omega, by omega, ⟨fun _ => by rw [← HQ.out, HX.out]; exact nth_mem hlt, fun _ => by omega⟩⟩, rfl⟩
      · have hb' : (v.toList == x.toList) = false := beq_eq_false_iff_ne.2 fun h => hq (toList_inj h).symm
        have HQ : Hid (x ≠ v) := hq
        clear hq
        go_wp2
        go_round
        case rel =>
          refine ⟨k + 1, by omega, by go_num, fun j hj => ?_⟩
          by_cases e : j = k
          · subst e; rw [← HX.out]; exact HQ.out
          · exact HN.out j (by omega)
        case measure => simp [intOf]; omega
    · clear hm
      go_wp2
      go_ret
      refine ⟨⟨-1, rfl, by omega, by omega, ⟨fun h => absurd h (by omega), fun h => ?_⟩⟩, rfl⟩
      obtain ⟨i, hi, e⟩ := mem_nth h
      exact absurd e (HN.out i (by omega))

set_option maxHeartbeats 400000 in
theorem contains16 (a : Option Addr) (c : Nat) (l : List ByteArray) (v : ByteArray) (w : World) (hn : l.length ≤ 4096) (hm : Strs w a l) :
    Calls Trym.prog 16 #[.slice a l.length c, .string v] w fun e w' => Says e (fun r => r = true ↔ v ∈ l) ∧ w' = w := by
  go_enter Trym.func16, Trym.ntmps16
  go_wp2_with fail
  refine (index19 a c l v _ hn hm).mono ?_
  rintro e w' ⟨⟨j, rfl, h1, h2, h3⟩, rfl⟩
  have HJ : Hid (0 ≤ j ↔ v ∈ l) := h3
  clear h3
  go_wp2
  go_ret
  exact ⟨Says.mk _ (by rw [decide_eq_true_iff]; exact HJ.out), rfl⟩
end Go.Proofs.Qxb6603839aMods
