/- zzMembers, Member, Voter. -/
import Derived.Test.Qxb6603617aModsClone
import Derived.BigRegion
namespace Go.Proofs.Qxb6603617aMods
open Go.ChangeShapes Go.WideShapes Go.ChangeAt Go.RowKit

set_option maxHeartbeats 1000000 in
theorem members11 (a : Option Addr) (n c : Nat) (I : Nat → Int) (A : Nat → ByteArray) (V : Nat → Bool) (w : World)
    (hn : n ≤ 32768) (hm : Mems w a n I A V) :
    Calls Trym.prog 11 #[.slice a n c] w fun e w' => HandsMems n I A V w e w' := by
  have hmk := make3 Trym.underlying28 info38 n (by omega)
  go_enter Trym.func11, Trym.ntmps11
  go_wp2
  go_loopw [4] (fun i wr => ∃ k : Nat, k ≤ n ∧ i = .int .i64 k ∧ wr.rowIs w.heap.size 38 (n * 3) (cellsTo k I A V) ∧ Below w.heap.size w wr) (fun i _ => n - (intOf i).toNat)
  case atStart => exact ⟨0, Nat.zero_le _, rfl, row_made w n 38 I A V, (Below.refl _ _).alloc (Nat.le_refl _) _⟩
  case round =>
    obtain ⟨k, hk, rfl, hrow, hbel⟩ := hrel
    clear hmk
    by_cases hlt : k < n
    · obtain ⟨b, o, rfl, hb, hc⟩ := hm (by omega)
      obtain ⟨e0, e1, e2⟩ := hc.below hbel hb k hlt
      have f0 := hrow.frozen (k * 3)
      have f1 := hrow.frozen (k * 3 + 1)
      have f2 := hrow.frozen (k * 3 + 2)
      have g0 := hrow.cell (show k * 3 < n * 3 by omega)
      have g1 := hrow.cell (show k * 3 + 1 < n * 3 by omega)
      have g2 := hrow.cell (show k * 3 + 2 < n * 3 by omega)
      clear hc hm
      go_wp2
      go_region
      go_wp2
      go_roundw
      case rel => exact ⟨k + 1, by omega, by go_num, (row_step hrow).drew, (((hbel.setCell (Nat.le_refl _) _).setCell (Nat.le_refl _) _).setCell (Nat.le_refl _) _).drew⟩
      case measure => simp [intOf]; omega
    · go_wp2
      go_ret
      obtain rfl : k = n := by omega
      exact ⟨_, _, rfl, Nat.le_refl _, fun h => (by simp at h), fun _ => ⟨_, _, rfl, hrow.lt, row_cells hrow⟩, hbel⟩

/-- What Member hands back. -/
def MemberIs (n : Nat) (I : Nat → Int) (A : Nat → ByteArray) (V : Nat → Bool) (id : Int) (e : Ending) : Prop :=
  (∃ i, i < n ∧ I i = id ∧ (∀ j, j < i → I j ≠ id) ∧ e = .returned (.tuple #[.agg #[.int .u64 (I i), .string (A i), .bool (V i)], .bool true])) ∨
  ((∀ j, j < n → I j ≠ id) ∧ e = .returned (.tuple #[.agg #[.int .u64 0, .string ByteArray.empty, .bool false], .bool false]))

set_option maxHeartbeats 1000000 in
theorem member28 (a : Option Addr) (n c : Nat) (I : Nat → Int) (A : Nat → ByteArray) (V : Nat → Bool) (id : Int) (w : World)
    (hn : n ≤ 32769) (hm : Mems w a n I A V) :
    Calls Trym.prog 28 #[.agg #[.slice a n c], .int .u64 id] w fun e w' => MemberIs n I A V id e ∧ Below w.heap.size w w' := by
  go_enter Trym.func28, Trym.ntmps28
  go_wp2
  go_loopw [11] (fun i wr => ∃ k : Nat, k ≤ n ∧ i = .int .i64 k ∧ (∀ j, j < k → I j ≠ id) ∧
      Below (w.heap.size + 2) ((w.alloc (Obj.cells #[Value.slice a n c] 32)).alloc (Obj.cells #[Value.int IntKind.u64 0, Value.string { data := #[] }, Value.bool false] 38)) wr) (fun i _ => n - (intOf i).toNat)
  case atStart => exact ⟨0, Nat.zero_le _, rfl, fun j hj => absurd hj (Nat.not_lt_zero _), Below.refl _ _⟩
  case round =>
    obtain ⟨k, hk, rfl, hne, hbel⟩ := hrel
    have hbw : Below w.heap.size w wr := (((Below.refl _ _).alloc (Nat.le_refl _) _).alloc (by simp) _).trans (hbel.mono (by omega))
    have hz : w.heap.size + 1 < wr.heap.size := by have := hbel.size; simp at this; omega
    have r0 : wr.cell? ⟨w.heap.size + 1, 0, none⟩ = some (.int .u64 0) := (hbel.cell (by show w.heap.size + 1 < _; omega)).trans (by simp [go_sem])
    have r1 : wr.cell? ⟨w.heap.size + 1, 1, none⟩ = some (.string { data := #[] }) := (hbel.cell (by show w.heap.size + 1 < _; omega)).trans (by simp [go_sem])
    have r2 : wr.cell? ⟨w.heap.size + 1, 2, none⟩ = some (.bool false) := (hbel.cell (by show w.heap.size + 1 < _; omega)).trans (by simp [go_sem])
    have q0 : wr.frozen? ⟨w.heap.size + 1, 0, none⟩ = false := (hbel.frozen (by show w.heap.size + 1 < _; omega)).trans (by simp [go_sem])
    have q1 : wr.frozen? ⟨w.heap.size + 1, 1, none⟩ = false := (hbel.frozen (by show w.heap.size + 1 < _; omega)).trans (by simp [go_sem])
    have q2 : wr.frozen? ⟨w.heap.size + 1, 2, none⟩ = false := (hbel.frozen (by show w.heap.size + 1 < _; omega)).trans (by simp [go_sem])
    by_cases hlt : k < n
    · obtain ⟨b, o, rfl, hb, hc⟩ := hm (by omega)
      obtain ⟨e0, e1, e2⟩ := hc.below hbw hb k hlt
      clear hc hm
      by_cases heq : I k = id
      · have hq : (I k == id) = true := beq_iff_eq.2 heq
        have HE : Hid (I k = id) := heq
        clear heq
        have HN : Hid (∀ j, j < k → I j ≠ id) := hne
        clear hne
        go_wp2
        refine bodyPost_ret (v := .tuple #[.agg #[.int .u64 (I k), .string (A k), .bool (V k)], .bool true]) (by simp [results, Trym.results28, go_sem, r0, r1, r2, hz]) rfl ⟨.inl ⟨k, hlt, HE.out, HN.out, rfl⟩, ?_⟩
        exact Below.alloc (((hbw.setCell (by simp) _).setCell (by simp) _).setCell (by simp) _) (by simp; omega) _
      · have hq : (I k == id) = false := beq_eq_false_iff_ne.2 heq
        have HE : Hid (I k ≠ id) := heq
        clear heq
        have HN : Hid (∀ j, j < k → I j ≠ id) := hne
        clear hne
        go_wp2
        go_roundw
        case rel =>
          refine ⟨k + 1, by omega, by go_num, fun j hj => ?_, hbel.alloc (by omega) _⟩
          rcases Nat.lt_succ_iff_lt_or_eq.1 hj with h | rfl
          · exact HN.out j h
          · exact HE.out
        case measure => simp [intOf]; omega
    · clear hm
      have HN : Hid (∀ j, j < k → I j ≠ id) := hne
      clear hne
      go_wp2
      refine bodyPost_ret (v := .tuple #[.agg #[.int .u64 0, .string ByteArray.empty, .bool false], .bool false]) (by simp [results, Trym.results28, go_sem, r0, r1, r2]; rfl) rfl ⟨.inr ⟨fun j hj => HN.out j (by omega), rfl⟩, ?_⟩
      exact ((hbw.setCell (by simp) _).setCell (by simp) _).setCell (by simp) _

set_option maxHeartbeats 1000000 in
theorem voter12 (a : Option Addr) (n c : Nat) (I : Nat → Int) (A : Nat → ByteArray) (V : Nat → Bool) (id : Int) (w : World)
    (hn : n ≤ 32769) (hm : Mems w a n I A V) :
    Calls Trym.prog 12 #[.agg #[.slice a n c], .int .u64 id] w fun e w' => Answers e (VoterIs n I V id) ∧ Below w.heap.size w w' := by
  go_enter Trym.func12, Trym.ntmps12
  go_wp2_with fail
  refine (member28 a n c I A V id _ hn (hm.below ((Below.refl w.heap.size w).alloc (Nat.le_refl _) _) (Nat.le_refl _))).mono ?_
  rintro e w' ⟨h, hbel⟩
  have hbw : Below w.heap.size w w' := ((Below.refl _ _).alloc (Nat.le_refl _) _).trans (hbel.mono (by simp))
  clear hbel
  rcases h with ⟨i, hi, he, hf, rfl⟩ | ⟨hf, rfl⟩
  · have HV : Hid (VoterIs n I V id (V i)) := .inl ⟨i, hi, he, hf, rfl⟩
    clear he hf
    go_wp2
    go_ret
    exact ⟨Answers.mk _ HV.out, hbw.alloc (by have := hbw.size; omega) _⟩
  · have HV : Hid (VoterIs n I V id false) := .inr ⟨hf, rfl⟩
    clear hf
    go_wp2
    go_ret
    exact ⟨Answers.mk _ HV.out, hbw.alloc (by have := hbw.size; omega) _⟩
end Go.Proofs.Qxb6603617aMods
