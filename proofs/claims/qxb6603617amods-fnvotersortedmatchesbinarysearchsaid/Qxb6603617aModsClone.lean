/- zzCloneMembers: a copy in a row of its own. -/
import Derived.Test.Qxb6603617aModsReads
import Derived.Laws.MakeOwn
namespace Go.Proofs.Qxb6603617aMods
open Go.ChangeShapes Go.WideShapes Go.ChangeAt Go.RowKit

/-- 's == nil' of a slice. -/
theorem eql_nil {t e : TypeId} (h : Trym.prog.underlying t = some (.slice e)) (a : Option Addr) (l c : Nat) (w : World) : (binOp .eql t (.slice a l c) (.slice none 0 0)).run Trym.prog w = .ok (.bool a.isNone) w := by
  have h1 : ∀ d : Nat, (Op.equalIn (d + 1) t (.slice a l c) (.slice none 0 0)).run Trym.prog w = .ok a.isNone w := fun d => by
    cases a <;> simp [Op.equalIn, run_underlying h]
  simp only [binOp]
  simp [Op.equal, Op.maxDepth, h1 9999]

theorem info35 : (Trym.prog.info? 35).map (fun i => (i.zero, i.size, i.bytes)) = some (some (.agg #[.int .u64 0, .string ByteArray.empty, .bool false]), 3, 32) := by kernel_rfl
theorem info38 : (Trym.prog.info? 38).map (fun i => (i.zero, i.size, i.bytes)) = some (some (.agg #[.int .u64 0, .string ByteArray.empty, .bool false]), 3, 32) := by kernel_rfl

theorem make3 {t e : TypeId} (ht : Trym.prog.underlying t = some (.slice e))
    (hinfo : (Trym.prog.info? e).map (fun i => (i.zero, i.size, i.bytes)) = some (some (.agg #[.int .u64 0, .string ByteArray.empty, .bool false]), 3, 32))
    (n : Nat) (hn : n ≤ 1000000) (w : World) :
    (Instr.makeSlice t (.int .i64 (n : Int)) (.int .i64 (n : Int))).run Trym.prog w = .ok (.slice (some ⟨w.heap.size, 0, none⟩) n n) (w.alloc (.cells (madeCells #[.int .u64 0, .string ByteArray.empty, .bool false] (n * 3)) e)) := by
  obtain ⟨i, hi, hzz⟩ := Option.map_eq_some_iff.1 hinfo
  simp only [Prod.mk.injEq] at hzz
  obtain ⟨hz, hs, hb⟩ := hzz
  have hr := run_make (P := Trym.prog) w t e i _ ht hi hz .i64 .i64 n n (by omega) (Int.le_refl _) (by rw [hb]; omega) (by omega)
  rw [hs] at hr
  simpa [Value.cells] using hr

/-- The call handed back a slice of n members in memory of its own (or nil, where n = 0); nothing older has turned. -/
def HandsMems (n : Nat) (I : Nat → Int) (A : Nat → ByteArray) (V : Nat → Bool) (w : World) (e : Ending) (w' : World) : Prop :=
  ∃ a' c', e = .returned (.slice a' n c') ∧ n ≤ c' ∧ (a' = none → n = 0 ∧ c' = 0) ∧ Mems w' a' n I A V ∧ Below w.heap.size w w'

set_option maxHeartbeats 400000 in
theorem clone10 (a : Option Addr) (n c : Nat) (I : Nat → Int) (A : Nat → ByteArray) (V : Nat → Bool) (w : World)
    (hn : n ≤ 32768) (h0 : a = none → n = 0 ∧ c = 0) (hm : Mems w a n I A V) :
    Calls Trym.prog 10 #[.slice a n c] w fun e w' => HandsMems n I A V w e w' := by
  cases a with
  | none =>
    obtain ⟨rfl, rfl⟩ := h0 rfl
    have hnil := eql_nil Trym.underlying22
    go_enter Trym.func10, Trym.ntmps10
    go_wp2
    go_ret
    exact ⟨none, 0, rfl, Nat.le_refl _, fun _ => ⟨rfl, rfl⟩, fun h => absurd h (by omega), Below.refl _ _⟩
  | some ad =>
    have hmk := make3 Trym.underlying22 info35 n (by omega)
    have hnil := eql_nil Trym.underlying22
    go_enter Trym.func10, Trym.ntmps10
    go_wp2
    go_loopw [4] (fun i wr => ∃ k : Nat, k ≤ n ∧ i = .int .i64 k ∧ wr.rowIs w.heap.size 35 (n * 3) (cellsTo k I A V) ∧ Below w.heap.size w wr) (fun i _ => n - (intOf i).toNat)
    case atStart => exact ⟨0, Nat.zero_le _, rfl, row_made w n 35 I A V, (Below.refl _ _).alloc (Nat.le_refl _) _⟩
    case round =>
      obtain ⟨k, hk, rfl, hrow, hbel⟩ := hrel
      clear hmk
      by_cases hlt : k < n
      · obtain ⟨b, o, he, hb, hc⟩ := hm (by omega)
        obtain rfl : ad = ⟨b, o, none⟩ := by simpa using he
        obtain ⟨e0, e1, e2⟩ := hc.below hbel hb k hlt
        have f0 := hrow.frozen (k * 3)
        have f1 := hrow.frozen (k * 3 + 1)
        have f2 := hrow.frozen (k * 3 + 2)
        have g0 := hrow.cell (show k * 3 < n * 3 by omega)
        have g1 := hrow.cell (show k * 3 + 1 < n * 3 by omega)
        have g2 := hrow.cell (show k * 3 + 2 < n * 3 by omega)
        clear hc hm h0 he
        go_wp2
        go_roundw
        case rel => exact ⟨k + 1, by omega, by go_num, row_step hrow, ((hbel.setCell (Nat.le_refl _) _).setCell (Nat.le_refl _) _).setCell (Nat.le_refl _) _⟩
        case measure => simp [intOf]; omega
      · go_wp2
        go_ret
        obtain rfl : k = n := by omega
        exact ⟨_, _, rfl, Nat.le_refl _, fun h => (by simp at h), fun _ => ⟨_, _, rfl, hrow.lt, row_cells hrow⟩, hbel⟩
end Go.Proofs.Qxb6603617aMods
