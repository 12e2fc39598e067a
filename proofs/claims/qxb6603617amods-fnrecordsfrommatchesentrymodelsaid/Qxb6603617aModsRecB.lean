/- The three copies of a slice of integers: zzCloneBytes, zzCloneInts, zzCloneU64. -/
import Derived.Test.Qxb6603617aModsRecA
namespace Go.Proofs.Qxb6603617aMods
open Go.ChangeShapes Go.WideShapes Go.ChangeAt Go.RowKit

/-- 's == nil' of a slice. -/
theorem eql_nil' {t e : TypeId} (h : Trym.prog.underlying t = some (.slice e)) (a : Option Addr) (l c : Nat) (w : World) : (binOp .eql t (.slice a l c) (.slice none 0 0)).run Trym.prog w = .ok (.bool a.isNone) w := by
  have h1 : ∀ d : Nat, (Op.equalIn (d + 1) t (.slice a l c) (.slice none 0 0)).run Trym.prog w = .ok a.isNone w := fun d => by
    cases a <;> simp [Op.equalIn, run_underlying h]
  simp only [binOp]
  simp [Op.equal, Op.maxDepth, h1 9999]

theorem info5 : (Trym.prog.info? 5).map (fun i => (i.zero, i.size, i.bytes)) = some (some (.int .u8 0), 1, 1) := by kernel_rfl
theorem info3 : (Trym.prog.info? 3).map (fun i => (i.zero, i.size, i.bytes)) = some (some (.int .i64 0), 1, 8) := by kernel_rfl
theorem info23 : (Trym.prog.info? 23).map (fun i => (i.zero, i.size, i.bytes)) = some (some (.int .u64 0), 1, 8) := by kernel_rfl

/-- A row of the call's own that holds n numbers. -/
def OwnI (k : IntKind) (t : TypeId) (w : World) (base : Nat) (a : Option Addr) (n : Nat) (Z : Nat → Int) : Prop :=
  0 < n → ∃ b, a = some ⟨b, 0, none⟩ ∧ base ≤ b ∧ w.rowIs b t n (fun i => .int k (Z i))

theorem OwnI.ints {k : IntKind} {t : TypeId} {w : World} {base : Nat} {a : Option Addr} {n : Nat} {Z : Nat → Int} (h : OwnI k t w base a n Z) : Ints k w base a n Z := fun hn => by
  obtain ⟨b, rfl, hle, hr⟩ := h hn
  exact ⟨b, 0, rfl, hle, hr.lt, fun i hi => by rw [Nat.zero_add]; exact hr.cell hi⟩

theorem OwnI.below {k : IntKind} {t : TypeId} {w w' : World} {base : Nat} {a : Option Addr} {n : Nat} {Z : Nat → Int} (h : OwnI k t w base a n Z) {B : Nat} (hb : Below B w w') (hB : w.heap.size ≤ B) : OwnI k t w' base a n Z := fun hn => by
  obtain ⟨b, rfl, hle, hr⟩ := h hn
  exact ⟨b, rfl, hle, hr.of_block (hb.block b (Nat.lt_of_lt_of_le hr.lt hB))⟩

/-- The call handed back a copy. -/
def HandsI (k : IntKind) (t : TypeId) (n : Nat) (Z : Nat → Int) (w : World) (e : Ending) (w' : World) : Prop :=
  ∃ a' c', e = .returned (.slice a' n c') ∧ n ≤ c' ∧ OwnI k t w' w.heap.size a' n Z ∧ Below w.heap.size w w'

/-- What a row holds behind k rounds of a copy. -/
def numsTo (kd : IntKind) (k : Nat) (Z : Nat → Int) (j : Nat) : Value := .int kd (upTo k Z 0 j)

theorem nums_step {kd : IntKind} {w : World} {b t n k : Nat} {Z : Nat → Int} (h : w.rowIs b t n (numsTo kd k Z)) : (w.setCell ⟨b, k, none⟩ (.int kd (Z k))).rowIs b t n (numsTo kd (k + 1) Z) := by
  refine (h.set k _).congr fun j _ => ?_
  unfold numsTo upTo
  by_cases e : j = k
  · subst e; rw [if_pos rfl, if_pos (by omega)]
  · rw [if_neg e]
    by_cases hl : j < k
    · rw [if_pos hl, if_pos (by omega)]
    · rw [if_neg hl, if_neg (by omega)]

theorem nums_done {kd : IntKind} {w : World} {b t n : Nat} {Z : Nat → Int} (h : w.rowIs b t n (numsTo kd n Z)) : w.rowIs b t n (fun i => .int kd (Z i)) := by
  refine h.congr fun j hj => ?_
  unfold numsTo upTo
  rw [if_pos hj]

theorem nums_made (kd : IntKind) (w : World) (n : Nat) (t : TypeId) (Z : Nat → Int) : (w.alloc (.cells (madeCells #[.int kd 0] n) t)).rowIs w.heap.size t n (numsTo kd 0 Z) :=
  (World.rowIs_made w (.int kd 0) n t).congr fun j _ => by unfold numsTo upTo; rw [if_neg (by omega)]

set_option maxHeartbeats 400000 in
theorem clone18 (a : Option Addr) (n c : Nat) (Z : Nat → Int) (w : World) (hn : n ≤ 1048576) (h0 : a = none → n = 0 ∧ c = 0) (hz : Ints .u8 w 0 a n Z) :
    Calls Trym.prog 18 #[.slice a n c] w fun e w' => HandsI .u8 5 n Z w e w' := by
  have hnil := eql_nil' Trym.underlying39
  cases a with
  | none =>
    obtain ⟨rfl, rfl⟩ := h0 rfl
    go_enter Trym.func18, Trym.ntmps18
    go_wp2
    go_ret
    exact ⟨none, 0, rfl, Nat.le_refl _, fun h => absurd h (by omega), Below.refl _ _⟩
  | some ad =>
    have hmk := run_make_row' (P := Trym.prog) 39 5 (.int .u8 0) 1 Trym.underlying39 info5 rfl .i64 .i64 n (by omega) (by omega)
    go_enter Trym.func18, Trym.ntmps18
    go_wp2
    go_loopw [4] (fun i wr => ∃ k : Nat, k ≤ n ∧ i = .int .i64 k ∧ wr.rowIs w.heap.size 5 n (numsTo .u8 k Z) ∧ Below w.heap.size w wr) (fun i _ => n - (intOf i).toNat)
    case atStart => exact ⟨0, Nat.zero_le _, rfl, nums_made .u8 w n 5 Z, (Below.refl _ _).alloc (Nat.le_refl _) _⟩
    case round =>
      obtain ⟨k, hk, rfl, hrow, hbel⟩ := hrel
      clear hmk hnil
      by_cases hlt : k < n
      · obtain ⟨b, o, he, _, hb, hc⟩ := hz (by omega)
        obtain rfl : ad = ⟨b, o, none⟩ := by simpa using he
        have e0 := hc.below hbel hb k hlt
        have f0 := hrow.frozen k
        have g0 := hrow.cell hlt
        clear hc hz h0 he
        go_wp2
        go_roundw
        case rel => exact ⟨k + 1, by omega, by go_num, nums_step hrow, hbel.setCell (Nat.le_refl _) _⟩
        case measure => simp [intOf]; omega
      · go_wp2
        go_ret
        obtain rfl : k = n := by omega
        exact ⟨_, _, rfl, Nat.le_refl _, fun _ => ⟨_, rfl, Nat.le_refl _, nums_done hrow⟩, hbel⟩

set_option maxHeartbeats 400000 in
theorem clone19 (a : Option Addr) (n c : Nat) (Z : Nat → Int) (w : World) (hn : n ≤ 1048576) (h0 : a = none → n = 0 ∧ c = 0) (hz : Ints .i64 w 0 a n Z) :
    Calls Trym.prog 19 #[.slice a n c] w fun e w' => HandsI .i64 3 n Z w e w' := by
  have hnil := eql_nil' Trym.underlying40
  cases a with
  | none =>
    obtain ⟨rfl, rfl⟩ := h0 rfl
    go_enter Trym.func19, Trym.ntmps19
    go_wp2
    go_ret
    exact ⟨none, 0, rfl, Nat.le_refl _, fun h => absurd h (by omega), Below.refl _ _⟩
  | some ad =>
    have hmk := run_make_row' (P := Trym.prog) 40 3 (.int .i64 0) 8 Trym.underlying40 info3 rfl .i64 .i64 n (by omega) (by omega)
    go_enter Trym.func19, Trym.ntmps19
    go_wp2
    go_loopw [4] (fun i wr => ∃ k : Nat, k ≤ n ∧ i = .int .i64 k ∧ wr.rowIs w.heap.size 3 n (numsTo .i64 k Z) ∧ Below w.heap.size w wr) (fun i _ => n - (intOf i).toNat)
    case atStart => exact ⟨0, Nat.zero_le _, rfl, nums_made .i64 w n 3 Z, (Below.refl _ _).alloc (Nat.le_refl _) _⟩
    case round =>
      obtain ⟨k, hk, rfl, hrow, hbel⟩ := hrel
      clear hmk hnil
      by_cases hlt : k < n
      · obtain ⟨b, o, he, _, hb, hc⟩ := hz (by omega)
        obtain rfl : ad = ⟨b, o, none⟩ := by simpa using he
        have e0 := hc.below hbel hb k hlt
        have f0 := hrow.frozen k
        have g0 := hrow.cell hlt
        clear hc hz h0 he
        go_wp2
        go_roundw
        case rel => exact ⟨k + 1, by omega, by go_num, nums_step hrow, hbel.setCell (Nat.le_refl _) _⟩
        case measure => simp [intOf]; omega
      · go_wp2
        go_ret
        obtain rfl : k = n := by omega
        exact ⟨_, _, rfl, Nat.le_refl _, fun _ => ⟨_, rfl, Nat.le_refl _, nums_done hrow⟩, hbel⟩

set_option maxHeartbeats 400000 in
theorem clone20 (a : Option Addr) (n c : Nat) (Z : Nat → Int) (w : World) (hn : n ≤ 1048576) (h0 : a = none → n = 0 ∧ c = 0) (hz : Ints .u64 w 0 a n Z) :
    Calls Trym.prog 20 #[.slice a n c] w fun e w' => HandsI .u64 23 n Z w e w' := by
  have hnil := eql_nil' Trym.underlying41
  cases a with
  | none =>
    obtain ⟨rfl, rfl⟩ := h0 rfl
    go_enter Trym.func20, Trym.ntmps20
    go_wp2
    go_ret
    exact ⟨none, 0, rfl, Nat.le_refl _, fun h => absurd h (by omega), Below.refl _ _⟩
  | some ad =>
    have hmk := run_make_row' (P := Trym.prog) 41 23 (.int .u64 0) 8 Trym.underlying41 info23 rfl .i64 .i64 n (by omega) (by omega)
    go_enter Trym.func20, Trym.ntmps20
    go_wp2
    go_loopw [4] (fun i wr => ∃ k : Nat, k ≤ n ∧ i = .int .i64 k ∧ wr.rowIs w.heap.size 23 n (numsTo .u64 k Z) ∧ Below w.heap.size w wr) (fun i _ => n - (intOf i).toNat)
    case atStart => exact ⟨0, Nat.zero_le _, rfl, nums_made .u64 w n 23 Z, (Below.refl _ _).alloc (Nat.le_refl _) _⟩
    case round =>
      obtain ⟨k, hk, rfl, hrow, hbel⟩ := hrel
      clear hmk hnil
      by_cases hlt : k < n
      · obtain ⟨b, o, he, _, hb, hc⟩ := hz (by omega)
        obtain rfl : ad = ⟨b, o, none⟩ := by simpa using he
        have e0 := hc.below hbel hb k hlt
        have f0 := hrow.frozen k
        have g0 := hrow.cell hlt
        clear hc hz h0 he
        go_wp2
        go_roundw
        case rel => exact ⟨k + 1, by omega, by go_num, nums_step hrow, hbel.setCell (Nat.le_refl _) _⟩
        case measure => simp [intOf]; omega
      · go_wp2
        go_ret
        obtain rfl : k = n := by omega
        exact ⟨_, _, rfl, Nat.le_refl _, fun _ => ⟨_, rfl, Nat.le_refl _, nums_done hrow⟩, hbel⟩
end Go.Proofs.Qxb6603617aMods
