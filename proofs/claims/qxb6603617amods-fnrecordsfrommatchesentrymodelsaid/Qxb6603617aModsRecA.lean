/- For the law on Records.From: slices of integers by their index; the functions that only look at lengths and numbers. -/
import Derived.Test.Qxb6603617aModsMem
import Derived.BigQuiet
import Derived.BigRegion
namespace Go.Proofs.Qxb6603617aMods
open Go.ChangeShapes Go.WideShapes Go.ChangeAt Go.RowKit

/-- n numbers of kind k, from offset o of block b on. -/
def CellsI (k : IntKind) (w : World) (b o n : Nat) (Z : Nat → Int) : Prop := ∀ i, i < n → w.cell? ⟨b, o + i, none⟩ = some (.int k (Z i))

/-- What a slice of n numbers is good for. -/
def Ints (k : IntKind) (w : World) (base : Nat) (a : Option Addr) (n : Nat) (Z : Nat → Int) : Prop :=
  0 < n → ∃ b o, a = some ⟨b, o, none⟩ ∧ base ≤ b ∧ b < w.heap.size ∧ CellsI k w b o n Z

theorem CellsI.below {k : IntKind} {w w' : World} {b o n : Nat} {Z : Nat → Int} (h : CellsI k w b o n Z) {B : Nat} (hb : Below B w w') (hlt : b < B) : CellsI k w' b o n Z :=
  fun i hi => (hb.cell hlt).trans (h i hi)

theorem Ints.below {k : IntKind} {w w' : World} {base : Nat} {a : Option Addr} {n : Nat} {Z : Nat → Int} (h : Ints k w base a n Z) {B : Nat} (hb : Below B w w') (hB : w.heap.size ≤ B) : Ints k w' base a n Z := by
  intro hn
  obtain ⟨b, o, rfl, hle, hlt, hc⟩ := h hn
  exact ⟨b, o, rfl, hle, Nat.lt_of_lt_of_le hlt hb.size, hc.below hb (by omega)⟩

/-- A store below 'base' leaves it. -/
theorem Ints.setCell {k : IntKind} {w : World} {base : Nat} {a : Option Addr} {n : Nat} {Z : Nat → Int} (h : Ints k w base a n Z) {p : Addr} (hp : p.block < base) (v : Value) : Ints k (w.setCell p v) base a n Z := by
  intro hn
  obtain ⟨b, o, rfl, hle, hlt, hc⟩ := h hn
  refine ⟨b, o, rfl, hle, by simpa [World.setCell] using hlt, fun i hi => ?_⟩
  exact (World.cell?_of_block (w := w) (Below.heap_setCell w p v b (by omega))).trans (hc i hi)

theorem below_drewN {B : Nat} {a w : World} (h : Below B a w) (n : Nat) : Below B a (w.drewN n) := ⟨h.os, h.tape, h.output, h.size, h.block⟩

set_option maxHeartbeats 400000 in
theorem bytes14 (a0 a1 a3 a4 : Option Addr) (n0 n1 n3 n4 c0 c1 c3 c4 : Nat) (x y : Int) (w : World) (h0 : n0 ≤ maxLen) (h1 : n1 ≤ maxLen) (h3 : n3 ≤ maxLen) (h4 : n4 ≤ maxLen) :
    Calls Trym.prog 14 #[.slice a0 n0 c0, .slice a1 n1 c1, .int .u64 x, .slice a3 n3 c3, .slice a4 n4 c4, .int .u64 y] w fun e w' => Answers e (fun _ => True) ∧ w' = w := by
  unfold maxLen at h0 h1 h3 h4
  go_enter Trym.func14, Trym.ntmps14
  go_wp2
  all_goals go_ret
  all_goals exact ⟨Answers.mk _ trivial, rfl⟩

set_option maxHeartbeats 400000 in
theorem fit15 (a0 a1 a3 a4 : Option Addr) (n0 n1 n3 n4 c0 c1 c3 c4 : Nat) (w : World) (h0 : n0 ≤ maxLen) (h1 : n1 ≤ maxLen) (h3 : n3 ≤ maxLen) (h4 : n4 ≤ maxLen) :
    Calls Trym.prog 15 #[.slice a0 n0 c0, .slice a1 n1 c1, .slice a3 n3 c3, .slice a4 n4 c4] w fun e w' => Answers e (fun r => r = true → n0 ≤ 1048576 ∧ n1 ≤ 131072 ∧ n3 ≤ 131072 ∧ n4 ≤ 131072) ∧ w' = w := by
  unfold maxLen at h0 h1 h3 h4
  by_cases g0 : 1048576 < (n0 : Int)
  · go_enter Trym.func15, Trym.ntmps15
    go_wp2
    all_goals go_ret
    all_goals exact ⟨Answers.mk _ (by simp), rfl⟩
  by_cases g1 : 131072 < (n1 : Int)
  · go_enter Trym.func15, Trym.ntmps15
    go_wp2
    all_goals go_ret
    all_goals exact ⟨Answers.mk _ (by simp), rfl⟩
  by_cases g3 : 131072 < (n3 : Int)
  · go_enter Trym.func15, Trym.ntmps15
    go_wp2
    all_goals go_ret
    all_goals exact ⟨Answers.mk _ (by simp), rfl⟩
  by_cases g4 : 131072 < (n4 : Int)
  · go_enter Trym.func15, Trym.ntmps15
    go_wp2
    all_goals go_ret
    all_goals exact ⟨Answers.mk _ (by simp), rfl⟩
  go_enter Trym.func15, Trym.ntmps15
  go_wp2
  go_ret
  exact ⟨Answers.mk _ (fun _ => by omega), rfl⟩

set_option maxHeartbeats 400000 in
theorem holds17 (f x : Int) (n : Nat) (w : World) (hn : n ≤ 131072) (hf0 : 0 ≤ f) (hf1 : f ≤ 18446744073709551615) (hx0 : 0 ≤ x) (hx1 : x ≤ 18446744073709551615) :
    Calls Trym.prog 17 #[.int .u64 f, .int .i64 n, .int .u64 x] w fun e w' => Answers e (fun r => r = true → f ≤ x ∧ x - f < n) ∧ w' = w := by
  by_cases hle : f ≤ x
  · go_enter Trym.func17, Trym.ntmps17
    go_wp2
    go_ret
    exact ⟨Answers.mk _ (fun h => ⟨hle, of_decide_eq_true h⟩), rfl⟩
  · go_enter Trym.func17, Trym.ntmps17
    go_wp2
    go_ret
    exact ⟨Answers.mk _ (fun h => by simp at h), rfl⟩

theorem wrap_low (f : Int) (n : Nat) (hf1 : f ≤ 18446744073709551615) (hf0 : 0 ≤ f) (hn : n ≤ 131072) (h : ¬ f + (n : Int) ≤ 18446744073709551616) : IntKind.u64.wrap (f + ((n : Int) - 1)) < f := by
  have e : IntKind.u64.wrap (f + ((n : Int) - 1)) = (f + ((n : Int) - 1)) % 18446744073709551616 := by simp [IntKind.wrap, IntKind.bits, IntKind.signed]
  rw [e]
  omega

/-- One step of the configs' order. -/
def Sorted (n : Nat) (C : Nat → Int) : Prop := ∀ j, j + 1 < n → C j ≤ C (j + 1)

set_option maxHeartbeats 1000000 in
theorem premise16 (a1 a3 a4 : Option Addr) (n1 n3 n4 c1 c3 c4 : Nat) (C : Nat → Int) (f : Int) (w : World) (h1 : n1 ≤ 131072) (h3 : n3 ≤ 131072) (h4 : n4 ≤ 131072)
    (hf0 : 0 ≤ f) (hf1 : f ≤ 18446744073709551615) (hc : Ints .u64 w 0 a4 n4 C) :
    Calls Trym.prog 16 #[.slice a1 n1 c1, .int .u64 f, .slice a3 n3 c3, .slice a4 n4 c4] w fun e w' =>
      Answers e (fun r => r = true → n1 = n3 ∧ 0 < n3 ∧ f + n3 ≤ 18446744073709551616 ∧ Sorted n4 C) ∧ Below w.heap.size w w' := by
  by_cases g1 : n1 = n3
  · subst g1
    by_cases g2 : n1 = 0
    · subst g2
      go_enter Trym.func16, Trym.ntmps16
      go_wp2
      go_ret
      exact ⟨Answers.mk _ (by simp), Below.refl _ _⟩
    · have q2 : ((n1 : Int) == 0) = false := beq_eq_false_iff_ne.2 (by omega)
      have p2 : (0 : Int) < (n1 : Int) := by omega
      by_cases g3 : f + (n1 : Int) ≤ 18446744073709551616
      · go_enter Trym.func16, Trym.ntmps16
        go_wp2
        go_loopw [10] (fun i wr => ∃ k : Nat, k ≤ n4 ∧ i = .int .i64 k ∧ (∀ j, j + 1 < k → C j ≤ C (j + 1)) ∧ Below w.heap.size w wr) (fun i _ => n4 - (intOf i).toNat)
        case atStart => exact ⟨0, Nat.zero_le _, rfl, fun j hj => absurd hj (by omega), Below.refl _ _⟩
        case round =>
          obtain ⟨k, hk, rfl, hs, hbel⟩ := hrel
          have HS : Hid (∀ j, j + 1 < k → C j ≤ C (j + 1)) := hs
          clear hs
          by_cases hlt : k < n4
          · obtain ⟨b, o, rfl, _, hb, hci⟩ := hc (by omega)
            have e0 := hci.below hbel hb k hlt
            by_cases t1 : C k < f
            · clear hc hci
              go_wp2
              go_ret
              exact ⟨Answers.mk _ (by simp), hbel⟩
            by_cases t2 : C k > f + ((n1 : Int) - 1)
            · clear hc hci
              go_wp2
              go_ret
              exact ⟨Answers.mk _ (by simp), hbel⟩
            rcases (show k = 0 ∨ ∃ m, k = m + 1 from by cases k with | zero => exact .inl rfl | succ m => exact .inr ⟨m, rfl⟩) with rfl | ⟨m, rfl⟩
            · rw [Nat.add_zero] at e0
              clear hc hci
              go_wp2
              go_quiet (fail)
              go_wp2
              go_roundw
              case rel => exact ⟨1, by omega, by go_num, fun j hj => absurd hj (by omega), below_drewN hbel _⟩
              case measure => simp [intOf]; omega
            · have e1 := hci.below hbel hb m (by omega)
              clear hc hci
              by_cases t3 : C m > C (m + 1)
              · go_wp2
                go_quiet (fail)
                go_wp2
                go_ret
                exact ⟨Answers.mk _ (by simp), below_drewN hbel _⟩
              · go_wp2
                go_quiet (fail)
                go_wp2
                go_roundw
                case rel =>
                  refine ⟨m + 1 + 1, by omega, by go_num, fun j hj => ?_, below_drewN hbel _⟩
                  by_cases e : j = m
                  · subst e; omega
                  · exact HS.out j (by omega)
                case measure => simp [intOf]; omega
          · clear hc
            go_wp2
            go_ret
            exact ⟨Answers.mk _ (fun _ => ⟨by first | rfl | trivial, by omega, g3, fun j hj => HS.out j (by omega)⟩), hbel⟩
      · have hw := wrap_low f n1 hf1 hf0 h1 g3
        go_enter Trym.func16, Trym.ntmps16
        go_wp2
        go_ret
        exact ⟨Answers.mk _ (by simp), Below.refl _ _⟩
  · have q1 : ((n1 : Int) != (n3 : Int)) = true := by rw [bne_iff_ne]; omega
    go_enter Trym.func16, Trym.ntmps16
    go_wp2
    all_goals go_ret
    all_goals exact ⟨Answers.mk _ (by simp), Below.refl _ _⟩
end Go.Proofs.Qxb6603617aMods
