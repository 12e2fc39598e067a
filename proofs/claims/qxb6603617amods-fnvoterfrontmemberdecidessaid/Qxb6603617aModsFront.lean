/- The walk of FnVoterFrontMemberDecides. -/
import Derived.Test.Qxb6603617aModsVoter
import Derived.Deep.RegionWith
namespace Go.Proofs.Qxb6603617aMods
open Go.ChangeShapes Go.WideShapes Go.ChangeAt Go.RowKit

/-- A list with one thing put in front. -/
def front {α : Type} (x : α) (f : Nat → α) (i : Nat) : α := if i = 0 then x else f (i - 1)

theorem row_first {w : World} {b t m : Nat} {x : Int} {s : ByteArray} {v : Bool} {I : Nat → Int} {A : Nat → ByteArray} {V : Nat → Bool} (h : w.rowIs b t (m * 3) (cellsTo 0 (front x I) (front s A) (front v V))) :
    (((w.setCell ⟨b, 0, none⟩ (.int .u64 x)).setCell ⟨b, 1, none⟩ (.string s)).setCell ⟨b, 2, none⟩ (.bool v)).rowIs b t (m * 3) (cellsTo (0 + 1) (front x I) (front s A) (front v V)) := by
  have := row_step h
  simpa only [Nat.zero_mul, Nat.zero_add, front, if_true] using this

theorem row_next {w : World} {b t m k : Nat} {x : Int} {s : ByteArray} {v : Bool} {I : Nat → Int} {A : Nat → ByteArray} {V : Nat → Bool} (h : w.rowIs b t (m * 3) (cellsTo (k + 1) (front x I) (front s A) (front v V))) :
    (((w.setCell ⟨b, (k + 1) * 3, none⟩ (.int .u64 (I k))).setCell ⟨b, (k + 1) * 3 + 1, none⟩ (.string (A k))).setCell ⟨b, (k + 1) * 3 + 2, none⟩ (.bool (V k))).rowIs b t (m * 3) (cellsTo (k + 1 + 1) (front x I) (front s A) (front v V)) := by
  have := row_step h
  have e1 : front x I (k + 1) = I k := rfl
  have e2 : front s A (k + 1) = A k := rfl
  have e3 : front v V (k + 1) = V k := rfl
  rwa [e1, e2, e3] at this

theorem make28 (n : Nat) (hn : n ≤ 32768) (w : World) (I : Nat → Int) (A : Nat → ByteArray) (V : Nat → Bool) :
    ∃ w', (Instr.makeSlice 28 (.int .i64 ((n : Int) + 1)) (.int .i64 ((n : Int) + 1))).run Trym.prog w = .ok (.slice (some ⟨w.heap.size, 0, none⟩) (n + 1) (n + 1)) w' ∧
      w'.rowIs w.heap.size 38 ((n + 1) * 3) (cellsTo 0 I A V) ∧ Below w.heap.size w w' := by
  have h := make3 Trym.underlying28 info38 (n + 1) (by omega) w
  rw [show ((n + 1 : Nat) : Int) = (n : Int) + 1 by omega] at h
  exact ⟨_, h, row_made w (n + 1) 38 I A V, (Below.refl _ _).alloc (Nat.le_refl _) _⟩

theorem Mems.drew {w : World} {a : Option Addr} {n : Nat} {I : Nat → Int} {A : Nat → ByteArray} {V : Nat → Bool} (h : Mems w a n I A V) : Mems w.drew a n I A V := h

theorem bcell {B : Nat} {W w1 : World} (hb : Below B W w1) : (∀ b o, b < B → w1.cell? ⟨b, o, none⟩ = W.cell? ⟨b, o, none⟩) ∧ (∀ b o, b < B → w1.frozen? ⟨b, o, none⟩ = W.frozen? ⟨b, o, none⟩) :=
  ⟨fun b o h => hb.cell (p := ⟨b, o, none⟩) h, fun b o h => hb.frozen (p := ⟨b, o, none⟩) h⟩

set_option maxHeartbeats 1000000 in
theorem walk4 (a : Option Addr) (n c : Nat) (I : Nat → Int) (A : Nat → ByteArray) (V : Nat → Bool) (id : Int) (ad : ByteArray) (vt : Bool) (pr : Int) (w : World)
    (hn : n ≤ maxLen) (had : ad.size ≤ maxLen) (hA : ∀ i, (A i).size ≤ maxLen) (h0 : a = none → n = 0 ∧ c = 0) (hm : Mems w a n I A V) :
    Calls Trym.prog 4 #[.slice a n c, .int .u64 id, .string ad, .bool vt, .int .u64 pr] w fun e w' => e = .returned (.bool true) ∧ Below w.heap.size w w' := by
  go_enter Trym.func4, Trym.ntmps4
  go_wp2_with fail
  refine (bytes13 a n c I A V id ad vt pr _ hn had hA hm).mono ?_
  rintro e w' ⟨⟨r, rfl, -⟩, rfl⟩
  cases r
  · go_wp2_with fail
    go_ret
    exact ⟨rfl, Below.refl _ _⟩
  by_cases hbig : 1048576 < (ad.size : Int)
  · go_wp2_with fail
    go_ret
    exact ⟨rfl, Below.refl _ _⟩
  go_wp2_with fail
  refine (fit8 a n c I A V _ _ hn (by omega) (by omega) hA hm).mono ?_
  rintro e w' ⟨⟨r, rfl, hr⟩, rfl⟩
  cases r
  · go_wp2_with fail
    go_ret
    exact ⟨rfl, Below.refl _ _⟩
  replace hr := hr rfl
  go_wp2_with fail
  refine (clone10 a n c I A V _ hr h0 hm).mono ?_
  rintro e w1 ⟨a1, c1, rfl, hc1, h01, hm1, hb1⟩
  go_wp2_with fail
  refine (members11 a1 n c1 I A V _ hr hm1).mono ?_
  rintro e w2 ⟨a2, c2, rfl, hc2, h02, hm2, hb2⟩
  clear hm hm1 h0 h01
  have hb2' : Below w'.heap.size w' w2 := hb1.trans (hb2.mono hb1.size)
  clear hb1 hb2
  obtain ⟨w3, hmk, hrow3, hb3⟩ := make28 n hr w2 (front id I) (front ad A) (front vt V)
  have g0 := hrow3.cell (show 0 < (n + 1) * 3 by omega)
  have g1 := hrow3.cell (show 1 < (n + 1) * 3 by omega)
  have g2 := hrow3.cell (show 2 < (n + 1) * 3 by omega)
  have f0 := hrow3.frozen 0
  have f1 := hrow3.frozen 1
  have f2 := hrow3.frozen 2
  go_wp2_with fail
  go_loopw [13] (fun i wr => ∃ k : Nat, k ≤ n ∧ i = .int .i64 k ∧ wr.rowIs w2.heap.size 38 ((n + 1) * 3) (cellsTo (k + 1) (front id I) (front ad A) (front vt V)) ∧ Below w2.heap.size w2 wr) (fun i _ => n - (intOf i).toNat)
  case atStart =>
    refine ⟨0, Nat.zero_le _, rfl, row_first hrow3, ?_⟩
    exact ((hb3.setCell (Nat.le_refl _) _).setCell (Nat.le_refl _) _).setCell (Nat.le_refl _) _
  case round =>
    clear g0 g1 g2 f0 f1 f2 hmk hb3 hrow3
    obtain ⟨k, hk, rfl, hrow, hbel⟩ := hrel
    by_cases hlt : k < n
    · obtain ⟨b, o, rfl, hb, hc⟩ := hm2 (by omega)
      obtain ⟨e0, e1, e2⟩ := hc.below hbel hb k hlt
      have f0 := hrow.frozen ((k + 1) * 3)
      have f1 := hrow.frozen ((k + 1) * 3 + 1)
      have f2 := hrow.frozen ((k + 1) * 3 + 2)
      have g0 := hrow.cell (show (k + 1) * 3 < (n + 1) * 3 by omega)
      have g1 := hrow.cell (show (k + 1) * 3 + 1 < (n + 1) * 3 by omega)
      have g2 := hrow.cell (show (k + 1) * 3 + 2 < (n + 1) * 3 by omega)
      clear hc hm2
      go_wp2
      go_roundw
      case rel =>
        exact ⟨k + 1, by omega, by go_num, row_next hrow, ((hbel.setCell (Nat.le_refl _) _).setCell (Nat.le_refl _) _).setCell (Nat.le_refl _) _⟩
      case measure => simp [intOf]; omega
    · obtain rfl : k = n := by omega
      have hbW := hb2'.trans (hbel.mono hb2'.size)
      have hmF : Mems wr (some ⟨w2.heap.size, 0, none⟩) (k + 1) (front id I) (front ad A) (front vt V) := fun _ => ⟨_, _, rfl, hrow.lt, row_cells hrow⟩
      have hmB := hm2.below hbel (Nat.le_refl _)
      clear hm2 h02 hb2' hrow hbel hlt hk
      go_wp2_with fail
      have hb4 : Below wr.heap.size wr ((wr.alloc (Obj.cells #[Value.slice a2 k c2] 32)).alloc (Obj.cells #[Value.slice (some { block := w2.heap.size, off := 0 }) (k + 1) (k + 1)] 32)) :=
        ((Below.refl _ _).alloc (Nat.le_refl _) _).alloc (by simp) _
      refine (voter12 _ (k + 1) (k + 1) (front id I) (front ad A) (front vt V) id _ (by omega) (hmF.below hb4 (Nat.le_refl _))).mono ?_
      rintro e w5 ⟨⟨r, rfl, hv⟩, hb5⟩
      obtain rfl := hv.front_same
      have z5 : wr.heap.size + 1 < w5.heap.size := by have := hb5.size; simp at this; omega
      have s1 : w5.cell? ⟨wr.heap.size, 0, none⟩ = some (.slice a2 k c2) := (hb5.cell (by simp; omega)).trans (by simp [go_sem])
      have s2 : w5.cell? ⟨wr.heap.size + 1, 0, none⟩ = some (Value.slice (some { block := w2.heap.size, off := 0 }) (k + 1) (k + 1)) := (hb5.cell (by simp)).trans (by simp [go_sem])
      have hbW5 := hbW.trans ((hb4.trans (hb5.mono (by simp; omega))).mono hbW.size)
      have hmF5 := (hmF.below hb4 (Nat.le_refl _)).below hb5 (Nat.le_refl _)
      have hmB5 := (hmB.below hb4 (Nat.le_refl _)).below hb5 (Nat.le_refl _)
      clear hmF hmB hb4 hb5 hbW hv
      by_cases hp : pr = id
      · have hp' : (pr == id) = true := beq_iff_eq.2 hp
        clear hp
        go_wp2_with fail
        go_ret
        exact ⟨rfl, hbW5⟩
      · have hp' : (pr == id) = false := beq_eq_false_iff_ne.2 hp
        have HP : Hid (id ≠ pr) := fun h => hp h.symm
        clear hp
        go_wp2_with fail
        have hz5 : wr.heap.size < w5.heap.size := by omega
        go_region_with (first
          | (go_at_call_of 12 a2; refine (voter12 a2 k c2 I A V pr _ (by omega) (by assumption)).mono ?_; rintro e w7 ⟨⟨r2, rfl, hv2⟩, hb7⟩)
          | (go_at_call 12; refine (voter12 _ (k + 1) (k + 1) (front id I) (front ad A) (front r V) pr _ (by omega) (by exact hmF5.drew)).mono ?_; rintro e w6 ⟨⟨r1, rfl, hv1⟩, hb6⟩; have s6 : w6.cell? ⟨wr.heap.size, 0, none⟩ = some (.slice a2 k c2) := (hb6.cell (p := ⟨wr.heap.size, 0, none⟩) hz5).trans s1; have hmB6 := hmB5.drew.below hb6 (Nat.le_refl _)))
        all_goals
          obtain rfl : r1 = r2 := (hv1.front_other (J := I) (V := V) HP.out (fun _ _ => rfl) (fun _ _ => rfl)).one hv2
          have hbW7 : Below w'.heap.size w' w7 := (hbW5.drew.trans (hb6.mono hbW5.size)).trans (hb7.mono (Nat.le_trans hbW5.size hb6.size))
          clear hb6 hb7 hv1 hv2 hmB6 s6 hmF5 hmB5 s1 s2
          go_wp2
          go_ret
          exact ⟨by simp [Act.put], hbW7⟩
end Go.Proofs.Qxb6603617aMods
