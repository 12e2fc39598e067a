/- Lists of strings in memory; the functions that read or copy them. -/
import Derived.Test.Qxb6603839aModsCovers
import Derived.Deep.OwnRows
import Derived.BigQuiet
import Derived.BigRegion
namespace Go.Proofs.Qxb6603839aMods
open Go.ChangeShapes Go.WideShapes Go.ChangeAt Go.RowKit

/-- The call answered a bool of which p holds. -/
def Says (e : Ending) (p : Bool → Prop) : Prop := ∃ r : Bool, e = .returned (.bool r) ∧ p r
theorem Says.mk {p : Bool → Prop} (r : Bool) (h : p r) : Says (.returned (.bool r)) p := ⟨r, rfl, h⟩

def nth (l : List ByteArray) (i : Nat) : ByteArray := l.getD i ByteArray.empty
theorem nth_mem {l : List ByteArray} {i : Nat} (h : i < l.length) : nth l i ∈ l := by
  unfold nth
  rw [List.getD_eq_getElem?_getD, List.getElem?_eq_getElem h]
  exact List.getElem_mem h

/-- The strings' cells. -/
def CellsS (w : World) (b o : Nat) (l : List ByteArray) : Prop := ∀ i, i < l.length → w.cell? ⟨b, o + i, none⟩ = some (.string (nth l i))
/-- What a slice of strings is good for. -/
def Strs (w : World) (a : Option Addr) (l : List ByteArray) : Prop := 0 < l.length → ∃ b o, a = some ⟨b, o, none⟩ ∧ b < w.heap.size ∧ CellsS w b o l

theorem CellsS.below {w w' : World} {b o : Nat} {l : List ByteArray} (h : CellsS w b o l) {B : Nat} (hb : Below B w w') (hlt : b < B) : CellsS w' b o l := fun i hi => (hb.cell hlt).trans (h i hi)
theorem Strs.below {w w' : World} {a : Option Addr} {l : List ByteArray} (h : Strs w a l) {B : Nat} (hb : Below B w w') (hB : w.heap.size ≤ B) : Strs w' a l := by
  intro hn
  obtain ⟨b, o, rfl, hlt, hc⟩ := h hn
  exact ⟨b, o, rfl, Nat.lt_of_lt_of_le hlt hb.size, hc.below hb (by omega)⟩
theorem Strs.drew {w : World} {a : Option Addr} {l : List ByteArray} (h : Strs w a l) : Strs w.drew a l := h
theorem below_drewN {B : Nat} {a w : World} (h : Below B a w) (n : Nat) : Below B a (w.drewN n) := ⟨h.os, h.tape, h.output, h.size, h.block⟩

/-- The call handed back a slice of the strings l. -/
def HandsS (l : List ByteArray) (w : World) (e : Ending) (w' : World) : Prop := ∃ a' c', e = .returned (.slice a' l.length c') ∧ l.length ≤ c' ∧ Strs w' a' l ∧ Below w.heap.size w w'

theorem eql_nil {t e : TypeId} (h : Trym.prog.underlying t = some (.slice e)) (a : Option Addr) (l c : Nat) (w : World) : (binOp .eql t (.slice a l c) (.slice none 0 0)).run Trym.prog w = .ok (.bool a.isNone) w := by
  have h1 : ∀ d : Nat, (Op.equalIn (d + 1) t (.slice a l c) (.slice none 0 0)).run Trym.prog w = .ok a.isNone w := fun d => by
    cases a <;> simp [Op.equalIn, run_underlying h]
  simp only [binOp]
  simp [Op.equal, Op.maxDepth, h1 9999]
theorem info9 : (Trym.prog.info? 9).map (fun i => (i.zero, i.size, i.bytes)) = some (some (.string ByteArray.empty), 1, 16) := by kernel_rfl

/-- What a row holds behind k rounds of a copy. -/
def strsTo (k : Nat) (l : List ByteArray) (j : Nat) : Value := .string (if j < k then nth l j else ByteArray.empty)
theorem strs_step {w : World} {b t n k : Nat} {l : List ByteArray} (h : w.rowIs b t n (strsTo k l)) : (w.setCell ⟨b, k, none⟩ (.string (nth l k))).rowIs b t n (strsTo (k + 1) l) := by
  refine (h.set k _).congr fun j _ => ?_
  unfold strsTo
  by_cases e : j = k
  · subst e; rw [if_pos rfl, if_pos (by omega)]
  · rw [if_neg e]
    by_cases hl : j < k
    · rw [if_pos hl, if_pos (by omega)]
    · rw [if_neg hl, if_neg (by omega)]
theorem strs_done {w : World} {b t : Nat} {l : List ByteArray} (h : w.rowIs b t l.length (strsTo l.length l)) : CellsS w b 0 l := fun i hi => by
  rw [Nat.zero_add, h.cell hi]
  unfold strsTo
  rw [if_pos hi]
theorem strs_made (w : World) (n : Nat) (t : TypeId) (l : List ByteArray) : (w.alloc (.cells (madeCells #[.string ByteArray.empty] n) t)).rowIs w.heap.size t n (strsTo 0 l) :=
  (World.rowIs_made w (.string ByteArray.empty) n t).congr fun j _ => by unfold strsTo; rw [if_neg (by omega)]

set_option maxHeartbeats 400000 in
theorem bytes5 (L : ByteArray) (a : Option Addr) (c : Nat) (l : List ByteArray) (w : World) (hL : L.size ≤ maxLen) (hn : l.length ≤ maxLen) (hA : ∀ i, (nth l i).size ≤ maxLen) (hm : Strs w a l) :
    Calls Trym.prog 5 #[.string L, .slice a l.length c] w fun e w' => Says e (fun _ => True) ∧ w' = w := by
  unfold maxLen at hL hn hA
  generalize hlen : l.length = n at *
  have HL : Hid (l.length = n) := hlen
  clear hlen
  by_cases g1 : 1048576 < (L.size : Int)
  · go_enter Trym.func5, Trym.ntmps5
    go_wp2
    go_ret
    exact ⟨Says.mk _ trivial, rfl⟩
  by_cases g2 : 1048576 < (n : Int)
  · go_enter Trym.func5, Trym.ntmps5
    go_wp2
    go_ret
    exact ⟨Says.mk _ trivial, rfl⟩
  by_cases g3 : 1048576 < (L.size : Int) + (n : Int)
  · go_enter Trym.func5, Trym.ntmps5
    go_wp2
    go_ret
    exact ⟨Says.mk _ trivial, rfl⟩
  go_enter Trym.func5, Trym.ntmps5
  go_wp2
  go_loop [5, 6] (fun z i => ∃ (k : Nat) (t : Int), k ≤ n ∧ i = .int .i64 k ∧ z = .int .i64 t ∧ 0 ≤ t ∧ t ≤ 1048576) (fun _ i => n - (intOf i).toNat)
  case atStart => exact ⟨0, _, Nat.zero_le _, rfl, rfl, by omega, by omega⟩
  case round =>
    obtain ⟨k, t, hk, rfl, rfl, ht0, ht1⟩ := hrel
    by_cases hlt : k < n
    · obtain ⟨b, o, rfl, hb, hc⟩ := hm (by rw [HL.out]; omega)
      have e1 := hc k (by rw [HL.out]; exact hlt)
      have eA := hA k
      clear hc hA hm
      generalize nth l k = x at *
      by_cases c1 : 1048576 < (x.size : Int)
      · go_wp2
        go_ret
        exact ⟨Says.mk _ trivial, rfl⟩
      · by_cases c2 : 1048576 < t + (x.size : Int)
        · go_wp2
          go_ret
          exact ⟨Says.mk _ trivial, rfl⟩
        · go_wp2
          go_round
          case rel => exact ⟨k + 1, _, by omega, by go_num, rfl, by omega, by omega⟩
          case measure => simp [intOf]; omega
    · clear hA hm
      go_wp2
      go_ret
      exact ⟨Says.mk _ trivial, rfl⟩

set_option maxHeartbeats 400000 in
theorem big6 (L : ByteArray) (a : Option Addr) (c : Nat) (l : List ByteArray) (w : World) (hL : L.size ≤ maxLen) (hn : l.length ≤ maxLen) (hA : ∀ i, (nth l i).size ≤ maxLen) (hm : Strs w a l) :
    Calls Trym.prog 6 #[.string L, .slice a l.length c] w fun e w' => Says e (fun r => r = false → l.length ≤ 4096 ∧ L.size ≤ 1048576 ∧ ∀ i, i < l.length → (nth l i).size ≤ 1048576) ∧ w' = w := by
  unfold maxLen at hL hn hA
  generalize hlen : l.length = n at *
  have HL : Hid (l.length = n) := hlen
  clear hlen
  by_cases g2 : 4096 < (n : Int)
  · go_enter Trym.func6, Trym.ntmps6
    go_wp2
    go_ret
    exact ⟨Says.mk _ (by simp), rfl⟩
  by_cases g1 : 1048576 < (L.size : Int)
  · go_enter Trym.func6, Trym.ntmps6
    go_wp2
    go_ret
    exact ⟨Says.mk _ (by simp), rfl⟩
  go_enter Trym.func6, Trym.ntmps6
  go_wp2
  go_loop [5, 6] (fun z i => ∃ (k : Nat) (t : Int), k ≤ n ∧ i = .int .i64 k ∧ z = .int .i64 t ∧ 0 ≤ t ∧ t ≤ 1048576 ∧ ∀ i, i < k → (nth l i).size ≤ 1048576) (fun _ i => n - (intOf i).toNat)
  case atStart => exact ⟨0, _, Nat.zero_le _, rfl, rfl, by omega, by omega, fun i hi => absurd hi (by omega)⟩
  case round =>
    obtain ⟨k, t, hk, rfl, rfl, ht0, ht1, hsz⟩ := hrel
    have HS : Hid (∀ i, i < k → (nth l i).size ≤ 1048576) := hsz
    clear hsz
    by_cases hlt : k < n
    · obtain ⟨b, o, rfl, hb, hc⟩ := hm (by rw [HL.out]; omega)
      have e1 := hc k (by rw [HL.out]; exact hlt)
      have eA := hA k
      clear hc hA hm
      obtain ⟨x, hx⟩ : ∃ x, x = nth l k := ⟨_, rfl⟩
      rw [← hx] at e1 eA
      have HX : Hid (x = nth l k) := hx
      clear hx
      by_cases c1 : 1048576 < (x.size : Int)
      · go_wp2
        go_ret
        exact ⟨Says.mk _ (by simp), rfl⟩
      · by_cases c2 : 1048576 < t + ((x.size : Int) + 16)
        · go_wp2
          go_ret
          exact ⟨Says.mk _ (by simp), rfl⟩
        · go_wp2
          go_round
          case rel =>
            refine ⟨k + 1, _, by omega, by go_num, rfl, by omega, by omega, fun i hi => ?_⟩
            by_cases e : i = k
            · subst e; rw [← HX.out]; omega
            · exact HS.out i (by omega)
          case measure => simp [intOf]; omega
    · clear hA hm
      go_wp2
      go_ret
      exact ⟨Says.mk _ (fun _ => ⟨by omega, by omega, fun i hi => HS.out i (by omega)⟩), rfl⟩

set_option maxHeartbeats 400000 in
theorem clone7 (a : Option Addr) (c : Nat) (l : List ByteArray) (w : World) (hn : l.length ≤ 4096) (h0 : a = none → l.length = 0 ∧ c = 0) (hm : Strs w a l) :
    Calls Trym.prog 7 #[.slice a l.length c] w fun e w' => HandsS l w e w' := by
  have hnil := eql_nil Trym.underlying22
  cases a with
  | none =>
    obtain ⟨e1, rfl⟩ := h0 rfl
    have HE : Hid (l = []) := List.eq_nil_of_length_eq_zero e1
    rw [e1]
    go_enter Trym.func7, Trym.ntmps7
    go_wp2
    go_ret
    exact ⟨none, 0, by rw [HE.out]; rfl, by rw [HE.out]; exact Nat.le_refl _, fun h => absurd h (by omega), Below.refl _ _⟩
  | some ad =>
    have hmk := run_make_row' (P := Trym.prog) 22 9 (.string ByteArray.empty) 16 Trym.underlying22 info9 rfl .i64 .i64 l.length (by omega) (by omega)
    go_enter Trym.func7, Trym.ntmps7
    go_wp2
    go_loopw [4] (fun i wr => ∃ k : Nat, k ≤ l.length ∧ i = .int .i64 k ∧ wr.rowIs w.heap.size 9 l.length (strsTo k l) ∧ Below w.heap.size w wr) (fun i _ => l.length - (intOf i).toNat)
    case atStart => exact ⟨0, Nat.zero_le _, rfl, strs_made w l.length 9 l, (Below.refl _ _).alloc (Nat.le_refl _) _⟩
    case round =>
      obtain ⟨k, hk, rfl, hrow, hbel⟩ := hrel
      clear hmk hnil
      by_cases hlt : k < l.length
      · obtain ⟨b, o, he, hb, hc⟩ := hm (by omega)
        obtain rfl : ad = ⟨b, o, none⟩ := by simpa using he
        have e0 := hc.below hbel hb k hlt
        have f0 := hrow.frozen k
        have g0 := hrow.cell hlt
        clear hc hm h0 he
        go_wp2
        go_roundw
        case rel => exact ⟨k + 1, by omega, by go_num, strs_step hrow, hbel.setCell (Nat.le_refl _) _⟩
        case measure => simp [intOf]; omega
      · go_wp2
        go_ret
        obtain rfl : k = l.length := by omega
        exact ⟨_, _, rfl, Nat.le_refl _, fun _ => ⟨_, _, rfl, hrow.lt, strs_done hrow⟩, hbel⟩

set_option maxHeartbeats 400000 in
theorem same9 (a a2 : Option Addr) (c c2 : Nat) (l : List ByteArray) (w : World) (hn : l.length ≤ 4096) (hm : Strs w a l) (hm2 : Strs w a2 l) :
    Calls Trym.prog 9 #[.slice a l.length c, .slice a2 l.length c2] w fun e w' => e = .returned (.bool true) ∧ Below w.heap.size w w' := by
  go_enter Trym.func9, Trym.ntmps9
  go_wp2
  go_loopw [5] (fun i wr => ∃ k : Nat, k ≤ l.length ∧ i = .int .i64 k ∧ Below w.heap.size w wr) (fun i _ => l.length - (intOf i).toNat)
  case atStart => exact ⟨0, Nat.zero_le _, rfl, Below.refl _ _⟩
  case round =>
    obtain ⟨k, hk, rfl, hbel⟩ := hrel
    by_cases hlt : k < l.length
    · obtain ⟨b, o, rfl, hb, hc⟩ := hm (by omega)
      obtain ⟨b2, o2, rfl, hb2, hc2⟩ := hm2 (by omega)
      have e0 := hc.below hbel hb k hlt
      have e2 := hc2.below hbel hb2 k hlt
      clear hc hm hc2 hm2
      generalize nth l k = x at *
      go_wp2
      go_quiet (fail)
      go_wp2
      go_roundw
      case rel => exact ⟨k + 1, by omega, by go_num, below_drewN hbel _⟩
      case measure => simp [intOf]; omega
    · go_wp2
      go_ret
      exact ⟨rfl, hbel⟩
end Go.Proofs.Qxb6603839aMods
