/- Plain notions for the laws on Voter: a list of members by its index; what a row of the call's own holds; what Voter answers. No walk here. -/
import Derived.Test.Qxb6603617aModsRows
import Derived.WalkKit
import Derived.ProofKit
import Derived.Deep.OwnRows
import Derived.Below
namespace Go.Proofs.Qxb6603617aMods
open Go.RowKit

/-- The call answered a bool of which p holds. -/
def Answers (e : Ending) (p : Bool → Prop) : Prop := ∃ r : Bool, e = .returned (.bool r) ∧ p r

theorem Answers.mk {p : Bool → Prop} (r : Bool) (h : p r) : Answers (.returned (.bool r)) p := ⟨r, rfl, h⟩

/-- The three cells of each of n members, from offset o of block b on. -/
def Cells3 (w : World) (b o n : Nat) (I : Nat → Int) (A : Nat → ByteArray) (V : Nat → Bool) : Prop :=
  ∀ i, i < n → w.cell? ⟨b, o + i * 3, none⟩ = some (.int .u64 (I i)) ∧ w.cell? ⟨b, o + i * 3 + 1, none⟩ = some (.string (A i)) ∧ w.cell? ⟨b, o + i * 3 + 2, none⟩ = some (.bool (V i))

/-- What a slice of n members is good for: where it has a member it leads to a block that is there. -/
def Mems (w : World) (a : Option Addr) (n : Nat) (I : Nat → Int) (A : Nat → ByteArray) (V : Nat → Bool) : Prop :=
  0 < n → ∃ b o, a = some ⟨b, o, none⟩ ∧ b < w.heap.size ∧ Cells3 w b o n I A V

theorem Cells3.below {w w' : World} {b o n : Nat} {I : Nat → Int} {A : Nat → ByteArray} {V : Nat → Bool} (h : Cells3 w b o n I A V) {B : Nat} (hb : Below B w w') (hlt : b < B) : Cells3 w' b o n I A V := by
  intro i hi
  obtain ⟨h0, h1, h2⟩ := h i hi
  exact ⟨(hb.cell hlt).trans h0, (hb.cell hlt).trans h1, (hb.cell hlt).trans h2⟩

theorem Mems.below {w w' : World} {a : Option Addr} {n : Nat} {I : Nat → Int} {A : Nat → ByteArray} {V : Nat → Bool} (h : Mems w a n I A V) {B : Nat} (hb : Below B w w') (hB : w.heap.size ≤ B) : Mems w' a n I A V := by
  intro hn
  obtain ⟨b, o, rfl, hlt, hc⟩ := h hn
  exact ⟨b, o, rfl, Nat.lt_of_lt_of_le hlt hb.size, hc.below hb (by omega)⟩

/-- The flat cells of a list of members. -/
def cellOf (I : Nat → Int) (A : Nat → ByteArray) (V : Nat → Bool) (j : Nat) : Value :=
  if j % 3 = 0 then .int .u64 (I (j / 3)) else if j % 3 = 1 then .string (A (j / 3)) else .bool (V (j / 3))

/-- The first k as they are, the others zero. -/
def upTo {α : Type} (k : Nat) (f : Nat → α) (z : α) (i : Nat) : α := if i < k then f i else z

/-- What a row holds behind k rounds of a copy. -/
def cellsTo (k : Nat) (I : Nat → Int) (A : Nat → ByteArray) (V : Nat → Bool) (j : Nat) : Value :=
  cellOf (upTo k I 0) (upTo k A ByteArray.empty) (upTo k V false) j

theorem cellsTo_step (k : Nat) (I : Nat → Int) (A : Nat → ByteArray) (V : Nat → Bool) (j : Nat) :
    (if j = k * 3 + 2 then Value.bool (V k) else if j = k * 3 + 1 then .string (A k) else if j = k * 3 then .int .u64 (I k) else cellsTo k I A V j) = cellsTo (k + 1) I A V j := by
  unfold cellsTo cellOf upTo
  by_cases h2 : j = k * 3 + 2
  · subst h2
    rw [if_pos rfl, if_neg (by omega), if_neg (by omega), if_pos (by omega), show (k * 3 + 2) / 3 = k by omega]
  · rw [if_neg h2]
    by_cases h1 : j = k * 3 + 1
    · subst h1
      rw [if_pos rfl, if_neg (by omega), if_pos (by omega), if_pos (by omega), show (k * 3 + 1) / 3 = k by omega]
    · rw [if_neg h1]
      by_cases h0 : j = k * 3
      · subst h0
        rw [if_pos rfl, if_pos (by omega), if_pos (by omega), show (k * 3) / 3 = k by omega]
      · rw [if_neg h0]
        by_cases hlt : j / 3 < k
        · simp only [if_pos hlt, if_pos (show j / 3 < k + 1 by omega)]
        · simp only [if_neg hlt, if_neg (show ¬ j / 3 < k + 1 by omega)]

/-- One member laid at place k of a row. -/
theorem row_step {w : World} {b t n k : Nat} {I : Nat → Int} {A : Nat → ByteArray} {V : Nat → Bool} (h : w.rowIs b t (n * 3) (cellsTo k I A V)) :
    (((w.setCell ⟨b, k * 3, none⟩ (.int .u64 (I k))).setCell ⟨b, k * 3 + 1, none⟩ (.string (A k))).setCell ⟨b, k * 3 + 2, none⟩ (.bool (V k))).rowIs b t (n * 3) (cellsTo (k + 1) I A V) :=
  (((h.set (k * 3) _).set (k * 3 + 1) _).set (k * 3 + 2) _).congr fun j _ => cellsTo_step k I A V j

theorem row_cells {w : World} {b t n : Nat} {I : Nat → Int} {A : Nat → ByteArray} {V : Nat → Bool} (h : w.rowIs b t (n * 3) (cellsTo n I A V)) : Cells3 w b 0 n I A V := by
  intro i hi
  have e0 := h.cell (show i * 3 < n * 3 by omega)
  have e1 := h.cell (show i * 3 + 1 < n * 3 by omega)
  have e2 := h.cell (show i * 3 + 2 < n * 3 by omega)
  unfold cellsTo cellOf upTo at e0 e1 e2
  rw [if_pos (by omega), show i * 3 / 3 = i by omega, if_pos hi] at e0
  rw [if_neg (by omega), if_pos (by omega), show (i * 3 + 1) / 3 = i by omega, if_pos hi] at e1
  rw [if_neg (by omega), if_neg (by omega), show (i * 3 + 2) / 3 = i by omega, if_pos hi] at e2
  rw [Nat.zero_add]
  exact ⟨e0, e1, e2⟩

/-- What make lays for members: zeros. -/
theorem row_made (w : World) (n : Nat) (t : TypeId) (I : Nat → Int) (A : Nat → ByteArray) (V : Nat → Bool) :
    (w.alloc (.cells (madeCells #[.int .u64 0, .string ByteArray.empty, .bool false] (n * 3)) t)).rowIs w.heap.size t (n * 3) (cellsTo 0 I A V) := by
  refine ⟨_, Deep.blk_alloc_new _ _, size_madeCells _ _, fun j hj => ?_⟩
  unfold cellsTo cellOf upTo
  have h3 : j % 3 = 0 ∨ j % 3 = 1 ∨ j % 3 = 2 := by omega
  rcases h3 with h | h | h <;> simp [madeCells, hj, h]

/-- WHAT Voter ANSWERS: the vote of the first member of that id; false where none is. -/
def VoterIs (n : Nat) (I : Nat → Int) (V : Nat → Bool) (id : Int) (r : Bool) : Prop :=
  (∃ i, i < n ∧ I i = id ∧ (∀ j, j < i → I j ≠ id) ∧ r = V i) ∨ ((∀ j, j < n → I j ≠ id) ∧ r = false)

theorem VoterIs.one {n : Nat} {I : Nat → Int} {V : Nat → Bool} {id : Int} {r s : Bool} (h : VoterIs n I V id r) (k : VoterIs n I V id s) : r = s := by
  rcases h with ⟨i, hi, e, hf, rfl⟩ | ⟨hf, rfl⟩ <;> rcases k with ⟨j, hj, e', hf', rfl⟩ | ⟨hf', rfl⟩
  · have : i = j := by
      rcases Nat.lt_trichotomy i j with h | h | h
      · exact absurd e (hf' i h)
      · exact h
      · exact absurd e' (hf j h)
    rw [this]
  · exact absurd e (hf' i hi)
  · exact absurd e' (hf j hj)
  · rfl

/-- A member put in front: its own id. -/
theorem VoterIs.front_same {n : Nat} {I : Nat → Int} {V : Nat → Bool} {r : Bool} (h : VoterIs (n + 1) I V (I 0) r) : r = V 0 :=
  h.one (.inl ⟨0, by omega, rfl, fun j hj => absurd hj (Nat.not_lt_zero _), rfl⟩)

/-- .. every other id: as without it. -/
theorem VoterIs.front_other {n : Nat} {I J : Nat → Int} {U V : Nat → Bool} {id : Int} {r : Bool} (hne : I 0 ≠ id) (hI : ∀ i, i < n → I (i + 1) = J i) (hV : ∀ i, i < n → U (i + 1) = V i)
    (h : VoterIs (n + 1) I U id r) : VoterIs n J V id r := by
  rcases h with ⟨i, hi, e, hf, rfl⟩ | ⟨hf, rfl⟩
  · match i, hi, e, hf with
    | 0, _, e, _ => exact absurd e hne
    | i + 1, hi, e, hf => exact .inl ⟨i, by omega, by rw [← hI i (by omega)]; exact e, fun j hj => by rw [← hI j (by omega)]; exact hf (j + 1) (by omega), by rw [hV i (by omega)]⟩
  · exact .inr ⟨fun j hj => by rw [← hI j hj]; exact hf (j + 1) (by omega), rfl⟩
end Go.Proofs.Qxb6603617aMods
