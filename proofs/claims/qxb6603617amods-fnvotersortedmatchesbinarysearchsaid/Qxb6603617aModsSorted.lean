/- zzIdsRise and the walk of FnVoterSortedMatchesBinarySearch. -/
import Derived.Test.Qxb6603617aModsVoter
import Derived.BigQuiet
namespace Go.Proofs.Qxb6603617aMods
open Go.ChangeShapes Go.WideShapes Go.ChangeAt Go.RowKit

theorem below_drewN {B : Nat} {a w : World} (h : Below B a w) (n : Nat) : Below B a (w.drewN n) := ⟨h.os, h.tape, h.output, h.size, h.block⟩

/-- The ids rise strictly, step by step. -/
def Rises (n : Nat) (I : Nat → Int) : Prop := ∀ j, j + 1 < n → I j < I (j + 1)

set_option maxHeartbeats 400000 in
theorem rise9 (a : Option Addr) (n c : Nat) (I : Nat → Int) (A : Nat → ByteArray) (V : Nat → Bool) (w : World)
    (hn : n ≤ 32768) (hm : Mems w a n I A V) :
    Calls Trym.prog 9 #[.slice a n c] w fun e w' => Answers e (fun r => r = true → Rises n I) ∧ Below w.heap.size w w' := by
  go_enter Trym.func9, Trym.ntmps9
  go_wp2
  go_loopw [3] (fun i wr => ∃ m : Nat, (m + 1 ≤ n ∨ m = 0) ∧ i = .int .i64 ((m : Int) + 1) ∧ (∀ j, j + 1 < m + 1 → I j < I (j + 1)) ∧ Below w.heap.size w wr) (fun i _ => n - (intOf i).toNat)
  case atStart => exact ⟨0, Or.inr rfl, rfl, fun j hj => absurd hj (by omega), Below.refl _ _⟩
  case round =>
    obtain ⟨m, hk, rfl, hri, hbel⟩ := hrel
    have HR : Hid (∀ j, j + 1 < m + 1 → I j < I (j + 1)) := hri
    clear hri
    by_cases hlt : m + 1 < n
    · obtain ⟨b, o, rfl, hb, hc⟩ := hm (by omega)
      obtain ⟨e0, _, _⟩ := hc.below hbel hb m (by omega)
      obtain ⟨e1, _, _⟩ := hc.below hbel hb (m + 1) hlt
      clear hc hm hk
      by_cases hge : I m ≥ I (m + 1)
      · go_wp2
        go_quiet (fail)
        go_wp2
        go_ret
        exact ⟨Answers.mk _ (by simp), below_drewN hbel _⟩
      · go_wp2
        go_quiet (fail)
        go_wp2
        go_roundw
        case rel =>
          refine ⟨m + 1, Or.inl (by omega), by go_num, fun j hj => ?_, below_drewN hbel _⟩
          by_cases e : j = m
          · subst e; omega
          · exact HR.out j (by omega)
        case measure => simp [intOf]; omega
    · go_wp2
      go_ret
      exact ⟨Answers.mk _ (fun _ j hj => HR.out j (by omega)), hbel⟩

theorem Rises.lt {n : Nat} {I : Nat → Int} (h : Rises n I) {i j : Nat} (hij : i < j) (hj : j < n) : I i < I j := by
  induction j with
  | zero => omega
  | succ j ih =>
    have h1 := h j hj
    by_cases e : i = j
    · subst e; exact h1
    · have := ih (by omega) (by omega); omega

/-- What the binary search finds is what Voter answers. -/
theorem VoterIs.search {n l : Nat} {I : Nat → Int} {V : Nat → Bool} {id : Int} (hr : Rises n I) (hlo : ∀ j, j < l → I j < id) (hhi : ∀ j, l ≤ j → j < n → id ≤ I j) (hl : l ≤ n) {r : Bool} (h : VoterIs n I V id r) :
    (l < n ∧ I l = id ∧ r = V l) ∨ (l < n ∧ I l ≠ id ∧ r = false) ∨ (l = n ∧ r = false) := by
  by_cases hlt : l < n
  · by_cases he : I l = id
    · exact .inl ⟨hlt, he, h.one (.inl ⟨l, hlt, he, fun j hj => by have := hlo j hj; omega, rfl⟩)⟩
    · refine .inr (.inl ⟨hlt, he, h.one (.inr ⟨fun j hj e => ?_, rfl⟩)⟩)
      rcases Nat.lt_trichotomy j l with h1 | h1 | h1
      · have := hlo j h1; omega
      · subst h1; exact he e
      · have := hr.lt h1 hj; have := hhi l (Nat.le_refl _) hlt; omega
  · refine .inr (.inr ⟨by omega, h.one (.inr ⟨fun j hj e => ?_, rfl⟩)⟩)
    have := hlo j (by omega); omega

set_option maxHeartbeats 1000000 in
theorem walk3 (a : Option Addr) (n c : Nat) (I : Nat → Int) (A : Nat → ByteArray) (V : Nat → Bool) (id : Int) (w : World)
    (hn : n ≤ maxLen) (hA : ∀ i, (A i).size ≤ maxLen) (h0 : a = none → n = 0 ∧ c = 0) (hm : Mems w a n I A V) :
    Calls Trym.prog 3 #[.slice a n c, .int .u64 id] w fun e w' => e = .returned (.bool true) ∧ Below w.heap.size w w' := by
  go_enter Trym.func3, Trym.ntmps3
  go_wp2_with fail
  refine (bytes7 a n c I A V id _ hn hA hm).mono ?_
  rintro e w' ⟨⟨r, rfl, -⟩, rfl⟩
  cases r
  · go_wp2_with fail
    go_ret
    exact ⟨rfl, Below.refl _ _⟩
  go_wp2_with fail
  refine (fit8 a n c I A V _ _ hn (by omega) (by omega) hA hm).mono ?_
  rintro e w' ⟨⟨r, rfl, hr⟩, rfl⟩
  cases r
  · go_wp2_with fail
    go_ret
    exact ⟨rfl, Below.refl _ _⟩
  replace hr := hr rfl
  go_wp2_with fail
  refine (rise9 a n c I A V _ hr hm).mono ?_
  rintro e w1 ⟨⟨r, rfl, hri⟩, hb1⟩
  cases r
  · go_wp2_with fail
    go_ret
    exact ⟨rfl, hb1⟩
  have HR : Hid (Rises n I) := hri rfl
  clear hri
  replace hm := hm.below hb1 (Nat.le_refl _)
  go_wp2_with fail
  refine (clone10 a n c I A V _ hr h0 hm).mono ?_
  rintro e w2 ⟨a2, c2, rfl, hc2, h02, hm2, hb2⟩
  go_wp2_with fail
  refine (members11 a2 n c2 I A V _ hr hm2).mono ?_
  rintro e w3 ⟨a3, c3, rfl, hc3, h03, hm3, hb3⟩
  go_wp2_with fail
  have hb4 : Below w3.heap.size w3 (w3.alloc (Obj.cells #[Value.slice a3 n c3] 32)) := (Below.refl _ _).alloc (Nat.le_refl _) _
  refine (voter12 a3 n c3 I A V id _ (by omega) (hm3.below hb4 (Nat.le_refl _))).mono ?_
  rintro e w5 ⟨⟨r, rfl, hv⟩, hb5⟩
  have HV : Hid (VoterIs n I V id r) := hv
  have hm5 := ((hm2.below hb3 (Nat.le_refl _)).below hb4 (Nat.le_refl _)).below hb5 (Nat.le_refl _)
  have hbW : Below w'.heap.size w' w5 := (hb1.trans (hb2.mono hb1.size)).trans ((hb3.trans ((hb4.mono hb3.size).trans (hb5.mono (Nat.le_trans hb3.size hb4.size)))).mono (Nat.le_trans hb1.size hb2.size))
  clear hm hm2 hm3 hb1 hb2 hb3 hb4 hb5 h0 h02 h03 hA hv
  go_wp2_with fail
  go_loop [7, 8] (fun lo hi => ∃ l h : Nat, l ≤ h ∧ h ≤ n ∧ lo = .int .i64 l ∧ hi = .int .i64 h ∧ (∀ j, j < l → I j < id) ∧ (∀ j, h ≤ j → j < n → id ≤ I j)) (fun lo hi => (intOf hi - intOf lo).toNat)
  case atStart => exact ⟨0, n, Nat.zero_le _, Nat.le_refl _, rfl, rfl, fun j hj => absurd hj (Nat.not_lt_zero _), fun j h1 h2 => absurd h2 (by omega)⟩
  case round =>
    obtain ⟨l, h, hlh, hh, rfl, rfl, hlo, hhi⟩ := hrel
    have HL : Hid (∀ j, j < l → I j < id) := hlo
    have HH : Hid (∀ j, h ≤ j → j < n → id ≤ I j) := hhi
    clear hlo hhi
    by_cases hlt : l < h
    · obtain ⟨b, o, rfl, hb, hc⟩ := hm5 (by omega)
      obtain ⟨m, hmid⟩ : ∃ m : Nat, (l : Int) + ((h : Int) - (l : Int)) / 2 = (m : Int) := ⟨l + (h - l) / 2, by omega⟩
      have hml : l ≤ m := by omega
      have hmh : m < h := by omega
      obtain ⟨e0, _, _⟩ := hc m (by omega)
      clear hm5 hc
      by_cases hlss : I m < id
      · go_wp2
        go_round
        case rel =>
          refine ⟨m + 1, h, by omega, hh, by go_num, rfl, fun j hj => ?_, HH.out⟩
          by_cases e : j = m
          · subst e; exact hlss
          · have := HR.out.lt (show j < m by omega) (by omega); omega
        case measure => simp [intOf]; omega
      · go_wp2
        go_round
        case rel =>
          refine ⟨l, m, hml, by omega, rfl, rfl, HL.out, fun j h1 h2 => ?_⟩
          by_cases e : j = m
          · subst e; omega
          · have := HR.out.lt (show m < j by omega) h2; omega
        case measure => simp [intOf]; omega
    · obtain rfl : l = h := by omega
      rcases VoterIs.search HR.out HL.out HH.out hh HV.out with ⟨h1, h2, rfl⟩ | ⟨h1, h2, rfl⟩ | ⟨rfl, rfl⟩
      · obtain ⟨b, o, rfl, hb, hc⟩ := hm5 (by omega)
        obtain ⟨e0, _, e2⟩ := hc l h1
        have hq : (I l == id) = true := beq_iff_eq.2 h2
        clear hm5 hc h2
        go_wp2
        go_ret
        exact ⟨by simp, hbW⟩
      · obtain ⟨b, o, rfl, hb, hc⟩ := hm5 (by omega)
        obtain ⟨e0, _, e2⟩ := hc l h1
        have hq : (I l == id) = false := beq_eq_false_iff_ne.2 h2
        clear hm5 hc h2
        go_wp2
        go_ret
        exact ⟨rfl, hbW⟩
      · clear hm5
        go_wp2
        go_ret
        exact ⟨rfl, hbW⟩
end Go.Proofs.Qxb6603617aMods
