/- The walk of FnIntersectIdempotent. -/
import Derived.Test.Qxb6603839aModsInter
namespace Go.Proofs.Qxb6603839aMods
open Go.ChangeShapes Go.WideShapes Go.ChangeAt Go.RowKit

set_option maxHeartbeats 400000 in
theorem inter8 (L : ByteArray) (a : Option Addr) (c : Nat) (l : List ByteArray) (w : World) (hL : L.size ≤ 1048576) (hn : l.length ≤ 4096) (hc : l.length ≤ c) (hA : ∀ i, (nth l i).size ≤ 1048576) (hm : Strs w a l) :
    Calls Trym.prog 8 #[.string L, .slice a l.length c] w fun e w' => InterIs L l w e w' := by
  go_enter Trym.func8, Trym.ntmps8
  go_wp2_with fail
  refine (inter13 L a c l _ hL hn hc hA hm).mono ?_
  rintro e w1 ⟨out, ⟨a', c', rfl, h1, h2, h3⟩, h4⟩
  have HQ : Hid (InterIs L l w (.returned (.slice a' out.length c')) w1) := ⟨out, ⟨a', c', rfl, h1, h2, h3⟩, h4⟩
  clear h1 h2 h3 h4
  go_wp2
  go_ret
  exact HQ.out

/-- The sizes of what intersect hands back. -/
theorem inter_small {L : ByteArray} {l out : List ByteArray} (hn : l.length ≤ 4096) (hL : L.size ≤ 1048576) (hA : ∀ i, (nth l i).size ≤ 1048576)
    (h1 : l = [] → out = [L]) (h2 : l ≠ [] → L.size = 0 → out = l) (h3 : l ≠ [] → L.size ≠ 0 → Gath L l l.length out) : out.length ≤ 4096 ∧ ∀ i, (nth out i).size ≤ 1048576 := by
  have all : out.length ≤ 4096 ∧ ∀ x ∈ out, x.size ≤ 1048576 := by
    have hl : ∀ x ∈ l, x.size ≤ 1048576 := fun x hx => by
      obtain ⟨i, _, e⟩ := mem_nth hx
      rw [← e]; exact hA i
    by_cases e : l = []
    · rw [h1 e]
      exact ⟨by simp, fun x hx => by simp at hx; subst hx; exact hL⟩
    · by_cases e0 : L.size = 0
      · rw [h2 e e0]; exact ⟨hn, hl⟩
      · obtain ⟨_, _, g3, g5, _⟩ := h3 e e0
        refine ⟨by omega, fun x hx => ?_⟩
        rcases g5 x hx with rfl | h
        · exact hL
        · exact hl x h
  refine ⟨all.1, fun i => ?_⟩
  by_cases hi : i < out.length
  · exact all.2 _ (nth_mem hi)
  · unfold nth
    rw [List.getD_eq_getElem?_getD, List.getElem?_eq_none (by omega)]
    exact Nat.zero_le _

/-- The second pass changes nothing, where some name was served. -/
theorem inter_again {L : ByteArray} {l out out2 : List ByteArray} (h1 : l = [] → out = [L]) (h3 : l ≠ [] → L.size ≠ 0 → Gath L l l.length out)
    (k2 : out ≠ [] → L.size = 0 → out2 = out) (k3 : out ≠ [] → L.size ≠ 0 → Gath L out out.length out2) (hne : out ≠ []) : out2 = out := by
  by_cases e0 : L.size = 0
  · exact k2 hne e0
  · obtain ⟨_, _, _, _, g4⟩ := k3 hne e0
    rw [List.take_length] at g4
    by_cases e : l = []
    · have ho := h1 e
      refine g4 (by rw [ho]; simp) (fun x hx => ?_)
      rw [ho] at hx
      simp at hx
      subst hx
      exact covB_self _
    · obtain ⟨f1, f2, _⟩ := h3 e e0
      exact g4 f1 f2

set_option maxHeartbeats 1000000 in
theorem walk3 (L : ByteArray) (a : Option Addr) (c : Nat) (l : List ByteArray) (w : World) (hL : L.size ≤ maxLen) (hn : l.length ≤ maxLen) (hA : ∀ i, (nth l i).size ≤ maxLen) (h0 : a = none → l.length = 0 ∧ c = 0) (hm : Strs w a l) :
    Calls Trym.prog 3 #[.string L, .slice a l.length c] w fun e w' => e = .returned (.bool true) ∧ Below w.heap.size w w' := by
  go_enter Trym.func3, Trym.ntmps3
  go_wp2_with fail
  refine (bytes5 L a c l _ hL hn hA hm).mono ?_
  rintro e w' ⟨⟨r, rfl, -⟩, rfl⟩
  cases r
  · go_wp2_with fail
    go_ret
    exact ⟨rfl, Below.refl _ _⟩
  go_wp2_with fail
  refine (big6 L a c l _ hL hn hA hm).mono ?_
  rintro e w' ⟨⟨r, rfl, hr⟩, rfl⟩
  cases r
  rotate_left
  · go_wp2_with fail
    go_ret
    exact ⟨rfl, Below.refl _ _⟩
  obtain ⟨s1, s2, s3⟩ := hr rfl
  have s3' : ∀ i, (nth l i).size ≤ 1048576 := fun i => by
    by_cases hi : i < l.length
    · exact s3 i hi
    · unfold nth
      rw [List.getD_eq_getElem?_getD, List.getElem?_eq_none (by omega)]
      exact Nat.zero_le _
  clear hr s3 hL hn hA
  go_wp2_with fail
  refine (clone7 a c l _ s1 h0 hm).mono ?_
  rintro e w1 ⟨a1, c1, rfl, k1, hm1, hb1⟩
  clear hm h0
  go_wp2_with fail
  refine (inter8 L a1 c1 l _ s2 s1 k1 s3' hm1).mono ?_
  rintro e w2 ⟨out, ⟨a2, c2, rfl, k2, hm2, hb2⟩, p1, p2, p3⟩
  obtain ⟨o1, o2⟩ := inter_small s1 s2 s3' p1 p2 p3
  go_wp2_with fail
  refine (inter8 L a2 c2 out _ s2 o1 k2 o2 hm2).mono ?_
  rintro e w3 ⟨out2, ⟨a3, c3, rfl, k3, hm3, hb3⟩, q1, q2, q3⟩
  have hm2' := hm2.below hb3 (Nat.le_refl _)
  have hbW : Below w'.heap.size w' w3 := hb1.trans ((hb2.trans (hb3.mono hb2.size)).mono hb1.size)
  have HAG : Hid (out ≠ [] → out2 = out) := fun hne => inter_again p1 p3 q2 q3 hne
  have HEM : Hid (out = [] → out2 = [L]) := q1
  clear hm1 hm2 hb1 hb2 hb3 p1 p2 p3 q1 q2 q3 o2 s3'
  by_cases hz : out.length = 0
  · have he2 := HEM.out (List.eq_nil_of_length_eq_zero hz)
    subst he2
    obtain ⟨b, o, rfl, hb, hc⟩ := hm3 (by simp)
    have e0 := hc 0 (by simp)
    simp only [nth, List.getD_cons_zero, Nat.add_zero] at e0
    clear hc hm3 hm2' HEM HAG
    rw [hz]
    go_wp2_with fail
    go_ret
    exact ⟨by simp, hbW⟩
  · have he2 := HAG.out (fun h => hz (by rw [h]; rfl))
    subst he2
    have hq : ((out2.length : Int) == 0) = false := beq_eq_false_iff_ne.2 (by omega)
    clear HEM HAG
    go_wp2_with fail
    refine (same9 a3 a2 c3 c2 out2 _ o1 hm3 hm2').mono ?_
    rintro e w4 ⟨rfl, hb4⟩
    go_wp2_with fail
    go_ret
    exact ⟨rfl, hbW.trans (hb4.mono hbW.size)⟩
end Go.Proofs.Qxb6603839aMods
