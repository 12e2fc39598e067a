/-
  FnIntersectIdempotent: from the walk to the row (the guide's own way for a law, at a string and a []string).
-/
import Derived.Test.Qxb6603839aModsInterLaw
import Derived.OpenShut
import Derived.ShutString
import Derived.ChangeOld
import Derived.Below
import Derived.Deep.Strs
namespace Go.Proofs.Qxb6603839aMods.fnIntersectIdempotent
open Go.ChangeShapes Go.WideShapes Go.ChangeAt Go.RowKit
open Go.ChangeMaps (open_string shut_string)
set_option linter.unusedVariables false

theorem own : ownKnob Trym.prog.godebug = none := by kernel_rfl
theorem laidOut : laidOutB Trym.prog = true := by kernel_rfl
theorem cells9 : Trym.prog.cellsOf 9 = 1 := by kernel_rfl

theorem open_list {H : Type} {enc : TypeId × Value → H} {W : World} {a : Option Addr} {n c : Nat} {d : DataW H} {p : List MemPlace}
    (h : DataW.Trod enc Trym.prog W 0 (fun _ => true) true 22 (.slice a n c) d p) :
    ∃ l : List ByteArray, l.length = n ∧ Strs W a l ∧ (∀ i, (nth l i).size ≤ maxLen) ∧ n ≤ maxLen ∧ (a = none → n = 0 ∧ c = 0) := by
  obtain ⟨fuel, hf⟩ := h
  rcases Deep.open_strs Trym.underlying22 Trym.underlying9 cells9 hf with ⟨hcs, _⟩ | ⟨x, l, c', m, Sx, hcs, _, hl, hm, hmm, _, hx⟩
  · simp [Value.cells] at hcs
    obtain ⟨rfl, rfl, rfl⟩ := hcs
    exact ⟨[], rfl, fun h => absurd h (by simp), fun i => by simp [nth], Nat.zero_le _, fun _ => ⟨rfl, rfl⟩⟩
  · simp [Value.cells] at hcs
    obtain ⟨rfl, rfl, rfl⟩ := hcs
    simp at hmm
    subst hmm
    have hnth : ∀ i, i < n → nth ((List.range n).map Sx) i = Sx i := fun i hi => by
      rw [nth_eq (by simpa using hi)]
      simp
    refine ⟨(List.range n).map Sx, by simp, fun hn => ?_, fun i => ?_, Nat.le_trans hl hm, fun h => by cases h⟩
    · have hn' : 0 < n := by simpa using hn
      have h0 := (hx 0 (by omega)).1
      simp only [Addr.add, if_true] at h0
      have hxe : x = ⟨x.block, x.off, none⟩ := by
        obtain ⟨b, o, s⟩ := x
        cases s with
        | none => rfl
        | some s => unfold World.cell? at h0; split at h0 <;> simp at h0
      refine ⟨x.block, x.off, by rw [← hxe], World.block_lt_of_cell? W x h0, fun i hi => ?_⟩
      have hi' : i < n := by simpa using hi
      have := (hx i (by omega)).1
      rw [hxe, add_plain] at this
      rw [hnth i hi']
      exact this
    · by_cases hi : i < n
      · rw [hnth i hi]; exact (hx i (by omega)).2
      · unfold nth
        rw [List.getD_eq_getElem?_getD, List.getElem?_eq_none (by simp; omega)]
        exact Nat.zero_le _

set_option maxRecDepth 100000 in
theorem lifted (os : Os) (started : os.Started) (H : Type) (enc : TypeId × Value → H) :
    ReturnsInHanded {} Trym.checked os 3 .any (Rows.fnIntersectIdempotentSpec.pre6 enc Trym.prog Trym.f3 Rows.fnIntersectIdempotentRow.domain false) (Rows.fnIntersectIdempotentSpec.post enc Trym.prog Trym.f3 false true false false) := by
  refine returnsInHanded_of_change (C := Trym.checked) own started (by kernel_rfl) Trym.func3
    (ChangeSpec.witness6 (enc := enc) (C := Trym.checked) false ⟨#[], #[.string ByteArray.empty, .slice none 0 0], []⟩ 8 (by kernel_rfl) (by kernel_rfl) (by kernel_rfl) (by kernel_rfl)) ?_
  intro W base args ds gs before hval0 hW hcnd _
  have hval : ∀ (j : Nat) t v, Trym.f3.params[j]? = some t → args[j]? = some v → Value.okWide Trym.prog W .any base t v := hval0
  have hW' := hW
  obtain ⟨p, q, hA0, hV, rfl, hfz, hnd⟩ := hW
  have hA : DataW.TrodAll enc Trym.prog W 0 (fun _ => true) true Trym.f3.params.toList args.toList ds p := hA0
  rw [Trym.params3] at hA hval
  obtain ⟨v0, vs0, d0, ds0, p0, q0, hargs, rfl, rfl, h0, r0⟩ := trodAll_cons hA
  obtain ⟨v1, vs1, d1, ds1, p1, q1, rfl, rfl, rfl, h1, r1⟩ := trodAll_cons r0
  obtain ⟨rfl, rfl, rfl⟩ := trodAll_nil r1
  obtain rfl : args = #[v0, v1] := by cases args; simp_all
  obtain ⟨rfl, rfl⟩ := trodVars_none hV
  obtain ⟨a0, rfl, rfl, rfl, w0⟩ := open_string Trym.underlying9 (hval 0 9 v0 rfl rfl) h0
  obtain ⟨a1, len1, cap1, rfl⟩ := okWide_slice Trym.underlying22 (hval 1 22 v1 rfl rfl)
  have k1 := h1
  have lt1 : ∀ x ∈ p1, x.block < W.heap.size := by obtain ⟨m, hm⟩ := k1; exact DataW.trod_lt m _ _ _ hm
  obtain ⟨l, rfl, hm, hAd, hn, hnil⟩ := open_list h1
  clear hA0 hval0
  refine (walk3 a0 a1 cap1 l W w0 hn hAd hnil hm).mono fun e W' ⟨he, bel⟩ => ?_
  subst he
  exact ⟨_, rfl, _, _, _, [], _, [], hW', trodAll_mk1 (shut_bool Trym.underlying4 _), (trodAll_cons_mk (shut_string Trym.underlying9 w0) (trodAll_cons_mk (Below.trod laidOut (by kernel_rfl) (of_decide_eq_true (by kernel_rfl)) k1 bel lt1) trodAll_mk0)), rfl, bel.frame _, fun h => by cases h⟩

theorem over : Rows.fnIntersectIdempotentRow.holds Trym.pinned (OpenSpec.ofChange Rows.fnIntersectIdempotentSpec) :=
  OpenClaim.holds_of_wide 3 Trym.f3 rfl rfl rfl rfl rfl rfl rfl ⟨rfl, rfl, rfl, rfl, rfl⟩ rfl rfl rfl rfl rfl (by kernel_rfl) Trym.func3 (by kernel_rfl)
    (of_decide_eq_true (by kernel_rfl)) (by unfold Func.isWrapper; first | (rw [if_pos (by decide +kernel)]; kernel_rfl) | (rw [if_neg (by decide +kernel)]; exact ⟨rfl, rfl⟩))
    (fun os started H enc _ => lifted os started H enc)
end Go.Proofs.Qxb6603839aMods.fnIntersectIdempotent

/-- THE STATEMENT. -/
theorem Go.Proofs.Qxb6603839aMods.fnIntersectIdempotent_proved : Go.Proofs.Qxb6603839aMods.Rows.FnIntersectIdempotentSaid := Go.Proofs.Qxb6603839aMods.fnIntersectIdempotent.over
