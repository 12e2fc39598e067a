/- A []ZMember that came in, opened at every index. -/
import Derived.Test.Qxb6603617aModsMem
import Derived.OpenShut
import Derived.Deep.Slices
import Derived.Deep.Strs
namespace Go.Proofs.Qxb6603617aMods
open Go.ChangeShapes Go.WideShapes Go.ChangeAt Go.RowKit

theorem cells35 : Trym.prog.cellsOf 35 = 3 := by kernel_rfl
theorem cells23 : Trym.prog.cellsOf 23 = 1 := by kernel_rfl
theorem cells9 : Trym.prog.cellsOf 9 = 1 := by kernel_rfl
theorem cells4 : Trym.prog.cellsOf 4 = 1 := by kernel_rfl

theorem spot_none {w : World} {x : Addr} {v : Value} (h : w.cell? x = some v) : x = ⟨x.block, x.off, none⟩ := by
  obtain ⟨b, o, s⟩ := x
  cases s with
  | none => rfl
  | some s => unfold World.cell? at h; split at h <;> simp at h

theorem open_mems {H : Type} {enc : TypeId × Value → H} {W : World} {a : Option Addr} {n c : Nat} {d : DataW H} {p : List MemPlace}
    (h : DataW.Trod enc Trym.prog W 0 (fun _ => true) true 22 (.slice a n c) d p) :
    ∃ I A V, Mems W a n I A V ∧ (∀ i, (A i).size ≤ maxLen) ∧ (∀ i, (Lit.int .u64 (I i)).wf = true) ∧ n ≤ maxLen ∧ (a = none → n = 0 ∧ c = 0) := by
  obtain ⟨fuel, hf⟩ := h
  rcases Deep.open_slice Trym.underlying22 hf with ⟨hcs, _⟩ | ⟨x, l, c', m, k, D, Pl, hcs, _, hl, hm, hmm, _, hx⟩
  · simp [Value.cells] at hcs
    obtain ⟨rfl, rfl, rfl⟩ := hcs
    exact ⟨fun _ => 0, fun _ => ByteArray.empty, fun _ => false, fun h => absurd h (by omega), fun _ => Nat.zero_le _, fun _ => rfl, Nat.zero_le _, fun _ => ⟨rfl, rfl⟩⟩
  · simp [Value.cells] at hcs
    obtain ⟨rfl, rfl, rfl⟩ := hcs
    simp at hmm
    subst hmm
    rw [cells35] at hx
    have each : ∀ i, i < n → ∃ q : Int × ByteArray × Bool, W.cell? (x.add (i * 3)) = some (.int .u64 q.1) ∧ W.cell? ((x.add (i * 3)).add 1) = some (.string q.2.1) ∧ W.cell? ((x.add (i * 3)).add 2) = some (.bool q.2.2) ∧
        (Lit.int .u64 q.1).wf = true ∧ q.2.1.size ≤ maxLen := by
      intro i hi
      obtain ⟨cs, h1, h2⟩ := hx i (by omega)
      obtain ⟨_, hlen, hcell⟩ := World.cells?_some h1
      obtain ⟨y0, y1, y2, k', _, _, t0, t1, t2⟩ := Deep.trod_struct3 Trym.underlying35 h2
      simp only [cells23, cells9, cells4] at t0 t1 t2
      match cs, hlen with
      | [v0, v1, v2], _ =>
        obtain ⟨I, e0, _, hI⟩ := DataW.trod_int Trym.underlying23 t0
        obtain ⟨A, e1, _, hA⟩ := DataW.trod_string Trym.underlying9 t1
        obtain ⟨V, e2, _⟩ := DataW.trod_bool Trym.underlying4 t2
        simp at e0 e1 e2
        subst e0 e1 e2
        have g0 := hcell 0 (by omega)
        have g1 := hcell 1 (by omega)
        have g2 := hcell 2 (by omega)
        refine ⟨(I, A, V), ?_, by simpa using g1, by simpa using g2, hI, hA⟩
        simpa [Addr.add] using g0
    obtain ⟨q, hq⟩ := Deep.choose_lt each
    refine ⟨fun i => if i < n then (q i).1 else 0, fun i => if i < n then (q i).2.1 else ByteArray.empty, fun i => (q i).2.2, fun hn => ?_, fun i => ?_, fun i => ?_, Nat.le_trans hl hm, fun h => by cases h⟩
    · have hx0 := (hq 0 hn).1
      simp [Addr.add] at hx0
      have hxe := spot_none hx0
      refine ⟨x.block, x.off, by rw [← hxe], World.block_lt_of_cell? W x hx0, fun i hi => ?_⟩
      obtain ⟨g0, g1, g2, _⟩ := hq i hi
      rw [hxe] at g0 g1 g2
      simp only [add_plain] at g0 g1 g2
      simp only [if_pos hi]
      exact ⟨g0, g1, g2⟩
    · by_cases hi : i < n
      · simp only [if_pos hi]
        exact (hq i hi).2.2.2.2
      · simp only [if_neg hi]
        decide
    · by_cases hi : i < n
      · simp only [if_pos hi]
        exact (hq i hi).2.2.2.1
      · simp only [if_neg hi]
        decide
end Go.Proofs.Qxb6603617aMods
