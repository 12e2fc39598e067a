/- Records.From. -/
import Derived.Test.Qxb6603617aModsRecC
namespace Go.Proofs.Qxb6603617aMods
set_option linter.unusedVariables false
open Go.ChangeShapes Go.WideShapes Go.ChangeAt Go.RowKit

def lenOf : Value → Nat | .slice _ n _ => n | _ => 0

/-- The index at which the configs that are kept begin. -/
def FirstAt (n : Nat) (C : Nat → Int) (x : Int) (k : Nat) : Prop := k ≤ n ∧ (∀ j, j < k → C j < x) ∧ (k < n → x ≤ C k)

/-- What From hands back. -/
def FromIs (base : Nat) (a0 : Option Addr) (n0 c0 : Nat) (n1 n3 n4 i : Nat) (S T C : Nat → Int) (x : Int) (w : World) (e : Ending) (w' : World) : Prop :=
  ∃ a1 c1 a3 c3 a4 c4 k, e = .returned (.agg #[.slice a0 n0 c0, .slice a1 (n1 - i) c1, .int .u64 x, .slice a3 (n3 - i) c3, .slice a4 (n4 - k) c4]) ∧
    Ints .i64 w' base a1 (n1 - i) (fun j => S (i + j)) ∧ Ints .u64 w' base a3 (n3 - i) (fun j => T (i + j)) ∧ FirstAt n4 C x k ∧ Ints .u64 w' base a4 (n4 - k) (fun j => C (k + j)) ∧ Below w.heap.size w w'

theorem CellsI.tail {kd : IntKind} {w : World} {b o n i : Nat} {Z : Nat → Int} (h : CellsI kd w b o n Z) : CellsI kd w b (o + i) (n - i) (fun j => Z (i + j)) := fun j hj => by
  have := h (i + j) (by omega)
  rwa [show o + (i + j) = o + i + j by omega] at this

theorem from_fin {base : Nat} {a0 ak : Option Addr} {n0 c0 n1 n3 n4 i k r c1 c3 ck b1 o1 b3 o3 : Nat} {S T C : Nat → Int} {x : Int} {w W : World} (hB1 : base ≤ b1) (hB3 : base ≤ b3) (hb1 : b1 < w.heap.size) (hb3 : b3 < w.heap.size)
    (hs : CellsI .i64 w b1 o1 n1 S) (ht : CellsI .u64 w b3 o3 n3 T) (hf : FirstAt n4 C x k) (hk : k + r = n4) (hc : Ints .u64 w base ak r (fun j => C (k + j))) (hW : Below w.heap.size w W) :
    FromIs base a0 n0 c0 n1 n3 n4 i S T C x w (.returned (.agg #[.slice a0 n0 c0, .slice (some ⟨b1, o1 + i, none⟩) (n1 - i) c1, .int .u64 x, .slice (some ⟨b3, o3 + i, none⟩) (n3 - i) c3, .slice ak r ck])) W := by
  obtain rfl : r = n4 - k := by omega
  exact ⟨_, c1, _, c3, ak, ck, k, rfl, fun _ => ⟨_, _, rfl, hB1, Nat.lt_of_lt_of_le hb1 hW.size, (hs.tail).below hW hb1⟩, fun _ => ⟨_, _, rfl, hB3, Nat.lt_of_lt_of_le hb3 hW.size, (ht.tail).below hW hb3⟩, hf, hc.below hW (Nat.le_refl _), hW⟩

set_option maxHeartbeats 1000000 in
theorem from23 (base : Nat) (a0 a1 a3 a4 : Option Addr) (n0 n1 n3 n4 c0 c1 c3 c4 : Nat) (S T C : Nat → Int) (f x : Int) (i : Nat) (w : World)
    (h1 : n1 ≤ 131072) (h3 : n3 ≤ 131072) (h4 : n4 ≤ 131072) (k1 : n1 ≤ c1) (k3 : n3 ≤ c3) (k4 : n4 ≤ c4)
    (hf0 : 0 ≤ f) (hfx : f ≤ x) (hx1 : x ≤ 18446744073709551615) (hxi : x - f = (i : Int)) (hi1 : i < n1) (hi3 : i < n3)
    (hs : Ints .i64 w base a1 n1 S) (ht : Ints .u64 w base a3 n3 T) (hc : Ints .u64 w base a4 n4 C) :
    Calls Trym.prog 23 #[.agg #[.slice a0 n0 c0, .slice a1 n1 c1, .int .u64 f, .slice a3 n3 c3, .slice a4 n4 c4], .int .u64 x] w fun e w' => FromIs base a0 n0 c0 n1 n3 n4 i S T C x w e w' := by
  obtain ⟨b1, o1, rfl, hB1, hb1, hs'⟩ := hs (by omega)
  obtain ⟨b3, o3, rfl, hB3, hb3, ht'⟩ := ht (by omega)
  go_enter Trym.func23, Trym.ntmps23
  go_wp2
  go_loop [6] (fun v => ∃ k r ak ck, k + r = n4 ∧ v = .slice ak r ck ∧ r ≤ ck ∧ (∀ j, j < k → C j < x) ∧ Ints .u64 w base ak r (fun j => C (k + j))) (fun v => lenOf v)
  case atStart => exact ⟨0, n4, a4, c4, by omega, rfl, k4, fun j hj => absurd hj (by omega), by simpa using hc⟩
  case round =>
    obtain ⟨k, r, ak, ck, hkr, rfl, hrc, hlt, hik⟩ := hrel
    have HL : Hid (∀ j, j < k → C j < x) := hlt
    clear hlt
    have HK : Hid (k + r = n4) := hkr
    have hr4 : r ≤ n4 := by omega
    clear hkr
    by_cases hgo : 0 < r ∧ C k < x
    · obtain ⟨hr0, hlt⟩ := hgo
      obtain ⟨r, rfl⟩ : ∃ r', r = r' + 1 := ⟨r - 1, by omega⟩
      obtain ⟨b, o, rfl, hB, hb, hci⟩ := hik (by omega)
      have e0 := hci 0 (by omega)
      simp only [Nat.add_zero] at e0
      clear hik hs ht hc hs' ht'
      go_wp2
      go_round
      case rel =>
        refine ⟨k + 1, r, _, _, by have := HK.out; omega, rfl, by omega, fun j hj => ?_, fun hr => ?_⟩
        · by_cases e : j = k
          · subst e; exact hlt
          · exact HL.out j (by omega)
        · rw [if_neg (by omega)]
          refine ⟨b, o + 1, rfl, hB, hb, fun j hj => ?_⟩
          have := hci (j + 1) (by omega)
          simp only [show o + (j + 1) = o + 1 + j by omega, show k + (j + 1) = k + 1 + j by omega] at this
          exact this
      case measure => simp [lenOf]
    · have HF : Hid (FirstAt n4 C x k) := by
        refine ⟨by have := HK.out; omega, HL.out, fun h => ?_⟩
        have h' : 0 < r := by have := HK.out; omega
        have h'' : ¬ C k < x := fun h2 => hgo ⟨h', h2⟩
        omega
      have hc1i : ¬ c1 = i := by omega
      have hc3i : ¬ c3 = i := by omega
      by_cases hr0 : r = 0
      · subst hr0
        clear hgo
        go_wp2
        go_region
        go_wp2
        exact bodyPost_ret (v := .agg #[.slice a0 n0 c0, .slice (some ⟨b1, o1 + i, none⟩) (n1 - i) (c1 - i), .int .u64 x, .slice (some ⟨b3, o3 + i, none⟩) (n3 - i) (c3 - i), .slice ak 0 ck]) (by simp [results, Trym.results23, go_sem]) rfl
          (from_fin hB1 hB3 hb1 hb3 hs' ht' HF.out HK.out hik ((((Below.refl _ _).alloc (Nat.le_refl _) _).alloc (by simp) _).drew))
      · have hge : x ≤ C k := by have : ¬ C k < x := fun h2 => hgo ⟨by omega, h2⟩; omega
        obtain ⟨r, rfl⟩ : ∃ r', r = r' + 1 := ⟨r - 1, by omega⟩
        obtain ⟨b, o, rfl, hB, hb, hci⟩ := hik (by omega)
        have e0 := hci 0 (by omega)
        simp only [Nat.add_zero] at e0
        clear hgo
        go_wp2
        go_region
        go_wp2
        exact bodyPost_ret (v := .agg #[.slice a0 n0 c0, .slice (some ⟨b1, o1 + i, none⟩) (n1 - i) (c1 - i), .int .u64 x, .slice (some ⟨b3, o3 + i, none⟩) (n3 - i) (c3 - i), .slice (some ⟨b, o, none⟩) (r + 1) ck]) (by simp [results, Trym.results23, go_sem]) rfl
          (from_fin hB1 hB3 hb1 hb3 hs' ht' HF.out HK.out hik ((((Below.refl _ _).alloc (Nat.le_refl _) _).alloc (by simp) _).drew))
end Go.Proofs.Qxb6603617aMods
