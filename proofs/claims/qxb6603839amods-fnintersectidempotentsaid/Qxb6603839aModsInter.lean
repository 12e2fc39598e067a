/- intersect. -/
import Derived.Test.Qxb6603839aModsContains
namespace Go.Proofs.Qxb6603839aMods
open Go.ChangeShapes Go.WideShapes Go.ChangeAt Go.RowKit

/-- What has been gathered behind k rounds. -/
def Gath (L : ByteArray) (l : List ByteArray) (k : Nat) (acc : List ByteArray) : Prop :=
  acc.Nodup ∧ (∀ x ∈ acc, covB L x = true) ∧ acc.length ≤ k ∧ (∀ x ∈ acc, x = L ∨ x ∈ l) ∧ (l.Nodup → (∀ x ∈ l, covB L x = true) → acc = l.take k)

theorem Gath.start (L : ByteArray) (l : List ByteArray) : Gath L l 0 [] := ⟨List.nodup_nil, fun x h => by simp at h, Nat.le_refl _, fun x h => by simp at h, fun _ _ => by simp⟩

theorem nth_eq {l : List ByteArray} {k : Nat} (hk : k < l.length) : nth l k = l[k] := by
  unfold nth
  rw [List.getD_eq_getElem?_getD, List.getElem?_eq_getElem hk]
  rfl

theorem take_succ' {l : List ByteArray} {k : Nat} (hk : k < l.length) : l.take (k + 1) = l.take k ++ [nth l k] := by
  rw [List.take_succ_eq_append_getElem hk, nth_eq hk]

theorem not_in_take {l : List ByteArray} {k : Nat} (hk : k < l.length) (h : l.Nodup) : nth l k ∉ l.take k := by
  intro hm
  have h2 : (l.take (k + 1)).Nodup := h.sublist (List.take_sublist _ _)
  rw [take_succ' hk, List.nodup_append] at h2
  exact h2.2.2 _ hm _ (by simp) rfl

theorem Gath.add {L : ByteArray} {l : List ByteArray} {k : Nat} {acc : List ByteArray} {x : ByteArray} (h : Gath L l k acc) (hk : k < l.length) (hn : x ∉ acc) (hc : covB L x = true) (hx : x = nth l k ∨ (covB L (nth l k) = false ∧ x = L)) : Gath L l (k + 1) (acc ++ [x]) := by
  obtain ⟨h1, h2, h3, h5, h4⟩ := h
  refine ⟨?_, fun y hy => ?_, by simp; omega, fun y hy => ?_, fun hd ha => ?_⟩
  · rw [List.nodup_append]
    refine ⟨h1, by simp, fun a ha b hb e => ?_⟩
    simp at hb
    subst hb e
    exact hn ha
  · rcases List.mem_append.1 hy with h | h
    · exact h2 y h
    · simp at h; subst h; exact hc
  · rcases List.mem_append.1 hy with h | h
    · exact h5 y h
    · simp at h
      subst h
      rcases hx with e | ⟨_, e⟩
      · exact .inr (by rw [e]; exact nth_mem hk)
      · exact .inl e
  · rcases hx with e | ⟨e, _⟩
    · rw [h4 hd ha, take_succ' hk, e]
    · rw [ha _ (nth_mem hk)] at e; cases e

theorem Gath.dup {L : ByteArray} {l : List ByteArray} {k : Nat} {acc : List ByteArray} {x : ByteArray} (h : Gath L l k acc) (hk : k < l.length) (hn : x ∈ acc) (hx : x = nth l k ∨ covB L (nth l k) = false) : Gath L l (k + 1) acc := by
  obtain ⟨h1, h2, h3, h5, h4⟩ := h
  refine ⟨h1, h2, by omega, h5, fun hd ha => ?_⟩
  rcases hx with e | e
  · rw [h4 hd ha, e] at hn
    exact absurd hn (not_in_take hk hd)
  · rw [ha _ (nth_mem hk)] at e; cases e

theorem Gath.skip {L : ByteArray} {l : List ByteArray} {k : Nat} {acc : List ByteArray} (h : Gath L l k acc) (hk : k < l.length) (hx : covB L (nth l k) = false) : Gath L l (k + 1) acc := by
  obtain ⟨h1, h2, h3, h5, h4⟩ := h
  refine ⟨h1, h2, by omega, h5, fun hd ha => ?_⟩
  rw [ha _ (nth_mem hk)] at hx; cases hx

/-- What intersect hands back. -/
def InterIs (L : ByteArray) (l : List ByteArray) (w : World) (e : Ending) (w' : World) : Prop :=
  ∃ out, HandsS out w e w' ∧ (l = [] → out = [L]) ∧ (l ≠ [] → L.size = 0 → out = l) ∧ (l ≠ [] → L.size ≠ 0 → Gath L l l.length out)

theorem own_strs {w : World} {B : Nat} {v : Value} {acc : List ByteArray} (h : w.ownsRow B 9 1 v acc.length (acc.map Value.string)) : ∃ a' c', v = .slice a' acc.length c' ∧ acc.length ≤ c' ∧ Strs w a' acc := by
  rcases h.2 with ⟨rfl, hn⟩ | ⟨g, cap, cur, rfl, hb, hg, hnc, hcm, hcs, htake⟩
  · exact ⟨none, 0, by rw [hn], by omega, fun h => absurd h (by omega)⟩
  · refine ⟨_, cap, rfl, hnc, fun _ => ⟨g, 0, rfl, (Array.getElem?_eq_some_iff.1 hg).1, fun i hi => ?_⟩⟩
    rw [Nat.zero_add, h.cellAt i (by omega), nth_eq hi]
    simp [hi]

theorem news_cell (w : World) (x : ByteArray) : ∀ (j : Nat) (u : Value), [Value.string x][j]? = some u → (w.alloc (Obj.cells #[Value.string x] 9)).cell? ((⟨w.heap.size, 0, none⟩ : Addr).add j) = some u := by
  intro j u hj
  match j, hj with
  | 0, hj => simp at hj; subst hj; simp [Addr.add, go_sem]

theorem app_step {w w' w1 : World} {v v' : Value} {acc : List ByteArray} {x : ByteArray} {o : Obj} (hbel : Below w.heap.size w w') (hown : w'.ownsRow w.heap.size 9 1 v acc.length (acc.map Value.string))
    (hown' : w1.ownsRow w.heap.size 9 1 v' (acc.length + 1) (acc.map Value.string ++ [.string x])) (hgrow : (w'.alloc o).grownBy w1 v.ownBlock) :
    w1.ownsRow w.heap.size 9 1 v' (acc ++ [x]).length ((acc ++ [x]).map Value.string) ∧ Below w.heap.size w w1 := by
  refine ⟨by simpa using hown', ?_⟩
  have hs := hbel.size
  exact (hbel.alloc hs o).grown hgrow (by simp; omega) (fun k hk => (hown.lt k hk).1)

theorem empty_of_size {L : ByteArray} (h : L.size = 0) : (L.toList == []) = true := by
  rw [beq_iff_eq, ByteArray.toList_eq]
  exact List.eq_nil_of_length_eq_zero (by rw [Array.length_toList]; exact h)
theorem full_of_size {L : ByteArray} (h : ¬ L.size = 0) : (L.toList == []) = false := by
  rw [beq_eq_false_iff_ne, ByteArray.toList_eq]
  intro e
  exact h (by show L.data.size = 0; rw [← Array.length_toList, e]; rfl)

set_option maxHeartbeats 2000000 in
theorem inter13 (L : ByteArray) (a : Option Addr) (c : Nat) (l : List ByteArray) (w : World) (hL : L.size ≤ 1048576) (hn : l.length ≤ 4096) (hc : l.length ≤ c) (hA : ∀ i, (nth l i).size ≤ 1048576) (hm : Strs w a l) :
    Calls Trym.prog 13 #[.string L, .slice a l.length c] w fun e w' => InterIs L l w e w' := by
  by_cases h0 : l.length = 0
  · have HE : Hid (l = []) := List.eq_nil_of_length_eq_zero h0
    have hq : ((l.length : Int) == 0) = true := beq_iff_eq.2 (by omega)
    go_enter Trym.func13, Trym.ntmps13
    go_wp2
    go_ret
    refine ⟨[L], ⟨_, _, rfl, Nat.le_refl _, fun _ => ⟨w.heap.size, 0, rfl, by simp, fun i hi => ?_⟩, (Below.refl _ _).alloc (Nat.le_refl _) _⟩, fun _ => rfl, fun h => absurd HE.out h, fun h => absurd HE.out h⟩
    match i, hi with
    | 0, _ => simp [nth, go_sem]
  · have hq : ((l.length : Int) == 0) = false := beq_eq_false_iff_ne.2 (by omega)
    have HE : Hid (l ≠ []) := fun h => h0 (by rw [h]; rfl)
    by_cases hL0 : L.size = 0
    · have hqL := empty_of_size hL0
      go_enter Trym.func13, Trym.ntmps13
      go_wp2
      go_ret
      exact ⟨l, ⟨_, _, rfl, hc, hm, Below.refl _ _⟩, fun h => absurd h HE.out, fun _ _ => rfl, fun _ h => absurd hL0 h⟩
    · have hqL := full_of_size hL0
      obtain ⟨i0, hi, hz0, hz1, hz2⟩ := info_parts info9
      go_enter Trym.func13, Trym.ntmps13
      go_wp2
      go_loopw [5, 18] (fun v i wr => ∃ (k : Nat) (acc : List ByteArray), k ≤ l.length ∧ i = .int .i64 k ∧ Gath L l k acc ∧ wr.ownsRow w.heap.size 9 1 v acc.length (acc.map Value.string) ∧ Below w.heap.size w wr) (fun _ i _ => l.length - (intOf i).toNat)
      case atStart => exact ⟨0, [], Nat.zero_le _, rfl, Gath.start L l, World.ownsRow_nil _ _ _ _, Below.refl _ _⟩
      case round =>
        obtain ⟨k, acc, hk, rfl, hG, hown, hbel⟩ := hrel
        have HG : Hid (Gath L l k acc) := hG
        have hal : acc.length ≤ k := hG.2.2.1
        clear hG
        obtain ⟨a', c', rfl, hac, hst⟩ := own_strs hown
        by_cases hlt : k < l.length
        · obtain ⟨b, o, rfl, hb, hci⟩ := hm (by omega)
          have e0 := hci.below hbel hb k hlt
          have eA := hA k
          clear hci hm hA
          obtain ⟨x, hx⟩ : ∃ x, x = nth l k := ⟨_, rfl⟩
          rw [← hx] at e0 eA
          have HX : Hid (x = nth l k) := hx
          clear hx
          cases hc1 : covB L x with
          | true =>
            go_wp2_with fail
            refine (covers15 L x _ hL eA).mono ?_
            rintro e w' ⟨rfl, rfl⟩
            rw [hc1]
            go_wp2_with fail
            refine (contains16 a' c' acc x _ (by omega) hst).mono ?_
            rintro e w' ⟨⟨r, rfl, hr⟩, rfl⟩
            cases r with
            | true =>
              have HR : Hid (x ∈ acc) := hr.1 rfl
              clear hr
              go_wp2
              go_roundw
              case rel => exact ⟨k + 1, acc, by omega, by go_num, HG.out.dup hlt HR.out (.inl HX.out), hown, hbel⟩
              case measure => simp [intOf]; omega
            | false =>
              have HR : Hid (x ∉ acc) := fun h => by have := hr.2 h; simp at this
              clear hr
              go_wp2_with (at_builtin; refine wpList_append_own _ rfl _ _ 22 rfl w.heap.size 9 i0 (.string ByteArray.empty) 1 16 Trym.underlying22 hi hz0 hz1 hz2 rfl (by decide) _ _ _ rfl (hown.alloc _) ⟨_, 0, none⟩ 1 1 [.string x] rfl rfl (news_cell _ x) (by intro u hu; simp at hu; subst hu; rfl) (by unfold maxLen; omega) (by omega) (by have := hbel.size; simp; omega) ?_)
              intro v' w1 hown' hgrow _
              have R := app_step hbel hown hown' hgrow
              clear hown' hgrow hown hst e0
              go_wp2
              go_roundw
              case rel => exact ⟨k + 1, acc ++ [x], by omega, by go_num, HG.out.add hlt HR.out hc1 (.inl HX.out), R.1, R.2⟩
              case measure => simp [intOf]; omega
          | false =>
            go_wp2_with fail
            refine (covers15 L x _ hL eA).mono ?_
            rintro e w' ⟨rfl, rfl⟩
            rw [hc1]
            go_wp2_with fail
            refine (covers15 x L _ eA hL).mono ?_
            rintro e w' ⟨rfl, rfl⟩
            have HN : Hid (covB L (nth l k) = false) := by unfold Hid; rw [← HX.out]; exact hc1
            cases hc2 : covB x L with
            | false =>
              go_wp2
              go_roundw
              case rel => exact ⟨k + 1, acc, by omega, by go_num, HG.out.skip hlt HN.out, hown, hbel⟩
              case measure => simp [intOf]; omega
            | true =>
              go_wp2_with fail
              refine (contains16 a' c' acc L _ (by omega) hst).mono ?_
              rintro e w' ⟨⟨r, rfl, hr⟩, rfl⟩
              cases r with
              | true =>
                have HR : Hid (L ∈ acc) := hr.1 rfl
                clear hr
                go_wp2
                go_roundw
                case rel => exact ⟨k + 1, acc, by omega, by go_num, HG.out.dup hlt HR.out (.inr HN.out), hown, hbel⟩
                case measure => simp [intOf]; omega
              | false =>
                have HR : Hid (L ∉ acc) := fun h => by have := hr.2 h; simp at this
                clear hr
                go_wp2_with (at_builtin; refine wpList_append_own _ rfl _ _ 22 rfl w.heap.size 9 i0 (.string ByteArray.empty) 1 16 Trym.underlying22 hi hz0 hz1 hz2 rfl (by decide) _ _ _ rfl (hown.alloc _) ⟨_, 0, none⟩ 1 1 [.string L] rfl rfl (news_cell _ L) (by intro u hu; simp at hu; subst hu; rfl) (by unfold maxLen; omega) (by omega) (by have := hbel.size; simp; omega) ?_)
                intro v' w1 hown' hgrow _
                have R := app_step hbel hown hown' hgrow
                clear hown' hgrow hown hst e0
                go_wp2
                go_roundw
                case rel => exact ⟨k + 1, acc ++ [L], by omega, by go_num, HG.out.add hlt HR.out (covB_self L) (.inr ⟨HN.out, rfl⟩), R.1, R.2⟩
                case measure => simp [intOf]; omega
        · obtain rfl : k = l.length := by omega
          clear hm hA
          go_wp2
          go_ret
          exact ⟨acc, ⟨a', c', rfl, hac, hst, hbel⟩, fun h => absurd h HE.out, fun _ h => absurd h hL0, fun _ _ => HG.out⟩
end Go.Proofs.Qxb6603839aMods
