/- The walk of FnRecordsFromMatchesEntryModel. -/
import Derived.Test.Qxb6603617aModsRecD
namespace Go.Proofs.Qxb6603617aMods
open Go.ChangeShapes Go.WideShapes Go.ChangeAt Go.RowKit

theorem Sorted.le {n : Nat} {C : Nat → Int} (h : Sorted n C) {i j : Nat} (hij : i ≤ j) (hj : j < n) : C i ≤ C j := by
  induction j with
  | zero => have : i = 0 := by omega
            subst this; exact Int.le_refl _
  | succ j ih =>
    by_cases e : i = j + 1
    · subst e; exact Int.le_refl _
    · have h1 := h j hj
      have := ih (by omega) (by omega)
      omega

theorem FirstAt.ge {n : Nat} {C : Nat → Int} {x : Int} {k : Nat} (hs : Sorted n C) (h : FirstAt n C x k) {j : Nat} (hj : j < n) (hk : k ≤ j) : x ≤ C j := by
  have h1 := h.2.2 (by omega)
  have h2 := hs.le hk hj
  omega

theorem Ints.base_le {k : IntKind} {w : World} {base base' : Nat} {a : Option Addr} {n : Nat} {Z : Nat → Int} (h : Ints k w base a n Z) (hb : base' ≤ base) : Ints k w base' a n Z := fun hn => by
  obtain ⟨b, o, rfl, hle, hlt, hc⟩ := h hn
  exact ⟨b, o, rfl, by omega, hlt, hc⟩

theorem size_alloc (w : World) (o : Obj) : (w.alloc o).heap.size = w.heap.size + 1 := by simp

set_option maxRecDepth 100000 in
set_option maxHeartbeats 2000000 in
theorem walk5 (a0 a1 a3 a4 : Option Addr) (n0 n1 n3 n4 c0 c1 c3 c4 : Nat) (D S T C : Nat → Int) (f x : Int) (w : World)
    (l0 : n0 ≤ maxLen) (l1 : n1 ≤ maxLen) (l3 : n3 ≤ maxLen) (l4 : n4 ≤ maxLen)
    (z0 : a0 = none → n0 = 0 ∧ c0 = 0) (z1 : a1 = none → n1 = 0 ∧ c1 = 0) (z3 : a3 = none → n3 = 0 ∧ c3 = 0) (z4 : a4 = none → n4 = 0 ∧ c4 = 0)
    (hf0 : 0 ≤ f) (hf1 : f ≤ 18446744073709551615) (hx0 : 0 ≤ x) (hx1 : x ≤ 18446744073709551615) (hD : 0 ≤ D 0 ∧ D 0 ≤ 255)
    (hd : Ints .u8 w 0 a0 n0 D) (hs : Ints .i64 w 0 a1 n1 S) (ht : Ints .u64 w 0 a3 n3 T) (hc : Ints .u64 w 0 a4 n4 C) :
    Calls Trym.prog 5 #[.slice a0 n0 c0, .slice a1 n1 c1, .int .u64 f, .slice a3 n3 c3, .slice a4 n4 c4, .int .u64 x] w fun e w' => e = .returned (.bool true) ∧ Below w.heap.size w w' := by
  go_enter Trym.func5, Trym.ntmps5
  go_wp2_with fail
  refine (bytes14 a0 a1 a3 a4 n0 n1 n3 n4 c0 c1 c3 c4 f x _ l0 l1 l3 l4).mono ?_
  rintro e w' ⟨⟨r, rfl, -⟩, rfl⟩
  cases r
  · go_wp2_with fail
    go_ret
    exact ⟨rfl, Below.refl _ _⟩
  go_wp2_with fail
  refine (fit15 a0 a1 a3 a4 n0 n1 n3 n4 c0 c1 c3 c4 _ l0 l1 l3 l4).mono ?_
  rintro e w' ⟨⟨r, rfl, hr⟩, rfl⟩
  cases r
  · go_wp2_with fail
    go_ret
    exact ⟨rfl, Below.refl _ _⟩
  obtain ⟨m0, m1, m3, m4⟩ := hr rfl
  clear hr l0 l1 l3 l4
  go_wp2_with fail
  refine (premise16 a1 a3 a4 n1 n3 n4 c1 c3 c4 C f _ m1 m3 m4 hf0 hf1 hc).mono ?_
  rintro e w1 ⟨⟨r, rfl, hr⟩, hb1⟩
  cases r
  · go_wp2_with fail
    go_ret
    exact ⟨rfl, hb1⟩
  obtain ⟨rfl, hn3, hfn, hsC⟩ := hr rfl
  have HC : Hid (Sorted n4 C) := hsC
  clear hr hsC
  go_wp2_with fail
  refine (holds17 f x n1 _ m1 hf0 hf1 hx0 hx1).mono ?_
  rintro e w2 ⟨⟨r, rfl, hr⟩, rfl⟩
  cases r
  · go_wp2_with fail
    go_ret
    exact ⟨rfl, hb1⟩
  obtain ⟨hfx, hxn⟩ := hr rfl
  clear hr
  have hd1 := hd.below hb1 (Nat.le_refl _)
  have hs1 := hs.below hb1 (Nat.le_refl _)
  have ht1 := ht.below hb1 (Nat.le_refl _)
  have hc1 := hc.below hb1 (Nat.le_refl _)
  clear hd hs ht hc
  go_wp2_with fail
  refine (clone18 a0 n0 c0 D _ m0 z0 hd1).mono ?_
  rintro e w3 ⟨a0', c0', rfl, k0, hd3, hb3⟩
  have hlow : 0 < n0 → ∃ b0, a0' = some ⟨b0, 0, none⟩ ∧ b0 < w3.heap.size ∧ w2.heap.size ≤ b0 := fun h => by
    obtain ⟨b0, h1, h2, h3⟩ := hd3 h
    exact ⟨b0, h1, h3.lt, h2⟩
  have hs3 := hs1.below hb3 (Nat.le_refl _)
  have ht3 := ht1.below hb3 (Nat.le_refl _)
  have hc3 := hc1.below hb3 (Nat.le_refl _)
  clear hd1 hs1 ht1 hc1
  go_wp2_with fail
  refine (clone19 a1 n1 c1 S _ (by omega) z1 hs3).mono ?_
  rintro e w4 ⟨a1', c1', rfl, k1, hs4, hb4⟩
  have hd4 := hd3.below hb4 (Nat.le_refl _)
  have ht4 := ht3.below hb4 (Nat.le_refl _)
  have hc4 := hc3.below hb4 (Nat.le_refl _)
  clear hd3 hs3 ht3 hc3
  go_wp2_with fail
  refine (clone20 a3 n1 c3 T _ (by omega) z3 ht4).mono ?_
  rintro e w5 ⟨a3', c3', rfl, k3, ht5, hb5⟩
  have hd5 := hd4.below hb5 (Nat.le_refl _)
  have hs5 := hs4.below hb5 (Nat.le_refl _)
  have hc5 := hc4.below hb5 (Nat.le_refl _)
  clear hd4 hs4 ht4 hc4
  go_wp2_with fail
  refine (clone20 a4 n4 c4 C _ (by omega) z4 hc5).mono ?_
  rintro e w6 ⟨a4', c4', rfl, k4, hc6, hb6⟩
  have hd6 := hd5.below hb6 (Nat.le_refl _)
  have hs6 := hs5.below hb6 (Nat.le_refl _)
  have ht6 := ht5.below hb6 (Nat.le_refl _)
  clear hd5 hs5 ht5 hc5 z0 z1 z3 z4
  go_wp2_with fail
  refine (new21 a0' a1' a3' a4' n0 n1 n1 n4 c0' c1' c3' c4' f _).mono ?_
  rintro e w7 ⟨rfl, hb7⟩
  go_wp2_with fail
  have hs7 := ((hs6.below hb7 (Nat.le_refl _)).ints)
  have ht7 := ((ht6.below hb7 (Nat.le_refl _)).ints).base_le hb4.size
  have hc7 := ((hc6.below hb7 (Nat.le_refl _)).ints).base_le (Nat.le_trans hb4.size hb5.size)
  have hd7 := hd6.below hb7 (Nat.le_refl _)
  have hbW7 : Below w2.heap.size w2 w7 := hb3.trans ((hb4.mono hb3.size).trans ((hb5.mono (Nat.le_trans hb3.size hb4.size)).trans ((hb6.mono (Nat.le_trans hb3.size (Nat.le_trans hb4.size hb5.size))).trans (hb7.mono (Nat.le_trans hb3.size (Nat.le_trans hb4.size (Nat.le_trans hb5.size hb6.size)))))))
  clear hs6 ht6 hc6 hd6 hb3 hb4 hb5 hb6 hb7
  generalize w3.heap.size = B3 at *
  clear w3 w4 w5 w6
  obtain ⟨w8, hw8⟩ : ∃ w8, w8 = w7.alloc (Obj.cells #[Value.slice a0' n0 c0', Value.slice a1' n1 c1', Value.int IntKind.u64 f, Value.slice a3' n1 c3', Value.slice a4' n4 c4'] 50) := ⟨_, rfl⟩
  have hb8 : Below w7.heap.size w7 w8 := by rw [hw8]; exact (Below.refl _ _).alloc (Nat.le_refl _) _
  rw [← hw8]
  clear hw8
  have hs8 := hs7.below hb8 (Nat.le_refl _)
  have ht8 := ht7.below hb8 (Nat.le_refl _)
  have hc8 := hc7.below hb8 (Nat.le_refl _)
  have hd8 := hd7.below hb8 (Nat.le_refl _)
  have hbW8 := hbW7.trans (hb8.mono hbW7.size)
  clear hs7 ht7 hc7 hd7 hbW7 hb8
  obtain ⟨i, hxi⟩ : ∃ i : Nat, x - f = (i : Int) := ⟨(x - f).toNat, by omega⟩
  refine (from23 B3 a0' a1' a3' a4' n0 n1 n1 n4 c0' c1' c3' c4' S T C f x i _ m1 m1 m4 k1 k3 k4 hf0 hfx hx1 hxi (by omega) (by omega) hs8 ht8 hc8).mono ?_
  rintro e w9 ⟨a1x, c1x, a3x, c3x, a4x, c4x, K, rfl, hs9, ht9, hF, hc9, hb9⟩
  have HF : Hid (FirstAt n4 C x K) := hF
  have hKn : K ≤ n4 := hF.1
  clear hF
  have HXI : Hid (x - f = (i : Int)) := hxi
  have HI : Hid (i < n1) := by unfold Hid; omega
  clear hxi
  generalize hp : n1 - i = p at *
  generalize hq : n4 - K = q at *
  have HP : Hid (n1 = i + p) := by unfold Hid; have := HI.out; omega
  have HQ : Hid (n4 = K + q) := by unfold Hid; omega
  clear hp hq
  go_wp2_with fail
  refine (fields22 a0' a1x a3x a4x n0 p p q c0' c1x c3x c4x x _).mono ?_
  rintro e w10 ⟨rfl, hb10⟩
  go_wp2_with fail
  have hd10 := (hd8.below hb9 (Nat.le_refl _)).below hb10 (Nat.le_refl _)
  refine (same24 a0' w2.heap.size n0 c0' D _ m0 hd10.ints).mono ?_
  rintro e w11 ⟨rfl, hb11⟩
  have hd11 := hd10.below hb11 (Nat.le_refl _)
  have hbe : Below w8.heap.size w8 w11 := hb9.trans ((hb10.mono hb9.size).trans (hb11.mono (Nat.le_trans hb9.size hb10.size)))
  have hs11 := hs8.below hbe (Nat.le_refl _)
  have ht11 := ht8.below hbe (Nat.le_refl _)
  have hc11 := hc8.below hbe (Nat.le_refl _)
  have hbf : Below w9.heap.size w9 w11 := hb10.trans (hb11.mono hb10.size)
  have hsx := hs9.below hbf (Nat.le_refl _)
  have htx := ht9.below hbf (Nat.le_refl _)
  have hcx := hc9.below hbf (Nat.le_refl _)
  have hbW11 : Below w'.heap.size w' w11 := hb1.trans ((hbW8.trans (hbe.mono hbW8.size)).mono hb1.size)
  have hw2 : w'.heap.size ≤ w2.heap.size := hb1.size
  clear hs8 ht8 hc8 hd8 hd10 hb9 hb10 hb11 hbe hbf hs9 ht9 hc9 hbW8 hb1
  by_cases hn0 : n0 = 0
  case' neg =>
    obtain ⟨b0, rfl, hb0, hb0'⟩ := hlow (by omega)
    have p0 : 0 < n0 := by omega
    obtain ⟨b0', he, hw, hrow⟩ := hd11 (by omega)
    obtain rfl : b0 = b0' := by simpa using he
    have g0 := hrow.cell (show 0 < n0 by omega)
    have q0 := hrow.frozen 0
    obtain ⟨hD0, hD1⟩ := hD
    clear hd11 he hlow
    go_wp2_with fail
    go_quiet (fail)
    go_wp2_with fail
    have hsq := hs11.setCell (p := ⟨b0, 0, none⟩) hb0 (Value.int IntKind.u8 (bits BinOp.xor IntKind.u8 (D 0) 255))
    have htq := ht11.setCell (p := ⟨b0, 0, none⟩) hb0 (Value.int IntKind.u8 (bits BinOp.xor IntKind.u8 (D 0) 255))
    have hcq := hc11.setCell (p := ⟨b0, 0, none⟩) hb0 (Value.int IntKind.u8 (bits BinOp.xor IntKind.u8 (D 0) 255))
    have hsy := hsx.setCell (p := ⟨b0, 0, none⟩) hb0 (Value.int IntKind.u8 (bits BinOp.xor IntKind.u8 (D 0) 255))
    have hty := htx.setCell (p := ⟨b0, 0, none⟩) hb0 (Value.int IntKind.u8 (bits BinOp.xor IntKind.u8 (D 0) 255))
    have hcy := hcx.setCell (p := ⟨b0, 0, none⟩) hb0 (Value.int IntKind.u8 (bits BinOp.xor IntKind.u8 (D 0) 255))
    have hbWq := hbW11.setCell (p := ⟨b0, 0, none⟩) (by show _ ≤ b0; omega) (Value.int IntKind.u8 (bits BinOp.xor IntKind.u8 (D 0) 255))
    clear hs11 ht11 hc11 hsx htx hcx hbW11 hrow g0 q0
    generalize w11.setCell { block := b0, off := 0 } (Value.int IntKind.u8 (bits BinOp.xor IntKind.u8 (D 0) 255)) = wq at *
    replace hsq : Ints .i64 (wq.drewN nq) B3 a1' n1 S := hsq
    replace htq : Ints .u64 (wq.drewN nq) B3 a3' n1 T := htq
    replace hcq : Ints .u64 (wq.drewN nq) B3 a4' n4 C := hcq
    replace hsy : Ints .i64 (wq.drewN nq) B3 a1x p (fun j => S (i + j)) := hsy
    replace hty : Ints .u64 (wq.drewN nq) B3 a3x p (fun j => T (i + j)) := hty
    replace hcy : Ints .u64 (wq.drewN nq) B3 a4x q (fun j => C (K + j)) := hcy
    replace hbWq : Below w'.heap.size w' (wq.drewN nq) := below_drewN hbWq nq
    generalize wq.drewN nq = wz at *
  case' pos =>
    subst hn0
    have hsq := hs11
    have htq := ht11
    have hcq := hc11
    have hsy := hsx
    have hty := htx
    have hcy := hcx
    have hbWq := hbW11
    clear hs11 ht11 hc11 hsx htx hcx hbW11 hlow hd11
    generalize w11 = wz at *
    go_wp2_with fail
  all_goals
    go_loopw [20, 21] (fun h j wr => ∃ m g : Nat, m ≤ n1 ∧ j = .int .i64 m ∧ h = .int .i64 g ∧ g = m - i ∧ Below wz.heap.size wz wr) (fun _ j _ => n1 - (intOf j).toNat)
    case atStart => exact ⟨0, 0, Nat.zero_le _, rfl, rfl, by omega, Below.refl _ _⟩
    case round =>
      obtain ⟨m, g, hm, rfl, rfl, hg, hbel⟩ := hrel
      have HG : Hid (g = m - i) := hg
      have hgm : g ≤ m := by omega
      clear hg
      by_cases hlt : m < n1
      · by_cases hmi : i ≤ m
        · have hkk : f + (m : Int) - x = (g : Int) := by have := HXI.out; have := HG.out; omega
          have hge : x ≤ f + (m : Int) := by have := HXI.out; omega
          have hgp : g < p := by have := HG.out; have := HP.out; omega
          obtain ⟨b1, o1, rfl, -, hb1, hc1⟩ := hsq (by omega)
          obtain ⟨b3, o3, rfl, -, hb3, hc3⟩ := htq (by omega)
          obtain ⟨bx, ox, rfl, -, hbx, hcx⟩ := hsy (by omega)
          obtain ⟨by3, oy, rfl, -, hby, hcy3⟩ := hty (by omega)
          have e1 := hc1.below hbel hb1 m hlt
          have e3 := hc3.below hbel hb3 m hlt
          have ex := hcx.below hbel hbx g hgp
          have ey := hcy3.below hbel hby g hgp
          simp only [show i + g = m from by have := HG.out; omega] at ex ey
          clear hc1 hc3 hcx hcy3 hsq htq hsy hty hcq hcy
          go_wp2
          go_quiet (fail)
          go_wp2
          go_roundw
          case rel => exact ⟨m + 1, g + 1, by omega, by go_num, by go_num, by have := HG.out; omega, below_drewN hbel _⟩
          case measure => simp [intOf]; omega
        · have hlt' : f + (m : Int) < x := by have := HXI.out; omega
          clear hsq htq hsy hty hcq hcy
          go_wp2
          go_roundw
          case rel => exact ⟨m + 1, g, by omega, by go_num, rfl, by have := HG.out; omega, hbel⟩
          case measure => simp [intOf]; omega
      · obtain rfl : g = p := by have := HG.out; have := HP.out; omega
        have hcr := hcq.below hbel (Nat.le_refl _)
        have hcz := hcy.below hbel (Nat.le_refl _)
        have hbWr := hbWq.trans (hbel.mono hbWq.size)
        clear hsq htq hsy hty hcq hcy hbWq hbel
        go_wp2_with fail
        go_loopw [24, 25] (fun h j ws => ∃ m' g' : Nat, m' ≤ n4 ∧ j = .int .i64 m' ∧ h = .int .i64 g' ∧ g' = m' - K ∧ Below wr.heap.size wr ws) (fun _ j _ => n4 - (intOf j).toNat)
        case atStart => exact ⟨0, 0, Nat.zero_le _, rfl, rfl, by omega, Below.refl _ _⟩
        case round =>
          obtain ⟨m', g', hm', rfl, rfl, hg', hbel'⟩ := hrel
          have HG' : Hid (g' = m' - K) := hg'
          have hgm' : g' ≤ m' := by omega
          clear hg'
          by_cases hlt4 : m' < n4
          · obtain ⟨b4, o4, rfl, -, hb4, hc4⟩ := hcr (by omega)
            have e4 := hc4.below hbel' hb4 m' hlt4
            by_cases hmK : K ≤ m'
            · have hge4 : x ≤ C m' := HF.out.ge HC.out hlt4 hmK
              have hgq : g' < q := by have := HG'.out; have := HQ.out; omega
              obtain ⟨b5, o5, rfl, -, hb5, hc5⟩ := hcz (by omega)
              have e5 := hc5.below hbel' hb5 g' hgq
              simp only [show K + g' = m' from by have := HG'.out; omega] at e5
              clear hcr hcz hc4 hc5
              go_wp2
              go_quiet (fail)
              go_wp2
              go_roundw
              case rel => exact ⟨m' + 1, g' + 1, by omega, by go_num, by go_num, by have := HG'.out; omega, below_drewN hbel' _⟩
              case measure => simp [intOf]; omega
            · have hlt5 : C m' < x := HF.out.2.1 m' (by omega)
              clear hcr hcz hc4
              go_wp2
              go_roundw
              case rel => exact ⟨m' + 1, g', by omega, by go_num, rfl, by have := HG'.out; omega, hbel'⟩
              case measure => simp [intOf]; omega
          · obtain rfl : g' = q := by have := HG'.out; have := HQ.out; omega
            clear hcr hcz
            go_wp2
            go_ret
            exact ⟨by simp, hbWr.trans (hbel'.mono hbWr.size)⟩
end Go.Proofs.Qxb6603617aMods
