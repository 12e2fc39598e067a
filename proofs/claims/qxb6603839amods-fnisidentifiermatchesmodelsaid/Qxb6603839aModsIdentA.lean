/- Bytes of words; the callees of FnIsIdentifierMatchesModel. -/
import Derived.Test.Qxb6603839aModsRows
import Derived.WalkKit
import Derived.ProofKit
import Derived.Below
import Derived.Laws.IdiomStrings
namespace Go.Proofs.Qxb6603839aMods
open Go.ChangeShapes Go.WideShapes Go.ChangeAt Go.RowKit

/-- The call answered a bool of which p holds. -/
def Answers (e : Ending) (p : Bool → Prop) : Prop := ∃ r : Bool, e = .returned (.bool r) ∧ p r
theorem Answers.mk {p : Bool → Prop} (r : Bool) (h : p r) : Answers (.returned (.bool r)) p := ⟨r, rfl, h⟩

def Letter (c : Int) : Prop := c = 95 ∨ (97 ≤ c ∧ c ≤ 122) ∨ (65 ≤ c ∧ c ≤ 90)
def Digit (c : Int) : Prop := 48 ≤ c ∧ c ≤ 57

/-- The byte at i, as a number. -/
def byteAt (s : ByteArray) (i : Nat) : Int := if h : i < s.size then (s[i].toNat : Int) else 0
theorem byteAt_lt {s : ByteArray} {i : Nat} (h : i < s.size) : byteAt s i = (s[i].toNat : Int) := by unfold byteAt; rw [dif_pos h]
theorem byteAt_bd (s : ByteArray) (i : Nat) : 0 ≤ byteAt s i ∧ byteAt s i ≤ 255 := by
  unfold byteAt
  split
  · rename_i h
    have := s[i].toNat_lt
    omega
  · omega

/-- What an identifier is. -/
def Ident (s : ByteArray) : Prop := 0 < s.size ∧ ¬ Digit (byteAt s 0) ∧ ∀ i, i < s.size → Letter (byteAt s i) ∨ Digit (byteAt s i)

theorem or32_nat : ∀ n : Nat, n < 256 → ((97 ≤ bits BinOp.or IntKind.u8 (n : Int) 32 ∧ bits BinOp.or IntKind.u8 (n : Int) 32 ≤ 122) ↔ ((65 ≤ (n : Int) ∧ (n : Int) ≤ 90) ∨ (97 ≤ (n : Int) ∧ (n : Int) ≤ 122))) := by decide +kernel

theorem or32 {c : Int} (h0 : 0 ≤ c) (h1 : c ≤ 255) : (97 ≤ bits BinOp.or IntKind.u8 c 32 ∧ bits BinOp.or IntKind.u8 c 32 ≤ 122) ↔ ((65 ≤ c ∧ c ≤ 90) ∨ (97 ≤ c ∧ c ≤ 122)) := by
  obtain ⟨n, rfl⟩ := Int.eq_ofNat_of_zero_le h0
  exact or32_nat n (by omega)

theorem word_yes {c b : Int} (hO : (97 ≤ b ∧ b ≤ 122) ↔ ((65 ≤ c ∧ c ≤ 90) ∨ (97 ≤ c ∧ c ≤ 122))) (hd : ¬ (48 ≤ c ∧ c ≤ 57)) (hu : ¬ c = 95) (h : 97 ≤ b) : decide (b ≤ 122) = true ↔ (Letter c ∨ Digit c) := by
  unfold Letter Digit
  rw [decide_eq_true_iff]
  constructor
  · intro h2; rcases hO.1 ⟨h, h2⟩ with h3 | h3 <;> omega
  · intro h2; exact (hO.2 (by omega)).2

theorem word_no {c b : Int} (hO : (97 ≤ b ∧ b ≤ 122) ↔ ((65 ≤ c ∧ c ≤ 90) ∨ (97 ≤ c ∧ c ≤ 122))) (hd : ¬ (48 ≤ c ∧ c ≤ 57)) (hu : ¬ c = 95) (h : b < 97) : false = true ↔ (Letter c ∨ Digit c) := by
  unfold Letter Digit
  constructor
  · intro h2; cases h2
  · intro h2; have := (hO.2 (by omega)).1; omega

set_option maxHeartbeats 400000 in
theorem word11 (c : Int) (w : World) (h0 : 0 ≤ c) (h1 : c ≤ 255) :
    Calls Trym.prog 11 #[.int .u8 c] w fun e w' => Answers e (fun r => r = true ↔ (Letter c ∨ Digit c)) ∧ w' = w := by
  have HO : Hid _ := or32 h0 h1
  by_cases hd : 48 ≤ c ∧ c ≤ 57
  · obtain ⟨d0, d1⟩ := hd
    go_enter Trym.func11, Trym.ntmps11
    go_wp2
    go_ret
    exact ⟨Answers.mk _ (by simp [Letter, Digit]; omega), rfl⟩
  · by_cases hu : c = 95
    · subst hu
      go_enter Trym.func11, Trym.ntmps11
      go_wp2
      go_ret
      exact ⟨Answers.mk _ (by simp [Letter, Digit]), rfl⟩
    · have hq : (c == 95) = false := beq_eq_false_iff_ne.2 hu
      have HD : Hid (¬ (48 ≤ c ∧ c ≤ 57)) := hd
      have HU : Hid (¬ c = 95) := hu
      by_cases hlo : 48 ≤ c
      · have hhi : 57 < c := by omega
        clear hd hu
        go_enter Trym.func11, Trym.ntmps11
        go_wp2
        all_goals go_ret
        · exact ⟨Answers.mk _ (word_yes HO.out HD.out HU.out (by assumption)), rfl⟩
        · exact ⟨Answers.mk _ (word_no HO.out HD.out HU.out (by assumption)), rfl⟩
      · have hlo' : c < 48 := by omega
        clear hd hu
        go_enter Trym.func11, Trym.ntmps11
        go_wp2
        all_goals go_ret
        · exact ⟨Answers.mk _ (word_yes HO.out HD.out HU.out (by assumption)), rfl⟩
        · exact ⟨Answers.mk _ (word_no HO.out HD.out HU.out (by assumption)), rfl⟩

theorem bytes_made (s : ByteArray) (w : World) : ∃ w' c', (convert 9 31 (.string s)).run Trym.prog w = .ok (.slice (some ⟨w.heap.size, 0, none⟩) s.size c') w' ∧
    (∀ i, i < s.size → w'.cell? ⟨w.heap.size, i, none⟩ = some (.int .u8 (byteAt s i))) ∧ Below w.heap.size w w' := by
  refine ⟨_, _, run_bytes_of_string (P := Trym.prog) w 9 31 5 s Trym.underlying9 Trym.underlying31 Trym.underlying5, fun i hi => ?_, (Below.refl _ _).drew.alloc (Nat.le_refl _) _⟩
  have hh : (w.drew.alloc (.cells (bytesRow s (grownCap w s.size 0 5)) 5 ((bytesRow s (grownCap w s.size 0 5)).size, (bytesRow s (grownCap w s.size 0 5)).size + 1))).heap[w.heap.size]? = some (.cells (bytesRow s (grownCap w s.size 0 5)) 5 ((bytesRow s (grownCap w s.size 0 5)).size, (bytesRow s (grownCap w s.size 0 5)).size + 1)) := by
    show (w.heap.push _)[w.heap.size]? = _
    simp
  simp only [World.cell?, hh]
  rw [byteAt_lt hi]
  have hi' : i < s.data.size := hi
  simp only [Option.isSome_none, bytesRow, Array.getElem?_append, Array.size_map]
  rw [if_neg (by simp), if_pos hi', Array.getElem?_map, Array.getElem?_eq_getElem hi']
  rfl

/-- What holds behind the first k bytes. -/
def OkTo (s : ByteArray) (k : Nat) : Prop := (0 < k → ¬ Digit (byteAt s 0)) ∧ ∀ i, i < k → Letter (byteAt s i) ∨ Digit (byteAt s i)

theorem OkTo.done {s : ByteArray} (h0 : 0 < s.size) (h : OkTo s s.size) : Ident s := ⟨h0, h.1 h0, h.2⟩
theorem OkTo.step {s : ByteArray} {k : Nat} (h : OkTo s k) (h1 : Letter (byteAt s k) ∨ Digit (byteAt s k)) (h2 : k = 0 → ¬ Digit (byteAt s 0)) : OkTo s (k + 1) := by
  refine ⟨fun _ => ?_, fun i hi => ?_⟩
  · by_cases e : k = 0
    · exact h2 e
    · exact h.1 (by omega)
  · by_cases e : i = k
    · subst e; exact h1
    · exact h.2 i (by omega)

set_option maxHeartbeats 1000000 in
theorem ident14 (s : ByteArray) (w : World) (hs : s.size ≤ 1048576) :
    Calls Trym.prog 14 #[.string s] w fun e w' => Answers e (fun r => r = true ↔ Ident s) ∧ Below w.heap.size w w' := by
  by_cases h0 : s.size = 0
  · have hq : s = ByteArray.empty := by
      apply ByteArray.ext
      exact Array.eq_empty_of_size_eq_zero h0
    subst hq
    go_enter Trym.func14, Trym.ntmps14
    go_wp2
    go_ret
    exact ⟨Answers.mk _ (by simp [Ident]), Below.refl _ _⟩
  · obtain ⟨w1, c1, hcv, hcell, hb1⟩ := bytes_made s w
    have hq : (s.toList == []) = false := by
      rw [beq_eq_false_iff_ne, ByteArray.toList_eq]
      intro h
      exact h0 (by show s.data.size = 0; rw [← Array.length_toList, h]; rfl)
    go_enter Trym.func14, Trym.ntmps14
    go_wp2
    clear hcv
    go_loop [12] (fun i => ∃ k : Nat, k ≤ s.size ∧ i = .int .i64 k ∧ OkTo s k) (fun i => s.size - (intOf i).toNat)
    case atStart => exact ⟨0, Nat.zero_le _, rfl, fun h => absurd h (by omega), fun i hi => absurd hi (by omega)⟩
    case round =>
      obtain ⟨k, hk, rfl, hok⟩ := hrel
      have HK : Hid (OkTo s k) := hok
      clear hok
      by_cases hlt : k < s.size
      · have e0 := hcell k hlt
        clear hcell
        obtain ⟨b0, b1⟩ := byteAt_bd s k
        obtain ⟨c, hc⟩ : ∃ c, c = byteAt s k := ⟨_, rfl⟩
        rw [← hc] at e0 b0 b1
        have HCC : Hid (c = byteAt s k) := hc
        clear hc
        have bad : ¬ Letter c → ¬ Digit c → ¬ Ident s := fun h1 h2 h3 => by
          have := h3.2.2 k hlt
          rw [← HCC.out] at this
          rcases this with h | h
          · exact h1 h
          · exact h2 h
        have good : (Letter c ∨ Digit c) → (k = 0 → ¬ Digit c) → OkTo s (k + 1) := fun h1 h2 => HK.out.step (by rw [← HCC.out]; exact h1) (fun e => by subst e; rw [← HCC.out]; exact h2 rfl)
        have HB : Hid (¬ Letter c → ¬ Digit c → ¬ Ident s) := bad
        have HGd : Hid ((Letter c ∨ Digit c) → (k = 0 → ¬ Digit c) → OkTo s (k + 1)) := good
        clear bad good
        by_cases hu : c = 95
        · subst hu
          go_wp2
          go_round
          case rel => exact ⟨k + 1, by omega, by go_num, HGd.out (by simp [Letter]) (by simp [Digit])⟩
          case measure => simp [intOf]; omega
        · have hqu : (c == 95) = false := beq_eq_false_iff_ne.2 hu
          have HU : Hid (¬ c = 95) := hu
          clear hu
          rcases (show c < 48 ∨ (48 ≤ c ∧ c ≤ 57) ∨ (57 < c ∧ c < 65) ∨ (65 ≤ c ∧ c ≤ 90) ∨ (90 < c ∧ c < 97) ∨ (97 ≤ c ∧ c ≤ 122) ∨ 122 < c from by omega) with h | ⟨h, h'⟩ | ⟨h, h'⟩ | ⟨h, h'⟩ | ⟨h, h'⟩ | ⟨h, h'⟩ | h
          · go_wp2
            go_ret
            exact ⟨Answers.mk _ (by simp; exact HB.out (by unfold Letter; have := HU.out; omega) (by unfold Digit; omega)), hb1⟩
          · rcases (show k = 0 ∨ 0 < k from by omega) with rfl | hk0
            · go_wp2
              go_ret
              exact ⟨Answers.mk _ (by simp; exact fun hid => hid.2.1 (by rw [← HCC.out]; exact ⟨h, h'⟩)), hb1⟩
            · have hqk : ((k : Int) == 0) = false := beq_eq_false_iff_ne.2 (by omega)
              go_wp2
              go_round
              case rel => exact ⟨k + 1, by omega, by go_num, HGd.out (.inr ⟨h, h'⟩) (fun e => absurd e (by omega))⟩
              case measure => simp [intOf]; omega
          · go_wp2
            go_ret
            exact ⟨Answers.mk _ (by simp; exact HB.out (by unfold Letter; have := HU.out; omega) (by unfold Digit; omega)), hb1⟩
          · go_wp2
            go_round
            case rel => exact ⟨k + 1, by omega, by go_num, HGd.out (.inl (.inr (.inr ⟨h, h'⟩))) (fun _ => by unfold Digit; omega)⟩
            case measure => simp [intOf]; omega
          · have d90 : decide (c ≤ 90) = false := by simp; omega
            go_wp2
            go_ret
            exact ⟨Answers.mk _ (by simp; exact HB.out (by unfold Letter; have := HU.out; omega) (by unfold Digit; omega)), hb1⟩
          · go_wp2
            go_round
            case rel => exact ⟨k + 1, by omega, by go_num, HGd.out (.inl (.inr (.inl ⟨h, h'⟩))) (fun _ => by unfold Digit; omega)⟩
            case measure => simp [intOf]; omega
          · have d90 : decide (c ≤ 90) = false := by simp; omega
            have d122 : decide (c ≤ 122) = false := by simp; omega
            go_wp2
            go_ret
            exact ⟨Answers.mk _ (by simp; exact HB.out (by unfold Letter; have := HU.out; omega) (by unfold Digit; omega)), hb1⟩
      · obtain rfl : k = s.size := by omega
        clear hcell
        go_wp2
        go_ret
        exact ⟨Answers.mk _ (by simp; exact HK.out.done (by omega)), hb1⟩
end Go.Proofs.Qxb6603839aMods
