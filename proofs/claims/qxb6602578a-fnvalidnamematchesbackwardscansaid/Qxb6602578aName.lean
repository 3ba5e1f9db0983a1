/- The walks of isTailByte, modelName, validName. -/
import Derived.Test.Qxb6602578aRows
import Derived.WalkKit
import Derived.WalkSpells
import Derived.WalkLawsBesides
namespace Go.Proofs.Qxb6602578a
open Go.RowKit

def bAt (s : ByteArray) (k : Nat) : Int := if h : k < s.size then (s[k].toNat : Int) else 0
theorem bAt_lt {s : ByteArray} {k : Nat} (h : k < s.size) : (s[k].toNat : Int) = bAt s k := by simp [bAt, h]
theorem byte_bd (c : UInt8) : (0 : Int) ≤ (c.toNat : Int) ∧ (c.toNat : Int) ≤ 255 := ⟨by omega, by have := UInt8.toNat_lt c; omega⟩
def Low (c : Int) : Prop := 97 ≤ c ∧ c ≤ 122
def Tail (c : Int) : Prop := (97 ≤ c ∧ c ≤ 122) ∨ (48 ≤ c ∧ c ≤ 57) ∨ c = 95
/-- the names -/
def Good (s : ByteArray) : Prop := 0 < s.size ∧ Low (bAt s 0) ∧ ∀ k, k < s.size → Tail (bAt s k)
theorem not_good {s : ByteArray} {j : Nat} (hj : j < s.size) (h : ¬ Tail (bAt s j)) : false = true ↔ Good s := ⟨(fun h => by cases h), (fun g => absurd (g.2.2 j hj) h)⟩
def RetB (Q : Bool → Prop) (e : Ending) : Prop := ∃ b : Bool, e = .returned (.bool b) ∧ Q b

set_option maxHeartbeats 400000 in
theorem tail_any (c : Int) (w : World) (h0 : 0 ≤ c) (h1 : c ≤ 255) :
    Calls Try.prog 10 #[.int .u8 c] w fun e w' => RetB (fun b => b = true ↔ Tail c) e ∧ w' = w := by
  by_cases c1 : 97 ≤ c
  · go_enter Try.func10, Try.ntmps10
    go_wp2
    all_goals go_ret
    all_goals exact ⟨⟨_, rfl, by unfold Tail; simp; omega⟩, rfl⟩
  · go_enter Try.func10, Try.ntmps10
    go_wp2
    all_goals go_ret
    all_goals exact ⟨⟨_, rfl, by unfold Tail; simp; omega⟩, rfl⟩

def MInv (s : ByteArray) (v : Value) : Prop := ∃ (k : Nat) (x : Int), v = .int .i64 x ∧ x = k ∧ k ≤ s.size ∧ ∀ j, k ≤ j → j < s.size → Tail (bAt s j)

set_option maxHeartbeats 800000 in
theorem model_any (s : ByteArray) (w : World) (hs : s.size ≤ maxLen) :
    Calls Try.prog 7 #[.string s] w fun e w' => RetB (fun b => b = true ↔ Good s) e ∧ w' = w := by
  unfold maxLen at hs
  go_enter Try.func7, Try.ntmps7
  go_wp2
  go_loop [3] (fun v => MInv s v) (fun v => (intOf v).toNat)
  case atStart => exact ⟨s.size, _, rfl, rfl, Nat.le_refl _, fun j a b => by omega⟩
  case round =>
    obtain ⟨k, x, rfl, hx, hk, ht⟩ := hrel
    have HT : Hid (∀ j, k ≤ j → j < s.size → Tail (bAt s j)) := ht
    clear ht
    cases k with
    | zero =>
      obtain rfl : x = 0 := by omega
      clear hx
      by_cases h0 : 0 < s.size
      · have HB : Hid ((s[0].toNat : Int) = bAt s 0) := bAt_lt h0
        obtain ⟨b0, b1⟩ := byte_bd s[0]
        go_wp2
        go_ret
        refine ⟨⟨_, rfl, ?_⟩, rfl⟩
        have hlow : Low (bAt s 0) ↔ ((s[0].toNat : Int) - 97) % 256 < 26 := by unfold Low; rw [← HB.out]; omega
        show decide _ = true ↔ Good s
        rw [decide_eq_true_eq, ← hlow]
        exact ⟨(fun h => ⟨h0, h, fun i hi => HT.out i (Nat.zero_le _) hi⟩), (fun g => g.2.1)⟩
      · go_wp2
        go_ret
        exact ⟨⟨false, rfl, by unfold Good; simp; omega⟩, rfl⟩
    | succ j =>
      obtain rfl : x = (j : Int) + 1 := by omega
      have hj : j < s.size := by omega
      have HB : Hid ((s[j].toNat : Int) = bAt s j) := bAt_lt hj
      obtain ⟨b0, b1⟩ := byte_bd s[j]
      clear hx
      go_wp2_with fail
      refine (tail_any _ _ b0 b1).mono ?_
      rintro e w' ⟨⟨b, rfl, hb⟩, rfl⟩
      cases b with
      | true =>
        have HB2 : Hid (Tail (s[j].toNat : Int)) := hb.1 rfl
        clear hb
        go_wp2
        go_round
        case rel =>
          refine ⟨j, _, rfl, by omega, by omega, fun i a b => ?_⟩
          by_cases e : i = j
          · subst e; rw [← HB.out]; exact HB2.out
          · exact HT.out i (by omega) b
        case measure => simp [intOf] <;> omega
      | false =>
        have HB2 : Hid (¬ Tail (s[j].toNat : Int)) := fun h => by cases hb.2 h
        clear hb
        go_wp2
        go_ret
        exact ⟨⟨false, rfl, not_good hj (by rw [← HB.out]; exact HB2.out)⟩, rfl⟩

theorem empty_iff (s : ByteArray) : s.toList.isEmpty = decide (s.size = 0) := by
  rw [ByteArray.toList_eq, Bool.eq_iff_iff, List.isEmpty_iff, decide_eq_true_eq, ← List.length_eq_zero_iff]
  show s.data.toList.length = 0 ↔ s.data.size = 0
  simp

def VInv (s : ByteArray) (v : Value) : Prop := ∃ k : Nat, v = .int .i64 k ∧ 1 ≤ k ∧ k ≤ s.size ∧ ∀ j, 1 ≤ j → j < k → Tail (bAt s j)

theorem vstep {s : ByteArray} {k : Nat} (h1 : 1 ≤ k) (hk : k < s.size) (ht : ∀ j, 1 ≤ j → j < k → Tail (bAt s j)) (h : Tail (bAt s k)) : VInv s (.int .i64 ((k : Int) + 1)) := by
  refine ⟨k + 1, by go_num, by omega, by omega, fun j a b => ?_⟩
  by_cases e : j = k
  · subst e; exact h
  · exact ht j a (by omega)

set_option maxHeartbeats 1600000 in
theorem valid_any (s : ByteArray) (w : World) (hs : s.size ≤ maxLen) :
    Calls Try.prog 9 #[.string s] w fun e w' => RetB (fun b => b = true ↔ Good s) e ∧ w' = w := by
  unfold maxLen at hs
  by_cases h0 : s.size = 0
  · have he : s.toList.isEmpty = true := by rw [empty_iff]; simpa using h0
    go_enter Try.func9, Try.ntmps9
    go_wp2
    go_ret
    exact ⟨⟨false, rfl, by unfold Good; simp; omega⟩, rfl⟩
  · have he : s.toList.isEmpty = false := by rw [empty_iff]; simpa using h0
    have hp : 0 < s.size := by omega
    have HB0 : Hid ((s[0].toNat : Int) = bAt s 0) := bAt_lt hp
    by_cases h1 : (s[0].toNat : Int) < 97
    · go_enter Try.func9, Try.ntmps9
      go_wp2
      go_ret
      exact ⟨⟨false, rfl, by unfold Good Low; rw [← HB0.out]; simp; omega⟩, rfl⟩
    · by_cases h2 : 122 < (s[0].toNat : Int)
      · go_enter Try.func9, Try.ntmps9
        go_wp2
        go_ret
        exact ⟨⟨false, rfl, by unfold Good Low; rw [← HB0.out]; simp; omega⟩, rfl⟩
      · go_enter Try.func9, Try.ntmps9
        go_wp2
        go_loop [3] (fun v => VInv s v) (fun v => s.size - (intOf v).toNat)
        case atStart => exact ⟨1, rfl, by omega, by omega, fun j a b => by omega⟩
        case round =>
          obtain ⟨k, rfl, hk1, hk2, ht⟩ := hrel
          have HT : Hid (∀ j, 1 ≤ j → j < k → Tail (bAt s j)) := ht
          clear ht
          by_cases hlt : k < s.size
          · have HB : Hid ((s[k].toNat : Int) = bAt s k) := bAt_lt hlt
            by_cases c1 : (s[k].toNat : Int) < 97
            · by_cases c2 : (s[k].toNat : Int) < 48
              · go_wp2
                go_ret
                exact ⟨⟨false, rfl, not_good hlt (by rw [← HB.out]; unfold Tail; omega)⟩, rfl⟩
              · by_cases c3 : 57 < (s[k].toNat : Int)
                · by_cases c4 : (s[k].toNat : Int) = 95
                  · go_wp2
                    go_round
                    case rel => exact vstep hk1 hlt HT.out (by rw [← HB.out]; unfold Tail; omega)
                    case measure => simp [intOf] <;> omega
                  · go_wp2
                    go_ret
                    exact ⟨⟨false, rfl, not_good hlt (by rw [← HB.out]; unfold Tail; omega)⟩, rfl⟩
                · go_wp2
                  go_round
                  case rel => exact vstep hk1 hlt HT.out (by rw [← HB.out]; unfold Tail; omega)
                  case measure => simp [intOf] <;> omega
            · by_cases c5 : 122 < (s[k].toNat : Int)
              · have c6 : ¬ (s[k].toNat : Int) < 48 := by omega
                have c7 : 57 < (s[k].toNat : Int) := by omega
                have c8 : ¬ (s[k].toNat : Int) = 95 := by omega
                go_wp2
                go_ret
                exact ⟨⟨false, rfl, not_good hlt (by rw [← HB.out]; unfold Tail; omega)⟩, rfl⟩
              · go_wp2
                go_round
                case rel => exact vstep hk1 hlt HT.out (by rw [← HB.out]; unfold Tail; omega)
                case measure => simp [intOf] <;> omega
          · have HG : Hid (Good s) := ⟨hp, by unfold Low; rw [← HB0.out]; omega, fun i hi => by
              by_cases e : i = 0
              · subst e; unfold Tail; rw [← HB0.out]; omega
              · exact HT.out i (by omega) (by omega)⟩
            go_wp2
            go_ret
            exact ⟨⟨true, rfl, by simp; exact HG.out⟩, rfl⟩
end Go.Proofs.Qxb6602578a
