/- The walk of num.plain. -/
import Derived.Test.Qxb6602382aGram
namespace Go.Proofs.Qxb6602382a
open Go.RowKit

def Inv (s : ByteArray) (d p i : Value) : Prop := ∃ (k : Nat) (dd : Int) (pp : Bool), k ≤ s.size ∧ Scan s k dd pp ∧ d = .int .i64 dd ∧ p = .bool pp ∧ i = .int .i64 k

theorem not_good_default {s : ByteArray} {k : Nat} {d : Int} {p : Bool} (hs : Scan s k d p) (hk : k < s.size) (h1 : ¬ IsD (bAt s k)) (h2 : ¬ (bAt s k = 45 ∧ k = 0)) (h3 : ¬ (bAt s k = 46 ∧ p = false ∧ 0 < d ∧ k + 1 < s.size)) : false = true ↔ Good s := by
  constructor
  · intro h; cases h
  · intro h
    rcases good_at h hk with g | g | g
    · exact absurd g h1
    · exact absurd g h2
    · exact absurd ⟨g, good_point h hs hk g⟩ h3

set_option maxHeartbeats 4000000 in
theorem plain_any (s : ByteArray) (w : World) (hs : s.size ≤ maxLen) :
    Calls Try.prog 13 #[.string s] w fun e w' => RetB (fun b => b = true ↔ Good s) e ∧ w' = w := by
  unfold maxLen at hs
  go_enter Try.func13, Try.ntmps13
  go_wp2
  go_loop [3, 4, 5] (fun d p i => Inv s d p i) (fun _ _ i => s.size - (intOf i).toNat)
  case atStart => exact ⟨0, 0, false, Nat.zero_le _, scan0 s, rfl, rfl, rfl⟩
  case round =>
    obtain ⟨k, dd, pp, hk, hsc, rfl, rfl, rfl⟩ := hrel
    obtain ⟨hd0, hdk⟩ := scan_bd hsc
    by_cases hlt : k < s.size
    · have HB : Hid ((s[k].toNat : Int) = bAt s k) := bAt_lt hlt
      by_cases c1 : 48 ≤ (s[k].toNat : Int) ∧ (s[k].toNat : Int) ≤ 57
      · obtain ⟨c1a, c1b⟩ := c1
        go_wp2
        go_round
        case rel => exact ⟨k + 1, dd + 1, pp, by omega, scan_digit hsc (by rw [← HB.out]; exact ⟨c1a, c1b⟩), rfl, rfl, by go_num⟩
        case measure => simp [intOf]; omega
      · by_cases c2 : (s[k].toNat : Int) = 45
        · by_cases c3 : k = 0
          · subst c3
            go_wp2
            go_round
            case rel => exact ⟨1, dd, pp, by omega, scan_minus hsc (by rw [← HB.out]; exact c2), rfl, rfl, by go_num⟩
            case measure => simp [intOf]; omega
          · have c3' : ((k : Int) == 0) = false := by simp; omega
            go_wp2
            go_ret
            exact ⟨⟨false, rfl, not_good_default hsc hlt (by rw [← HB.out]; unfold IsD; omega) (by rw [← HB.out]; omega) (by rw [← HB.out]; simp; omega)⟩, rfl⟩
        · by_cases c4 : (s[k].toNat : Int) = 46
          · cases pp
            · by_cases c5 : 0 < dd
              · by_cases c6 : (k : Int) < (s.size : Int) - 1
                · go_wp2
                  go_round
                  case rel => exact ⟨k + 1, dd, true, by omega, scan_point hsc (by rw [← HB.out]; exact c4) c5 (by omega), rfl, rfl, by go_num⟩
                  case measure => simp [intOf]; omega
                · go_wp2
                  go_ret
                  exact ⟨⟨false, rfl, not_good_default hsc hlt (by rw [← HB.out]; unfold IsD; omega) (by rw [← HB.out]; omega) (by rw [← HB.out]; simp; omega)⟩, rfl⟩
              · go_wp2
                go_ret
                exact ⟨⟨false, rfl, not_good_default hsc hlt (by rw [← HB.out]; unfold IsD; omega) (by rw [← HB.out]; omega) (by rw [← HB.out]; simp; omega)⟩, rfl⟩
            · go_wp2
              go_ret
              exact ⟨⟨false, rfl, not_good_default hsc hlt (by rw [← HB.out]; unfold IsD; omega) (by rw [← HB.out]; omega) (by rw [← HB.out]; simp)⟩, rfl⟩
          · by_cases c7 : (s[k].toNat : Int) < 48
            · go_wp2
              go_ret
              exact ⟨⟨false, rfl, not_good_default hsc hlt (by rw [← HB.out]; unfold IsD; omega) (by rw [← HB.out]; omega) (by rw [← HB.out]; simp; omega)⟩, rfl⟩
            · have c8 : 57 < (s[k].toNat : Int) := by omega
              go_wp2
              go_ret
              exact ⟨⟨false, rfl, not_good_default hsc hlt (by rw [← HB.out]; unfold IsD; omega) (by rw [← HB.out]; omega) (by rw [← HB.out]; simp; omega)⟩, rfl⟩
    · go_wp2
      go_ret
      obtain rfl : k = s.size := by omega
      exact ⟨⟨_, rfl, by simp; exact scan_end hsc⟩, rfl⟩
end Go.Proofs.Qxb6602382a
