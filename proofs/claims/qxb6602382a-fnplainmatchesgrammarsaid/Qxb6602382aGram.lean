/- The plain mathematics of seat b6602382a, and the walks of isDigitByte, digitRunEnd, plainGrammar, plain. -/
import Derived.Test.Qxb6602382aRows
import Derived.WalkKit
import Derived.WalkSpells
import Derived.WalkLawsBesides
namespace Go.Proofs.Qxb6602382a
open Go.RowKit

/-- the byte at place k as a number; 0 beyond the end -/
def bAt (s : ByteArray) (k : Nat) : Int := if h : k < s.size then (s[k].toNat : Int) else 0
theorem bAt_lt {s : ByteArray} {k : Nat} (h : k < s.size) : (s[k].toNat : Int) = bAt s k := by simp [bAt, h]
def IsD (x : Int) : Prop := 48 ≤ x ∧ x ≤ 57
/-- where a run of digits that begins at i ends -/
def RunEnd (s : ByteArray) (i j : Nat) : Prop := i ≤ j ∧ j ≤ s.size ∧ (∀ k, i ≤ k → k < j → IsD (bAt s k)) ∧ (j < s.size → ¬ IsD (bAt s j))

/-- it returns a bool of which Q holds (a def, so that no simp takes it apart) -/
def RetB (Q : Bool → Prop) (e : Ending) : Prop := ∃ b : Bool, e = .returned (.bool b) ∧ Q b

set_option maxHeartbeats 400000 in
theorem isDigit_any (c : Int) (w : World) :
    Calls Try.prog 15 #[.int .u8 c] w fun e w' => RetB (fun b => b = true ↔ IsD c) e ∧ w' = w := by
  by_cases h1 : 48 ≤ c
  · by_cases h2 : c ≤ 57
    · go_enter Try.func15, Try.ntmps15
      go_wp2
      go_ret
      exact ⟨⟨true, rfl, by simp [IsD, h1, h2]⟩, rfl⟩
    · go_enter Try.func15, Try.ntmps15
      go_wp2
      go_ret
      exact ⟨⟨false, rfl, by simp [IsD, h1, h2]⟩, rfl⟩
  · go_enter Try.func15, Try.ntmps15
    go_wp2
    go_ret
    exact ⟨⟨false, rfl, by simp [IsD]; omega⟩, rfl⟩

set_option maxHeartbeats 400000 in
theorem runEnd_any (s : ByteArray) (i : Nat) (w : World) (hs : s.size ≤ maxLen) (hi : i ≤ s.size) :
    Calls Try.prog 14 #[.string s, .int .i64 i] w fun e w' => ∃ j : Nat, e = .returned (.int .i64 j) ∧ RunEnd s i j ∧ w' = w := by
  unfold maxLen at hs
  go_enter Try.func14, Try.ntmps14
  go_wp2
  go_loop [1] (fun t => ∃ k : Nat, i ≤ k ∧ k ≤ s.size ∧ (∀ x, i ≤ x → x < k → IsD (bAt s x)) ∧ t = .int .i64 k) (fun t => s.size - (intOf t).toNat)
  case atStart => exact ⟨i, Nat.le_refl _, hi, fun x a b => absurd a (by omega), rfl⟩
  case round =>
    obtain ⟨k, hk1, hk2, hd, rfl⟩ := hrel
    by_cases hlt : k < s.size
    · have hb := bAt_lt hlt
      have HB : Hid ((s[k].toNat : Int) = bAt s k) := hb
      clear hb
      go_wp2_with (go_at_call 15; refine (isDigit_any _ _).mono ?_; rintro e w' ⟨⟨b, rfl, hiff⟩, rfl⟩)
      · go_round
        case rel =>
          refine ⟨k + 1, by omega, by omega, ?_, by go_num⟩
          intro x a b
          by_cases hx : x < k
          · exact hd x a hx
          · obtain rfl : x = k := by omega
            rw [← HB.out]; simp_all
        case measure => simp [intOf]; omega
      · go_ret
        refine ⟨k, rfl, ⟨hk1, hk2, hd, fun _ => ?_⟩, rfl⟩
        rw [← HB.out]; simp_all
    · go_wp2
      go_ret
      exact ⟨k, rfl, ⟨hk1, hk2, hd, fun h => absurd h hlt⟩, rfl⟩

theorem runEnd_at (s : ByteArray) (x : Int) (i : Nat) (hx : x = i) (w : World) (hs : s.size ≤ 9223372036854775807) (hi : i ≤ s.size) :
    Calls Try.prog 14 #[.string s, .int .i64 x] w fun e w' => ∃ j : Nat, e = .returned (.int .i64 j) ∧ RunEnd s i j ∧ w' = w := by
  subst hx; exact runEnd_any s i w (by unfold maxLen; exact hs) hi

/-- where the digits begin: behind a leading minus -/
def i0 (s : ByteArray) : Nat := if bAt s 0 = 45 then 1 else 0
/-- the grammar -/
def Good (s : ByteArray) : Prop := ∃ j, RunEnd s (i0 s) j ∧ i0 s < j ∧ (j = s.size ∨ (bAt s j = 46 ∧ ∃ m, RunEnd s (j + 1) m ∧ j + 1 < m ∧ m = s.size))

theorem runEnd_uniq {s : ByteArray} {i j k : Nat} (a : RunEnd s i j) (b : RunEnd s i k) : j = k := by
  obtain ⟨a1, a2, a3, a4⟩ := a
  obtain ⟨b1, b2, b3, b4⟩ := b
  by_cases h : j < k
  · exact absurd (b3 j a1 h) (a4 (by omega))
  · by_cases h' : k < j
    · exact absurd (a3 k b1 h') (b4 (by omega))
    · omega

theorem good_iff {s : ByteArray} {i j : Nat} (hi : i0 s = i) (h : RunEnd s i j) :
    Good s ↔ i < j ∧ (j = s.size ∨ (bAt s j = 46 ∧ ∃ m, RunEnd s (j + 1) m ∧ j + 1 < m ∧ m = s.size)) := by
  subst hi
  constructor
  · rintro ⟨j', h', r⟩
    obtain rfl := runEnd_uniq h h'
    exact r
  · intro r; exact ⟨j, h, r⟩

theorem good_iff2 {s : ByteArray} {i j m : Nat} (hi : i0 s = i) (h : RunEnd s i j) (h2 : RunEnd s (j + 1) m) (hij : i < j) (hj : j < s.size) (hb : bAt s j = 46) :
    Good s ↔ j + 1 < m ∧ m = s.size := by
  rw [good_iff hi h]
  constructor
  · rintro ⟨_, r | ⟨_, m', h', r⟩⟩
    · omega
    · obtain rfl := runEnd_uniq h2 h'
      exact r
  · intro r; exact ⟨hij, Or.inr ⟨hb, m, h2, r⟩⟩

set_option maxHeartbeats 2000000 in
theorem grammar_any (s : ByteArray) (w : World) (hs : s.size ≤ maxLen) :
    Calls Try.prog 8 #[.string s] w fun e w' => RetB (fun b => b = true ↔ Good s) e ∧ w' = w := by
  unfold maxLen at hs
  by_cases h0 : 0 < s.size
  · by_cases h1 : (s[0].toNat : Int) = 45
    · have hi : Hid (i0 s = 1) := by
        show i0 s = 1
        unfold i0; rw [← bAt_lt h0, if_pos h1]
      go_enter Try.func8, Try.ntmps8
      go_wp2_with fail
      refine (runEnd_at s _ 1 rfl w hs (by omega)).mono ?_
      rintro e w' ⟨j, rfl, hr, rfl⟩
      have hij : 1 ≤ j := hr.1
      have hjs : j ≤ s.size := hr.2.1
      by_cases c1 : j ≤ 1
      · go_wp2
        go_ret
        exact ⟨⟨false, rfl, by rw [good_iff hi.out hr]; simp; omega⟩, rfl⟩
      · by_cases c2 : s.size ≤ j
        · go_wp2
          go_ret
          exact ⟨⟨true, rfl, by rw [good_iff hi.out hr]; simp; omega⟩, rfl⟩
        · have hjl : j < s.size := by omega
          have HB : Hid ((s[j].toNat : Int) = bAt s j) := bAt_lt hjl
          by_cases c3 : (s[j].toNat : Int) = 46
          · go_wp2_with fail
            refine (runEnd_at s _ (j + 1) (by omega) _ hs (by omega)).mono ?_
            rintro e w' ⟨m, rfl, hm, rfl⟩
            have hjm : j + 1 ≤ m := hm.1
            have hms : m ≤ s.size := hm.2.1
            have HG : Hid (Good s ↔ j + 1 < m ∧ m = s.size) := good_iff2 hi.out hr hm (by omega) hjl (by rw [← HB.out]; exact c3)
            by_cases c4 : m ≤ j + 1
            · go_wp2
              go_ret
              exact ⟨⟨false, rfl, by rw [HG.out]; simp; omega⟩, rfl⟩
            · go_wp2
              go_ret
              exact ⟨⟨_, rfl, by rw [HG.out]; simp; omega⟩, rfl⟩
          · go_wp2
            go_ret
            refine ⟨⟨false, rfl, ?_⟩, rfl⟩
            rw [good_iff hi.out hr, ← HB.out]
            simp [c3]; omega
    · have hi : Hid (i0 s = 0) := by
        show i0 s = 0
        unfold i0; rw [← bAt_lt h0, if_neg h1]
      go_enter Try.func8, Try.ntmps8
      go_wp2_with fail
      refine (runEnd_at s _ 0 rfl w hs (by omega)).mono ?_
      rintro e w' ⟨j, rfl, hr, rfl⟩
      have hij : 0 ≤ j := hr.1
      have hjs : j ≤ s.size := hr.2.1
      by_cases c1 : j ≤ 0
      · go_wp2
        go_ret
        exact ⟨⟨false, rfl, by rw [good_iff hi.out hr]; simp; omega⟩, rfl⟩
      · by_cases c2 : s.size ≤ j
        · go_wp2
          go_ret
          exact ⟨⟨true, rfl, by rw [good_iff hi.out hr]; simp; omega⟩, rfl⟩
        · have hjl : j < s.size := by omega
          have HB : Hid ((s[j].toNat : Int) = bAt s j) := bAt_lt hjl
          by_cases c3 : (s[j].toNat : Int) = 46
          · go_wp2_with fail
            refine (runEnd_at s _ (j + 1) (by omega) _ hs (by omega)).mono ?_
            rintro e w' ⟨m, rfl, hm, rfl⟩
            have hjm : j + 1 ≤ m := hm.1
            have hms : m ≤ s.size := hm.2.1
            have HG : Hid (Good s ↔ j + 1 < m ∧ m = s.size) := good_iff2 hi.out hr hm (by omega) hjl (by rw [← HB.out]; exact c3)
            by_cases c4 : m ≤ j + 1
            · go_wp2
              go_ret
              exact ⟨⟨false, rfl, by rw [HG.out]; simp; omega⟩, rfl⟩
            · go_wp2
              go_ret
              exact ⟨⟨_, rfl, by rw [HG.out]; simp; omega⟩, rfl⟩
          · go_wp2
            go_ret
            refine ⟨⟨false, rfl, ?_⟩, rfl⟩
            rw [good_iff hi.out hr, ← HB.out]
            simp [c3]; omega
  · have hi : Hid (i0 s = 0) := by
      show i0 s = 0
      unfold i0 bAt; simp [h0]
    go_enter Try.func8, Try.ntmps8
    go_wp2_with fail
    refine (runEnd_at s _ 0 rfl w hs (by omega)).mono ?_
    rintro e w' ⟨j, rfl, hr, rfl⟩
    have hjs : j ≤ s.size := hr.2.1
    have c1 : j ≤ 0 := by omega
    go_wp2
    go_ret
    exact ⟨⟨false, rfl, by rw [good_iff hi.out hr]; simp; omega⟩, rfl⟩

/-- where 'plain' stands at place k: no point yet, or behind its one point at j -/
def Scan (s : ByteArray) (k : Nat) (d : Int) (p : Bool) : Prop :=
  (p = false ∧ d = ((k - i0 s : Nat) : Int) ∧ ∀ x, i0 s ≤ x → x < k → IsD (bAt s x)) ∨
  (p = true ∧ ∃ j, i0 s < j ∧ j < k ∧ j + 1 < s.size ∧ bAt s j = 46 ∧ (∀ x, i0 s ≤ x → x < j → IsD (bAt s x)) ∧ (∀ x, j < x → x < k → IsD (bAt s x)) ∧ d = ((k - i0 s - 1 : Nat) : Int))

theorem i0_le (s : ByteArray) : i0 s ≤ 1 := by unfold i0; split <;> omega
theorem i0_one {s : ByteArray} (h : bAt s 0 = 45) : i0 s = 1 := by simp [i0, h]
theorem i0_of {s : ByteArray} (h : i0 s = 1) : bAt s 0 = 45 := by
  unfold i0 at h; split at h
  · assumption
  · omega
theorem i0_size {s : ByteArray} (h : i0 s = 1) : 0 < s.size := by
  have := i0_of h; unfold bAt at this; split at this <;> omega

theorem scan_bd {s : ByteArray} {k : Nat} {d : Int} {p : Bool} (h : Scan s k d p) : 0 ≤ d ∧ d ≤ k := by
  rcases h with ⟨_, h, _⟩ | ⟨_, j, _, _, _, _, _, _, h⟩ <;> omega

theorem scan0 (s : ByteArray) : Scan s 0 0 false := Or.inl ⟨rfl, by omega, fun x _ h => by omega⟩

theorem scan_digit {s : ByteArray} {k : Nat} {d : Int} {p : Bool} (h : Scan s k d p) (hd : IsD (bAt s k)) : Scan s (k + 1) (d + 1) p := by
  have hk : i0 s ≤ k := by
    have := i0_le s
    by_cases hk : k = 0
    · subst hk
      by_cases e : i0 s = 1
      · have := i0_of e; unfold IsD at hd; omega
      · omega
    · omega
  rcases h with ⟨rfl, h, a⟩ | ⟨rfl, j, h1, h2, h3, h4, h5, h6, h⟩
  · refine Or.inl ⟨rfl, by omega, fun x h1 h2 => ?_⟩
    by_cases e : x = k
    · subst e; exact hd
    · exact a x h1 (by omega)
  · refine Or.inr ⟨rfl, j, h1, by omega, h3, h4, h5, fun x g1 g2 => ?_, by omega⟩
    by_cases e : x = k
    · subst e; exact hd
    · exact h6 x g1 (by omega)

theorem scan_minus {s : ByteArray} {d : Int} {p : Bool} (h : Scan s 0 d p) (hd : bAt s 0 = 45) : Scan s 1 d p := by
  have e := i0_one hd
  rcases h with ⟨rfl, h, a⟩ | ⟨rfl, j, h1, h2, h3, h4, h5, h6, h⟩
  · exact Or.inl ⟨rfl, by omega, fun x h1 h2 => by omega⟩
  · omega

theorem scan_point {s : ByteArray} {k : Nat} {d : Int} (h : Scan s k d false) (hd : bAt s k = 46) (h0 : 0 < d) (hk : k + 1 < s.size) : Scan s (k + 1) d true := by
  rcases h with ⟨_, h, a⟩ | ⟨h, _⟩
  · exact Or.inr ⟨rfl, k, by omega, by omega, hk, hd, a, fun x h1 h2 => by omega, by omega⟩
  · cases h

/-- what the grammar asks of the first k bytes, and of the byte there -/
theorem good_at {s : ByteArray} (h : Good s) {k : Nat} (hk : k < s.size) : IsD (bAt s k) ∨ (bAt s k = 45 ∧ k = 0) ∨ bAt s k = 46 := by
  obtain ⟨j, ⟨r1, r2, r3, r4⟩, hij, h⟩ := h
  have hi := i0_le s
  by_cases c : k < j
  · by_cases c' : i0 s ≤ k
    · exact Or.inl (r3 k c' c)
    · have e : i0 s = 1 := by omega
      obtain rfl : k = 0 := by omega
      exact Or.inr (Or.inl ⟨i0_of e, rfl⟩)
  · rcases h with h | ⟨hb, m, ⟨q1, q2, q3, q4⟩, hm, he⟩
    · omega
    · by_cases e : k = j
      · subst e; exact Or.inr (Or.inr hb)
      · exact Or.inl (q3 k (by omega) (by omega))

theorem not_digit_46 {x : Int} (h : x = 46) : ¬ IsD x := by unfold IsD; omega
theorem not_digit_45 {x : Int} (h : x = 45) : ¬ IsD x := by unfold IsD; omega

/-- a point where the grammar has one: no point was there yet, digits were, and a byte follows -/
theorem good_point {s : ByteArray} (h : Good s) {k : Nat} {d : Int} {p : Bool} (hs : Scan s k d p) (hk : k < s.size) (hb : bAt s k = 46) : p = false ∧ 0 < d ∧ k + 1 < s.size := by
  obtain ⟨j, ⟨r1, r2, r3, r4⟩, hij, h⟩ := h
  have hi := i0_le s
  have hnk := not_digit_46 hb
  have hjk : j = k := by
    by_cases c : k < j
    · by_cases c' : i0 s ≤ k
      · exact absurd (r3 k c' c) hnk
      · have e : i0 s = 1 := by omega
        obtain rfl : k = 0 := by omega
        have := i0_of e; omega
    · rcases h with h | ⟨hb', m, ⟨q1, q2, q3, q4⟩, hm, he⟩
      · omega
      · by_cases c2 : j < k
        · exact absurd (q3 k (by omega) (by omega)) hnk
        · omega
  subst hjk
  rcases h with h | ⟨_, m, ⟨q1, q2, q3, q4⟩, hm, he⟩
  · omega
  · rcases hs with ⟨rfl, hd, a⟩ | ⟨rfl, j', g1, g2, g3, g4, g5, g6, g⟩
    · exact ⟨rfl, by omega, by omega⟩
    · exact absurd (r3 j' (by omega) g2) (not_digit_46 g4)

theorem scan_end {s : ByteArray} {d : Int} {p : Bool} (h : Scan s s.size d p) : 0 < d ↔ Good s := by
  have hi := i0_le s
  rcases h with ⟨rfl, hd, a⟩ | ⟨rfl, j, g1, g2, g3, g4, g5, g6, g⟩
  · constructor
    · intro h
      exact ⟨s.size, ⟨by omega, Nat.le_refl _, a, fun h => absurd h (by omega)⟩, by omega, Or.inl rfl⟩
    · rintro ⟨j, ⟨r1, r2, r3, r4⟩, hij, h⟩
      rcases h with h | ⟨hb, m, ⟨q1, q2, q3, q4⟩, hm, he⟩ <;> omega
  · constructor
    · intro h
      exact ⟨j, ⟨by omega, by omega, g5, fun _ => not_digit_46 g4⟩, g1, Or.inr ⟨g4, s.size, ⟨by omega, Nat.le_refl _, fun x a b => g6 x (by omega) b, fun h => absurd h (by omega)⟩, by omega, rfl⟩⟩
    · intro _; omega

end Go.Proofs.Qxb6602382a
