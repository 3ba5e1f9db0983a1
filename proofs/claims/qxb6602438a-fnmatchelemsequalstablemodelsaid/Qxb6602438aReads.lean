/- The walks of the functions that only read: addBytes, globBytes, globOK, zzBytes. -/
import Derived.Test.Qxb6602438aRows
import Derived.WalkKit
import Derived.WalkSpells
import Derived.WalkLawsBesides
namespace Go.Proofs.Qxb6602438a
open Go.RowKit

structure Tk where
  kind : Int
  text : ByteArray
  set : Option Addr

/-- the tokens T lie where the slice leads -/
def TokRow (w : World) (a : Option Addr) (len : Nat) (T : Nat → Tk) : Prop :=
  ∀ i, i < len → ∃ b off, a = some ⟨b, off, none⟩ ∧ w.cell? ⟨b, off + i * 3, none⟩ = some (.int .u8 (T i).kind) ∧ w.cell? ⟨b, off + i * 3 + 1, none⟩ = some (.string (T i).text) ∧
    w.cell? ⟨b, off + i * 3 + 2, none⟩ = some (.pointer (T i).set)

/-- it returns a bool of which Q holds (a def, so that no simp takes it apart) -/
def RetB (Q : Bool → Prop) (e : Ending) : Prop := ∃ b : Bool, e = .returned (.bool b) ∧ Q b
def RetI (Q : Int → Prop) (e : Ending) : Prop := ∃ x : Int, e = .returned (.int .i64 x) ∧ Q x

set_option maxHeartbeats 400000 in
theorem globOK_any (a : Option Addr) (len cap : Nat) (T : Nat → Tk) (w : World) (hl : len ≤ maxLen) (hT : TokRow w a len T) :
    Calls Try.prog 11 #[.slice a len cap] w fun e w' => RetB (fun b => b = true → ∀ i, i < len → (T i).kind = 3 → (T i).set ≠ none) e ∧ w' = w := by
  unfold maxLen at hl
  go_enter Try.func11, Try.ntmps11
  go_wp2
  go_loop [3] (fun t => ∃ k : Nat, k ≤ len ∧ (∀ i, i < k → (T i).kind = 3 → (T i).set ≠ none) ∧ t = .int .i64 k) (fun t => len - (intOf t).toNat)
  case atStart => exact ⟨0, Nat.zero_le _, fun i h => by omega, rfl⟩
  case round =>
    obtain ⟨k, hk, hd, rfl⟩ := hrel
    by_cases hlt : k < len
    · obtain ⟨b, off, rfl, c0, c1, c2⟩ := hT k hlt
      have HT : Hid (TokRow w (some ⟨b, off, none⟩) len T) := hT
      clear hT
      have HD : Hid (∀ i, i < k → (T i).kind = 3 → (T i).set ≠ none) := hd
      clear hd
      by_cases hk3 : (T k).kind = 3
      · cases hset : (T k).set with
        | none =>
          rw [hset] at c2
          go_wp2
          go_ret
          exact ⟨⟨false, rfl, fun h => by cases h⟩, rfl⟩
        | some s0 =>
          rw [hset] at c2
          have HS : Hid ((T k).set = some s0) := hset
          clear hset
          go_wp2
          go_round
          case rel =>
            refine ⟨k + 1, by omega, fun i hi h3 => ?_, by go_num⟩
            by_cases e : i = k
            · subst e; rw [HS.out]; simp
            · exact HD.out i (by omega) h3
          case measure => simp [intOf]; omega
      · go_wp2
        go_round
        case rel =>
          refine ⟨k + 1, by omega, fun i hi h3 => ?_, by go_num⟩
          by_cases e : i = k
          · subst e; exact absurd h3 hk3
          · exact HD.out i (by omega) h3
        case measure => simp [intOf]; omega
    · go_wp2
      go_ret
      exact ⟨⟨true, rfl, fun _ i hi => hd i (by omega)⟩, rfl⟩

set_option maxHeartbeats 400000 in
theorem addBytes_any (x y : Int) (w : World) (hx : 0 ≤ x) :
    Calls Try.prog 31 #[.int .i64 x, .int .i64 y] w fun e w' => RetI (fun z => 0 ≤ z ∧ z ≤ 2097152) e ∧ w' = w := by
  by_cases h1 : 1048576 < x
  · go_enter Try.func31, Try.ntmps31
    go_wp2
    go_ret
    exact ⟨⟨1048577, rfl, by omega⟩, rfl⟩
  · by_cases h2 : y < 0
    · go_enter Try.func31, Try.ntmps31
      go_wp2
      go_ret
      exact ⟨⟨1048577, rfl, by omega⟩, rfl⟩
    · by_cases h3 : 1048576 < y
      · go_enter Try.func31, Try.ntmps31
        go_wp2
        go_ret
        exact ⟨⟨1048577, rfl, by omega⟩, rfl⟩
      · go_enter Try.func31, Try.ntmps31
        go_wp2
        go_ret
        exact ⟨⟨x + y, rfl, by omega⟩, rfl⟩

def BInv (len : Nat) (t i : Value) : Prop := ∃ (k : Nat) (x : Int), k ≤ len ∧ 0 ≤ x ∧ x ≤ 2097152 ∧ t = .int .i64 x ∧ i = .int .i64 k

set_option maxHeartbeats 1000000 in
theorem globBytes_any (x0 : Int) (a : Option Addr) (len cap : Nat) (T : Nat → Tk) (w : World) (hx : 0 ≤ x0) (hx2 : x0 ≤ 2097152) (hl : len ≤ maxLen) (hT : TokRow w a len T) :
    Calls Try.prog 10 #[.int .i64 x0, .slice a len cap] w fun e w' => RetI (fun z => 0 ≤ z ∧ z ≤ 2097152) e ∧ w' = w := by
  unfold maxLen at hl
  by_cases hbig : (1048576 : Int) < (len : Int)
  · go_enter Try.func10, Try.ntmps10
    go_wp2
    go_ret
    exact ⟨⟨1048577, rfl, by omega⟩, rfl⟩
  · go_enter Try.func10, Try.ntmps10
    go_wp2
    go_loop [0, 5] (fun t i => BInv len t i) (fun _ i => len - (intOf i).toNat)
    case atStart => exact ⟨0, x0, Nat.zero_le _, hx, hx2, rfl, rfl⟩
    case round =>
      obtain ⟨k, x, hk, hx0, hx3, rfl, rfl⟩ := hrel
      by_cases hlt : k < len
      · obtain ⟨b, off, rfl, c0, c1, c2⟩ := hT k hlt
        clear hT
        by_cases hxl : x ≤ 1048576
        · go_wp2_with fail
          refine (addBytes_any _ _ _ hx0).mono ?_
          rintro e w' ⟨⟨x1, rfl, g1, g2⟩, rfl⟩
          go_wp2_with fail
          refine (addBytes_any _ _ _ g1).mono ?_
          rintro e w' ⟨⟨x2, rfl, g3, g4⟩, rfl⟩
          cases hset : (T k).set with
          | none =>
            rw [hset] at c2
            clear hset
            go_wp2
            go_round
            case rel => exact ⟨k + 1, x2, by omega, g3, g4, rfl, by go_num⟩
            case measure => simp [intOf]; omega
          | some s0 =>
            rw [hset] at c2
            clear hset
            go_wp2_with fail
            refine (addBytes_any _ _ _ g3).mono ?_
            rintro e w' ⟨⟨x4, rfl, g5, g6⟩, rfl⟩
            go_wp2
            go_round
            case rel => exact ⟨k + 1, x4, by omega, g5, g6, rfl, by go_num⟩
            case measure => simp [intOf]; omega
        · go_wp2
          go_ret
          exact ⟨⟨x, rfl, hx0, hx3⟩, rfl⟩
      · go_wp2
        go_ret
        exact ⟨⟨x, rfl, hx0, hx3⟩, rfl⟩

def ZInv (len : Nat) (t i : Value) : Prop := ∃ (k : Nat) (x : Int), k ≤ len ∧ 0 ≤ x ∧ x ≤ 1048576 ∧ t = .int .i64 x ∧ i = .int .i64 k

set_option maxHeartbeats 1000000 in
theorem zzBytes_any (a : Option Addr) (len cap : Nat) (T : Nat → Tk) (s : ByteArray) (w : World) (hl : len ≤ maxLen) (hT : TokRow w a len T) :
    Calls Try.prog 9 #[.slice a len cap, .string s] w fun e w' => RetB (fun _ => True) e ∧ w' = w := by
  unfold maxLen at hl
  by_cases hbig : (1048576 : Int) < (len : Int)
  · go_enter Try.func9, Try.ntmps9
    go_wp2
    go_ret
    exact ⟨⟨false, rfl, trivial⟩, rfl⟩
  · go_enter Try.func9, Try.ntmps9
    go_wp2
    go_loop [5, 6] (fun t i => ZInv len t i) (fun _ i => len - (intOf i).toNat)
    case atStart => exact ⟨0, len, Nat.zero_le _, by omega, by omega, rfl, rfl⟩
    case round =>
      obtain ⟨k, x, hk, hx0, hx3, rfl, rfl⟩ := hrel
      by_cases hlt : k < len
      · obtain ⟨b, off, rfl, c0, c1, c2⟩ := hT k hlt
        clear hT
        by_cases hxl : (1048576 : Int) < ((T k).text.size : Int)
        · go_wp2
          go_ret
          exact ⟨⟨false, rfl, trivial⟩, rfl⟩
        · by_cases hx4 : 1048576 < x + ((T k).text.size : Int)
          · go_wp2
            go_ret
            exact ⟨⟨false, rfl, trivial⟩, rfl⟩
          · go_wp2
            go_round
            case rel => exact ⟨k + 1, x + ((T k).text.size : Int), by omega, by omega, by omega, rfl, by go_num⟩
            case measure => simp [intOf]; omega
      · by_cases hxl : (1048576 : Int) < (s.size : Int)
        · go_wp2
          go_ret
          exact ⟨⟨false, rfl, trivial⟩, rfl⟩
        · by_cases hx4 : 1048576 < x + (s.size : Int)
          · go_wp2
            go_ret
            exact ⟨⟨false, rfl, trivial⟩, rfl⟩
          · go_wp2
            go_ret
            exact ⟨⟨true, rfl, trivial⟩, rfl⟩
end Go.Proofs.Qxb6602438a
