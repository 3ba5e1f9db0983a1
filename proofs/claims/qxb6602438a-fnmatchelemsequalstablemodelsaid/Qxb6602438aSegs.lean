/- Segments and elements as they lie in memory; the walks that only read them: stringsBytes, segBytes, segsOK, zzBytes. -/
import Derived.Test.Qxb6602438aOpen
namespace Go.Proofs.Qxb6602438a
open Go.RowKit

structure Sg where
  ds : Bool
  lit : ByteArray
  ga : Option Addr
  glen : Nat
  gcap : Nat
  T : Nat → Tk
  W : Nat → Nat → Nat

/-- the segments lie where the slice leads -/
def SegRow (w : World) (a : Option Addr) (len : Nat) (S : Nat → Sg) : Prop :=
  ∀ i, i < len → ∃ b off, a = some ⟨b, off, none⟩ ∧ w.cell? ⟨b, off + i * 3, none⟩ = some (.bool (S i).ds) ∧ w.cell? ⟨b, off + i * 3 + 1, none⟩ = some (.string (S i).lit) ∧
    w.cell? ⟨b, off + i * 3 + 2, none⟩ = some (.slice (S i).ga (S i).glen (S i).gcap)

/-- a segment's glob, as it came in -/
structure GlobIn (w : World) (s : Sg) : Prop where
  len : s.glen ≤ maxLen
  nil : s.ga = none → s.glen = 0
  row : TokRow w s.ga s.glen s.T
  txt : ∀ i, i < s.glen → (s.T i).text.size ≤ maxLen
  set : ∀ i, i < s.glen → SetOr w (s.T i).set (s.W i)

/-- the elements lie where the slice leads -/
def ElemRow (w : World) (a : Option Addr) (len : Nat) (E : Nat → ByteArray) : Prop :=
  ∀ i, i < len → ∃ b off, a = some ⟨b, off, none⟩ ∧ w.cell? ⟨b, off + i, none⟩ = some (.string (E i))

set_option maxHeartbeats 1000000 in
theorem stringsBytes_any (x0 : Int) (a : Option Addr) (len cap : Nat) (E : Nat → ByteArray) (w : World) (hx : 0 ≤ x0) (hx2 : x0 ≤ 2097152) (hl : len ≤ maxLen) (hT : ElemRow w a len E) :
    Calls Try.prog 21 #[.int .i64 x0, .slice a len cap] w fun e w' => RetI (fun z => 0 ≤ z ∧ z ≤ 2097152) e ∧ w' = w := by
  unfold maxLen at hl
  by_cases hbig : (1048576 : Int) < (len : Int)
  · go_enter Try.func21, Try.ntmps21
    go_wp2
    go_ret
    exact ⟨⟨1048577, rfl, by omega⟩, rfl⟩
  · go_enter Try.func21, Try.ntmps21
    go_wp2
    go_loop [0, 5] (fun t i => BInv len t i) (fun _ i => len - (intOf i).toNat)
    case atStart => exact ⟨0, x0, Nat.zero_le _, hx, hx2, rfl, rfl⟩
    case round =>
      obtain ⟨k, x, hk, hx0, hx3, rfl, rfl⟩ := hrel
      by_cases hlt : k < len
      · obtain ⟨b, off, rfl, c0⟩ := hT k hlt
        clear hT
        by_cases hxl : x ≤ 1048576
        · go_wp2_with fail
          refine (addBytes_any _ _ _ hx0).mono ?_
          rintro e w' ⟨⟨x1, rfl, g1, g2⟩, rfl⟩
          go_wp2_with fail
          refine (addBytes_any _ _ _ g1).mono ?_
          rintro e w' ⟨⟨x2, rfl, g3, g4⟩, rfl⟩
          go_wp2
          go_round
          case rel => exact ⟨k + 1, x2, by omega, g3, g4, rfl, by go_num⟩
          case measure => simp [intOf]; omega
        · go_wp2
          go_ret
          exact ⟨⟨x, rfl, hx0, hx3⟩, rfl⟩
      · go_wp2
        go_ret
        exact ⟨⟨x, rfl, hx0, hx3⟩, rfl⟩

/- globBytes answers a small number only of few tokens -/
set_option maxHeartbeats 1000000 in
theorem globBytes_few (x0 : Int) (a : Option Addr) (len cap : Nat) (T : Nat → Tk) (w : World) (hx : 0 ≤ x0) (hx2 : x0 ≤ 2097152) (hl : len ≤ maxLen) (hT : TokRow w a len T) :
    Calls Try.prog 10 #[.int .i64 x0, .slice a len cap] w fun e w' => RetI (fun z => 0 ≤ z ∧ z ≤ 2097152 ∧ (z ≤ 1048576 → len ≤ 1048576)) e ∧ w' = w := by
  by_cases hbig : (1048576 : Int) < (len : Int)
  · go_enter Try.func10, Try.ntmps10
    go_wp2
    go_ret
    exact ⟨⟨1048577, rfl, by omega⟩, rfl⟩
  · refine (globBytes_any x0 a len cap T w hx hx2 hl hT).mono ?_
    rintro e w' ⟨⟨z, rfl, z1, z2⟩, rfl⟩
    exact ⟨⟨z, rfl, z1, z2, fun _ => by omega⟩, rfl⟩

def SInv (S : Nat → Sg) (len : Nat) (t i : Value) : Prop := ∃ (k : Nat) (x : Int), k ≤ len ∧ 0 ≤ x ∧ x ≤ 2097152 ∧ (x ≤ 1048576 → ∀ j, j < k → (S j).glen ≤ 1048576) ∧ t = .int .i64 x ∧ i = .int .i64 k

set_option maxHeartbeats 2000000 in
theorem segBytes_any (x0 : Int) (a : Option Addr) (len cap : Nat) (S : Nat → Sg) (w : World) (hx : 0 ≤ x0) (hx2 : x0 ≤ 2097152) (hl : len ≤ 4096) (hT : SegRow w a len S) (hG : ∀ i, i < len → GlobIn w (S i)) :
    Calls Try.prog 20 #[.int .i64 x0, .slice a len cap] w fun e w' => RetI (fun z => z ≤ 1048576 → ∀ j, j < len → (S j).glen ≤ 1048576) e ∧ w' = w := by
  have HG := hid hG
  clear hG
  go_enter Try.func20, Try.ntmps20
  go_wp2
  go_loop [0, 5] (fun t i => SInv S len t i) (fun _ i => len - (intOf i).toNat)
  case atStart => exact ⟨0, x0, Nat.zero_le _, hx, hx2, fun _ j hj => by omega, rfl, rfl⟩
  case round =>
    obtain ⟨k, x, hk, hx0, hx3, hsm, rfl, rfl⟩ := hrel
    have HM := hid hsm
    clear hsm
    by_cases hlt : k < len
    · obtain ⟨b, off, rfl, c0, c1, c2⟩ := hT k hlt
      clear hT
      by_cases hxl : x ≤ 1048576
      · go_wp2_with fail
        refine (addBytes_any _ _ _ hx0).mono ?_
        rintro e w' ⟨⟨x1, rfl, g1, g2⟩, rfl⟩
        go_wp2_with fail
        refine (addBytes_any _ _ _ g1).mono ?_
        rintro e w' ⟨⟨x2, rfl, g3, g4⟩, rfl⟩
        go_wp2_with fail
        refine (globBytes_few _ _ _ _ (S k).T _ g3 g4 (HG.out k hlt).len (HG.out k hlt).row).mono ?_
        rintro e w' ⟨⟨x4, rfl, g5, g6, g7⟩, rfl⟩
        have HF := hid g7
        clear g7
        go_wp2
        go_round
        case rel =>
          refine ⟨k + 1, x4, by omega, g5, g6, fun h j hj => ?_, rfl, by go_num⟩
          by_cases e : j = k
          · subst e; exact HF.out h
          · exact HM.out hxl j (by omega)
        case measure => simp [intOf]; omega
      · go_wp2
        go_ret
        exact ⟨⟨x, rfl, fun h => absurd h (by omega)⟩, rfl⟩
    · go_wp2
      go_ret
      exact ⟨⟨x, rfl, fun h j hj => HM.out h j (by omega)⟩, rfl⟩

/-- every glob's oneOfSet tokens carry their sets -/
def OkAll (S : Nat → Sg) (k : Nat) : Prop := ∀ i, i < k → ∀ j, j < (S i).glen → ((S i).T j).kind = 3 → ((S i).T j).set ≠ none

set_option maxHeartbeats 1000000 in
theorem segsOK_any (a : Option Addr) (len cap : Nat) (S : Nat → Sg) (w : World) (hl : len ≤ maxLen) (hT : SegRow w a len S) (hG : ∀ i, i < len → GlobIn w (S i)) :
    Calls Try.prog 22 #[.slice a len cap] w fun e w' => RetB (fun b => b = true → OkAll S len) e ∧ w' = w := by
  unfold maxLen at hl
  have HG := hid hG
  clear hG
  go_enter Try.func22, Try.ntmps22
  go_wp2
  go_loop [3] (fun t => ∃ k : Nat, k ≤ len ∧ OkAll S k ∧ t = .int .i64 k) (fun t => len - (intOf t).toNat)
  case atStart => exact ⟨0, Nat.zero_le _, fun i h => by omega, rfl⟩
  case round =>
    obtain ⟨k, hk, hd, rfl⟩ := hrel
    have HD := hid hd
    clear hd
    by_cases hlt : k < len
    · obtain ⟨b, off, rfl, c0, c1, c2⟩ := hT k hlt
      clear hT
      go_wp2_with fail
      refine (globOK_any _ _ _ (S k).T _ (HG.out k hlt).len (HG.out k hlt).row).mono ?_
      rintro e w' ⟨⟨b1, rfl, h1⟩, rfl⟩
      have H1 := hid h1
      clear h1
      cases b1 with
      | true =>
        have H2 := hid (H1.out rfl)
        clear H1
        go_wp2
        go_round
        case rel =>
          refine ⟨k + 1, by omega, fun i hi => ?_, by go_num⟩
          by_cases e : i = k
          · subst e; exact H2.out
          · exact HD.out i (by omega)
        case measure => simp [intOf]; omega
      | false =>
        go_wp2
        go_ret
        exact ⟨⟨false, rfl, fun h => by cases h⟩, rfl⟩
    · go_wp2
      go_ret
      obtain rfl : k = len := by omega
      exact ⟨⟨true, rfl, fun _ => HD.out⟩, rfl⟩
end Go.Proofs.Qxb6602438a
