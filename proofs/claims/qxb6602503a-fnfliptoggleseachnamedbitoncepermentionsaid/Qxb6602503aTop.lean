/- The walk of the law itself. -/
import Derived.Test.Qxb6602503aFlip
namespace Go.Proofs.Qxb6602503a
open Go.RowKit

theorem make31 (n : Nat) (h : n ≤ 131072) (w : World) :
    (Instr.makeSlice 31 (.int .i64 (8 * (n : Int))) (.int .i64 (8 * (n : Int)))).run Try.prog w = .ok (.slice (some ⟨w.heap.size, 0, none⟩) (8 * n) (8 * n)) (w.alloc (.cells (madeCells #[.bool false] (8 * n)) 4)) := by
  have hr := run_make_row' (P := Try.prog) 31 4 (.bool false) 1 Try.underlying31 info4 rfl .i64 .i64 (8 * n) (by omega) (by omega) w
  have ec : ((8 * n : Nat) : Int) = 8 * (n : Int) := by omega
  rwa [ec] at hr

theorem make31_zero (w : World) :
    (Instr.makeSlice 31 (.int .i64 0) (.int .i64 0)).run Try.prog w = .ok (.slice (some ⟨w.heap.size, 0, none⟩) 0 0) (w.alloc (.cells (madeCells #[.bool false] 0) 4)) := by
  have h := make31 0 (by omega) w
  simpa using h

theorem isInts_below {k : IntKind} {w w' : World} {a : Option Addr} {n : Nat} {Z : Nat → Int} (hb : Below w.heap.size w w') (h : IsInts k w a n Z) : IsInts k w' a n Z := by
  intro i hi
  obtain ⟨b, off, e, c0⟩ := h i hi
  exact ⟨b, off, e, by rw [hb.cell (p := ⟨b, off + i, none⟩) (World.block_lt_of_cell? w _ c0)]; exact c0⟩
theorem own_ints {k : IntKind} {t : TypeId} {w : World} {lo : Nat} {a : Option Addr} {n : Nat} {Z : Nat → Int} (h : Own w lo a t n (fun i => .int k (Z i))) : IsInts k w a n Z := by
  intro i hi
  rcases h with ⟨_, h⟩ | ⟨b, e, _, hr⟩
  · omega
  · exact ⟨b, 0, e, by rw [Nat.zero_add]; exact hr.cell hi⟩
theorem own_nil {t : TypeId} {w : World} {lo : Nat} {a : Option Addr} {n : Nat} {f : Nat → Value} (h : Own w lo a t n f) : a = none → n = 0 := by
  intro e
  rcases h with ⟨_, h⟩ | ⟨b, e', _⟩
  · exact h
  · rw [e] at e'; cases e'

set_option maxHeartbeats 400000 in
theorem flip_zero (a : Option Addr) (n c : Nat) (b : Option Addr) (c2 : Nat) (w : World) :
    Calls Try.prog 12 #[.slice a n c, .slice b 0 c2] w fun e w' => e = .returned (.tuple #[]) ∧ w' = w := by
  go_enter Try.func12, Try.ntmps12
  go_wp2
  go_loop [8] (fun iv => iv = .int .i64 0) (fun _ => 0)
  case atStart => rfl
  case round =>
    subst hrel
    go_wp2
    go_end0
    exact ⟨rfl, rfl⟩

/-- the first steps of the law, whatever follows: what is known once its last test has said yes -/
structure Given (w : World) (a0 : Option Addr) (n : Nat) (Z0 : Nat → Int) (a1 : Option Addr) (m : Nat) (Z1 : Nat → Int) : Prop where
  n0 : n ≤ maxLen
  m0 : m ≤ maxLen
  b0 : IsInts .u8 w a0 n Z0
  b1 : IsInts .i64 w a1 m Z1
  nil0 : a0 = none → n = 0
  nil1 : a1 = none → m = 0
  u8 : ∀ i, 0 ≤ Z0 i ∧ Z0 i ≤ 255

set_option maxHeartbeats 4000000 in
theorem walk_zero (a0 : Option Addr) (c0 : Nat) (Z0 : Nat → Int) (a1 : Option Addr) (m c1 : Nat) (Z1 : Nat → Int) (w : World) (h : Given w a0 0 Z0 a1 m Z1) :
    Calls Try.prog 4 #[.slice a0 0 c0, .slice a1 m c1] w fun e w' => e = .returned (.bool true) ∧ Below w.heap.size w w' := by
  have H := hid h
  have hm0 : m ≤ 9223372036854775807 := by have := h.m0; unfold maxLen at this; omega
  clear h
  have hmk := make31_zero
  go_enter Try.func4, Try.ntmps4
  go_wp2_with fail
  refine (zz_any a0 0 c0 a1 m c1 w H.out.n0 H.out.m0).mono ?_
  rintro e w' ⟨⟨b1, rfl, _⟩, rfl⟩
  cases b1 with
  | false =>
    go_wp2
    go_ret
    exact ⟨rfl, Below.refl _ _⟩
  | true =>
    by_cases h2 : (65536 : Int) < (m : Int)
    · go_wp2
      go_ret
      exact ⟨rfl, Below.refl _ _⟩
    · go_wp2_with fail
      refine (range_any a1 m c1 Z1 0 w' H.out.m0 H.out.b1).mono ?_
      rintro e w' ⟨⟨b2, rfl, hr⟩, rfl⟩
      cases b2 with
      | false =>
        go_wp2
        go_ret
        exact ⟨rfl, Below.refl _ _⟩
      | true =>
        obtain rfl : m = 0 := by
          by_cases e : m = 0
          · exact e
          · have := hr rfl 0 (by omega); omega
        clear hr
        go_wp2_with fail
        refine (cloneBytes_any a0 0 c0 Z0 _ (by omega) H.out.nil0 H.out.b0).mono ?_
        rintro e w2 ⟨a2, c2, rfl, hb2, ho2⟩
        have HB2 := hid hb2
        have HO2 := hid ho2
        have HC2 := hid (cloneInts_any a1 0 c1 Z1 w2 (by omega) H.out.nil1 (isInts_below hb2 H.out.b1))
        clear hb2 ho2
        go_wp2_with fail
        refine HC2.out.mono ?_
        rintro e w3 ⟨a3, c3, rfl, hb3, ho3⟩
        have HB3 := hid hb3
        have HC3 := hid (cloneBytes_any a2 0 c2 Z0 w3 (by omega) (own_nil HO2.out) (isInts_below hb3 (own_ints HO2.out)))
        clear hb3 ho3
        go_wp2_with fail
        refine HC3.out.mono ?_
        rintro e w4 ⟨a4, c4, rfl, hb4, ho4⟩
        have HB4 := hid hb4
        clear hb4 ho4
        go_wp2_with fail
        refine (flip_zero a4 0 c4 a3 c3 w4).mono ?_
        rintro e w5 ⟨rfl, rfl⟩
        go_wp2
        go_loop [8] (fun iv => iv = .int .i64 0) (fun _ => 0)
        case atStart => rfl
        case round =>
          subst hrel
          go_wp2
          go_loop [10] (fun iv => iv = .int .i64 0) (fun _ => 0)
          case atStart => rfl
          case round =>
            subst hrel
            go_wp2
            go_ret
            exact ⟨rfl, (HB2.out.trans ((HB3.out.trans (HB4.out.mono HB3.out.size)).mono HB2.out.size)).alloc (Nat.le_trans HB2.out.size (Nat.le_trans HB3.out.size HB4.out.size)) _⟩
end Go.Proofs.Qxb6602503a
