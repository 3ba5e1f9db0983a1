/- The walk of the law where the block holds a byte. -/
import Derived.Test.Qxb6602503aTop
namespace Go.Proofs.Qxb6602503a
open Go.RowKit

theorem bit_u8 (x s : Nat) (hx : x < 256) : (bits BinOp.and IntKind.u8 ((x : Int) / 2 ^ s) 1 == 1) = bit x s := by
  have hd : x / 2 ^ s < 256 := Nat.lt_of_le_of_lt (Nat.div_le_self _ _) hx
  have e : ((x : Int) / 2 ^ s) = ((x / 2 ^ s : Nat) : Int) := by simp
  have h := u8_and_nat (x / 2 ^ s) 1 hd (by omega)
  rw [nat_mask1] at h
  rw [e]
  have e1 : ((1 : Nat) : Int) = 1 := rfl
  rw [e1] at h
  unfold bit
  rw [h, Bool.eq_iff_iff]
  simp only [beq_iff_eq, decide_eq_true_eq]
  omega

/-- what the two last loops read -/
structure Ready (w : World) (bb gb n : Nat) (a3 : Option Addr) (m : Nat) (B F : Nat → Nat) : Prop where
  block : w.rowIs bb 5 n (fun q => .int .u8 (B q : Nat))
  got : w.rowIs gb 5 n (fun q => .int .u8 (fl B F m q : Nat))
  flips : ∀ i, i < m → ∃ b off, a3 = some ⟨b, off, none⟩ ∧ w.cell? ⟨b, off + i, none⟩ = some (.int .i64 (F i : Nat))
  lt : ∀ i, i < m → F i < 8 * n
  u8 : ∀ q, B q < 256

theorem Ready.below {w w' : World} {bb gb n : Nat} {a3 : Option Addr} {m : Nat} {B F : Nat → Nat} (h : Ready w bb gb n a3 m B F) (hb : Below w.heap.size w w') : Ready w' bb gb n a3 m B F :=
  ⟨h.block.of_block (hb.block _ h.block.lt), h.got.of_block (hb.block _ h.got.lt), fun i hi => by
    obtain ⟨b, off, e, c⟩ := h.flips i hi
    exact ⟨b, off, e, by rw [hb.cell (p := ⟨b, off + i, none⟩) (World.block_lt_of_cell? w _ c)]; exact c⟩, h.lt, h.u8⟩

theorem below_only {B g : Nat} {w w' w'' : World} (h : Below B w w') (ho : Only g w' w'') (hg : B ≤ g) : Below B w w'' :=
  ⟨ho.os.trans h.os, ho.tape.trans h.tape, ho.output.trans h.output, Nat.le_trans h.size (Nat.le_of_eq ho.size.symm), fun k hk => (ho.block k (by omega)).trans (h.block k hk)⟩

theorem od_step {F : Nat → Nat} {w wr : World} {N k : Nat} (hb : Below w.heap.size w wr) (hf : wr.rowIs w.heap.size 4 N (fun p => .bool (od F k p))) :
    Below w.heap.size w (wr.setCell ⟨w.heap.size, F k, none⟩ (.bool (!od F k (F k)))) ∧ (wr.setCell ⟨w.heap.size, F k, none⟩ (.bool (!od F k (F k)))).rowIs w.heap.size 4 N (fun p => .bool (od F (k + 1) p)) := by
  refine ⟨hb.setCell (p := ⟨w.heap.size, F k, none⟩) (Nat.le_refl _) _, (hf.set (F k) _).congr fun p _ => ?_⟩
  by_cases e : p = F k
  · subst e; simp [od]
  · simp [od, e]

theorem no_way {x y o : Bool} (h : x = (y != o)) : (!(x == !(y == o))) = false := by subst h; cases y <;> cases o <;> rfl

set_option maxHeartbeats 8000000 in
theorem walk_pos (a0 : Option Addr) (n c0 : Nat) (Z0 : Nat → Int) (a1 : Option Addr) (m c1 : Nat) (Z1 : Nat → Int) (w : World) (hn : 0 < n) (h : Given w a0 n Z0 a1 m Z1) :
    Calls Try.prog 4 #[.slice a0 n c0, .slice a1 m c1] w fun e w' => e = .returned (.bool true) ∧ Below w.heap.size w w' := by
  have H := hid h
  have hn0 : n ≤ 9223372036854775807 := by have := h.n0; unfold maxLen at this; omega
  have hm0 : m ≤ 9223372036854775807 := by have := h.m0; unfold maxLen at this; omega
  clear h
  go_enter Try.func4, Try.ntmps4
  go_wp2_with fail
  refine (zz_any a0 n c0 a1 m c1 w H.out.n0 H.out.m0).mono ?_
  rintro e w' ⟨⟨b1, rfl, _⟩, rfl⟩
  cases b1 with
  | false =>
    go_wp2
    go_ret
    exact ⟨rfl, Below.refl _ _⟩
  | true =>
    by_cases h1 : (131072 : Int) < (n : Int)
    · go_wp2
      go_ret
      exact ⟨rfl, Below.refl _ _⟩
    · by_cases h2 : (65536 : Int) < (m : Int)
      · go_wp2
        go_ret
        exact ⟨rfl, Below.refl _ _⟩
      · have hmk := fun (w : World) => make31 n (by omega) w
        go_wp2_with fail
        refine (range_any a1 m c1 Z1 (8 * (n : Int)) w' H.out.m0 H.out.b1).mono ?_
        rintro e w' ⟨⟨b2, rfl, hr⟩, rfl⟩
        cases b2 with
        | false =>
          go_wp2
          go_ret
          exact ⟨rfl, Below.refl _ _⟩
        | true =>
          have HR := hid (hr rfl)
          clear hr
          go_wp2_with fail
          refine (cloneBytes_any a0 n c0 Z0 _ (by omega) H.out.nil0 H.out.b0).mono ?_
          rintro e w2 ⟨a2, c2, rfl, hb2, ho2⟩
          rcases ho2 with ⟨_, h0⟩ | ⟨bb, rfl, hbb, hrow2⟩
          · omega
          have HB2 := hid hb2
          have HO2 := hid hrow2
          have HC2 := hid (cloneInts_any a1 m c1 Z1 w2 (by omega) H.out.nil1 (isInts_below hb2 H.out.b1))
          clear hb2 hrow2
          go_wp2_with fail
          refine HC2.out.mono ?_
          rintro e w3 ⟨a3, c3, rfl, hb3, ho3⟩
          have HB3 := hid hb3
          have HO3 := hid ho3
          have HO2' := hid (HO2.out.of_block (hb3.block _ HO2.out.lt))
          have HC3 := hid (cloneBytes_any (some ⟨bb, 0, none⟩) n c2 Z0 w3 (by omega) (fun h => by cases h) (own_ints (Or.inr ⟨bb, rfl, Nat.zero_le _, HO2'.out⟩)))
          clear hb3 ho3
          go_wp2_with fail
          refine HC3.out.mono ?_
          rintro e w4 ⟨a4, c4, rfl, hb4, ho4⟩
          rcases ho4 with ⟨_, h0⟩ | ⟨gb, rfl, hgb, hrow4⟩
          · omega
          have hbb2 : bb < w2.heap.size := HO2.out.lt
          have hs23 : w2.heap.size ≤ w3.heap.size := HB3.out.size
          have hs12 : w'.heap.size ≤ w2.heap.size := HB2.out.size
          have HF : Hid (∀ i, i < m → ∃ b off, a3 = some ⟨b, off, none⟩ ∧ b ≠ gb ∧ w4.cell? ⟨b, off + i, none⟩ = some (.int .i64 ((Z1 i).toNat : Nat))) := by
            intro i hi
            rcases HO3.out with ⟨_, h0⟩ | ⟨fb, e3, hfb, hrow3⟩
            · omega
            · have hlt := hrow3.lt
              have hz := (HR.out i hi).1
              refine ⟨fb, 0, e3, by omega, ?_⟩
              rw [Nat.zero_add, hb4.cell (p := ⟨fb, i, none⟩) hlt, hrow3.cell hi, Int.toNat_of_nonneg hz]
          have hu8 : ∀ q, (Z0 q).toNat < 256 := fun q => by have := H.out.u8 q; omega
          have hrow4' : w4.rowIs gb 5 n (fun q => .int .u8 (((Z0 q).toNat : Nat) : Int)) := hrow4.congr fun q _ => by rw [Int.toNat_of_nonneg (H.out.u8 q).1]
          have HBW4 := hid (HB2.out.trans ((HB3.out.trans (hb4.mono hs23)).mono hs12))
          have HO4 : Hid (w4.rowIs bb 5 n (fun q => .int .u8 (((Z0 q).toNat : Nat) : Int))) := (HO2'.out.of_block (hb4.block _ HO2'.out.lt)).congr fun q _ => by rw [Int.toNat_of_nonneg (H.out.u8 q).1]
          have HC4 := hid (flip_any gb n c4 a3 m c3 (fun q => (Z0 q).toNat) (fun i => (Z1 i).toNat) w4 (by omega) (by omega) hu8 (fun i hi => by have := HR.out i hi; omega) hrow4' HF.out)
          clear hb4 hrow4 hrow4' hu8
          go_wp2_with fail
          refine HC4.out.mono ?_
          rintro e w5 ⟨rfl, hon, hrow5⟩
          have RD : Hid (Ready w5 bb gb n a3 m (fun q => (Z0 q).toNat) (fun i => (Z1 i).toNat)) :=
            ⟨HO4.out.of_block (hon.block _ (by omega)), hrow5, fun i hi => by
              obtain ⟨b, off, e, hne, c⟩ := HF.out i hi
              exact ⟨b, off, e, by rw [hon.cell (p := ⟨b, off + i, none⟩) hne]; exact c⟩, fun i hi => by have := HR.out i hi; show (Z1 i).toNat < 8 * n; omega, fun q => by have := H.out.u8 q; show (Z0 q).toNat < 256; omega⟩
          have HBW := hid (below_only HBW4.out hon (by omega))
          clear hon hrow5 HF HO4 HC4 HC3 HC2 HO2 HO2' HO3 HR HBW4 HB2 HB3
          obtain ⟨B, hB⟩ : ∃ B : Nat → Nat, B = fun q => (Z0 q).toNat := ⟨_, rfl⟩
          obtain ⟨F, hF⟩ : ∃ F : Nat → Nat, F = fun i => (Z1 i).toNat := ⟨_, rfl⟩
          rw [← hB, ← hF] at RD
          clear hB hF
          have HROW := hid (World.rowIs_made w5 (.bool false) (8 * n) 4)
          go_wp2
          go_loopw [8] (fun iv wq => ∃ (k : Nat), iv = .int .i64 k ∧ k ≤ m ∧ Below w5.heap.size w5 wq ∧ wq.rowIs w5.heap.size 4 (8 * n) (fun p => .bool (od F k p))) (fun iv _ => m - (intOf iv).toNat)
          case atStart => exact ⟨0, rfl, Nat.zero_le _, (Below.refl _ _).alloc (Nat.le_refl _) _, HROW.out⟩
          case round =>
            obtain ⟨k, rfl, hk, hb, hf⟩ := hrel
            have RW := hid (RD.out.below hb)
            by_cases hlt : k < m
            · obtain ⟨b, off, rfl, d0⟩ := RW.out.flips k hlt
              have hfk := RW.out.lt k hlt
              have y1 : (0 : Int) ≤ (F k : Int) := by omega
              have y2 : (F k : Int) < 8 * (n : Int) := by omega
              have o0 : wr.cell? ⟨w5.heap.size, F k, none⟩ = some (.bool (od F k (F k))) := hf.cell (by omega)
              have z0 : wr.frozen? ⟨w5.heap.size, F k, none⟩ = false := hf.frozen _
              have HB := hid hb
              have HFR := hid hf
              clear hb hf
              go_wp2
              go_roundw
              case rel => exact ⟨k + 1, by go_num, by omega, od_step HB.out HFR.out⟩
              case measure => simp [intOf]; omega
            · obtain rfl : k = m := by omega
              have HB := hid hb
              have HFR := hid hf
              clear hb hf HROW
              go_wp2
              go_loop [10] (fun pv => ∃ p : Nat, pv = .int .i64 p ∧ p ≤ 8 * n) (fun pv => 8 * n - (intOf pv).toNat)
              case atStart => exact ⟨0, rfl, Nat.zero_le _⟩
              case round =>
                obtain ⟨p, rfl, hp⟩ := hrel
                by_cases hlt2 : p < 8 * n
                · have y1 : (p : Int) < 8 * (n : Int) := by omega
                  have d0 : wr.cell? ⟨bb, p / 8, none⟩ = some (.int .u8 (B (p / 8) : Nat)) := RW.out.block.cell (by omega)
                  have d1 : wr.cell? ⟨gb, p / 8, none⟩ = some (.int .u8 (fl B F k (p / 8) : Nat)) := RW.out.got.cell (by omega)
                  have d2 : wr.cell? ⟨w5.heap.size, p, none⟩ = some (.bool (od F k p)) := HFR.out.cell (by omega)
                  have HLAW : Hid ((!((bits BinOp.and IntKind.u8 ((fl B F k (p / 8) : Int) / 2 ^ (p % 8)) 1 == 1) == !((bits BinOp.and IntKind.u8 ((B (p / 8) : Int) / 2 ^ (p % 8)) 1 == 1) == od F k p))) = false) :=
                    no_way (by rw [bit_u8 _ _ (fl_lt RW.out.u8 k _), bit_u8 _ _ (RW.out.u8 _)]; exact law k p)
                  go_wp2
                  · rename_i hx _
                    rw [HLAW.out] at hx
                    cases hx
                  · go_round
                    case rel => exact ⟨p + 1, by go_num, by omega⟩
                    case measure => simp [intOf]; omega
                · have y1 : ¬ (p : Int) < 8 * (n : Int) := by omega
                  go_wp2
                  go_ret
                  exact ⟨rfl, HBW.out.trans (HB.out.mono HBW.out.size)⟩
end Go.Proofs.Qxb6602503a
