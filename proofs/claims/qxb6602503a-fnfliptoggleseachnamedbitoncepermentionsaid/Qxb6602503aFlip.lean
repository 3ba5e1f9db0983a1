/- The walk of Flip. -/
import Derived.Test.Qxb6602503aParts
import Derived.Test.Qxb6602503aStill
namespace Go.Proofs.Qxb6602503a
open Go.RowKit

/-- the world has turned in one block alone -/
structure Only (g : Nat) (w w' : World) : Prop where
  os : w'.os = w.os
  tape : w'.tape = w.tape
  output : w'.output = w.output
  size : w'.heap.size = w.heap.size
  block : ∀ k, k ≠ g → w'.heap[k]? = w.heap[k]?

theorem Only.refl (g : Nat) (w : World) : Only g w w := ⟨rfl, rfl, rfl, rfl, fun _ _ => rfl⟩
theorem Only.store {g : Nat} {w wr : World} (h : Only g w wr) (o : Nat) (v : Value) : Only g w ((wr.setCell ⟨g, o, none⟩ v).drew) :=
  ⟨h.os, h.tape, h.output, by rw [← h.size]; simp [World.setCell], fun k hk => by rw [← h.block k hk]; exact Below.heap_setCell _ _ _ _ hk⟩
theorem Only.cell {g : Nat} {w w' : World} (h : Only g w w') {p : Addr} (hp : p.block ≠ g) : w'.cell? p = w.cell? p := World.cell?_of_block (w := w) (h.block p.block hp)

theorem fl_step_row {B F : Nat → Nat} {w wr : World} {g n k : Nat} (h : Only g w wr) (hf : wr.rowIs g 5 n (fun q => .int .u8 (fl B F k q : Nat))) :
    Only g w (wr.setCell ⟨g, F k / 8, none⟩ (.int .u8 (fl B F k (F k / 8) ^^^ 2 ^ (F k % 8) : Nat))).drew ∧
    (wr.setCell ⟨g, F k / 8, none⟩ (.int .u8 (fl B F k (F k / 8) ^^^ 2 ^ (F k % 8) : Nat))).drew.rowIs g 5 n (fun q => .int .u8 (fl B F (k + 1) q : Nat)) := by
  refine ⟨h.store _ _, ((hf.set (F k / 8) _).drew).congr fun i _ => ?_⟩
  by_cases e : i = F k / 8
  · subst e; simp [fl]
  · simp [fl, e]

theorem xor_u8 (x s : Nat) (hx : x < 256) (hs : s < 8) : bits BinOp.xor IntKind.u8 (x : Int) (2 ^ s % 256) = ((x ^^^ 2 ^ s : Nat) : Int) := by
  have hp : 2 ^ s < 256 := by
    have : 2 ^ s ≤ 2 ^ 7 := Nat.pow_le_pow_right (by omega) (by omega)
    omega
  have hp0 : 0 < 2 ^ s := Nat.pos_of_ne_zero (by simp)
  have e : ((2 : Int) ^ s % 256) = ((2 ^ s : Nat) : Int) := by
    have : ((2 : Int) ^ s) = ((2 ^ s : Nat) : Int) := by simp
    rw [this]
    omega
  rw [e, u8_xor_nat x (2 ^ s) hx hp]

set_option maxHeartbeats 4000000 in
theorem flip_any (g n c : Nat) (a : Option Addr) (m c2 : Nat) (B F : Nat → Nat) (w : World) (hn : n ≤ 1048576) (hm : m ≤ 1048576) (hB : ∀ q, B q < 256) (hF : ∀ i, i < m → F i < 8 * n)
    (hrow : w.rowIs g 5 n (fun q => .int .u8 (B q : Nat))) (hZ : ∀ i, i < m → ∃ b off, a = some ⟨b, off, none⟩ ∧ b ≠ g ∧ w.cell? ⟨b, off + i, none⟩ = some (.int .i64 (F i : Nat))) :
    Calls Try.prog 12 #[.slice (some ⟨g, 0, none⟩) n c, .slice a m c2] w fun e w' => e = .returned (.tuple #[]) ∧ Only g w w' ∧ w'.rowIs g 5 n (fun q => .int .u8 (fl B F m q : Nat)) := by
  have HR := hid hrow
  have HZ := hid hZ
  have HL := hid (fl_lt (F := F) hB)
  have HF := hid hF
  clear hrow hZ hB hF
  go_enter Try.func12, Try.ntmps12
  go_wp2
  go_loopw [8] (fun iv wq => ∃ (k : Nat), iv = .int .i64 k ∧ k ≤ m ∧ Only g w wq ∧ wq.rowIs g 5 n (fun q => .int .u8 (fl B F k q : Nat))) (fun iv _ => m - (intOf iv).toNat)
  case atStart => exact ⟨0, rfl, Nat.zero_le _, Only.refl _ _, HR.out⟩
  case round =>
    obtain ⟨k, rfl, hk, ho, hf⟩ := hrel
    by_cases hlt : k < m
    · obtain ⟨b, off, rfl, hbg, c0⟩ := HZ.out k hlt
      have hfk := HF.out k hlt
      have d0 : wr.cell? ⟨b, off + k, none⟩ = some (.int .i64 (F k : Nat)) := by rw [ho.cell (p := ⟨b, off + k, none⟩) hbg]; exact c0
      have o0 : wr.cell? ⟨g, F k / 8, none⟩ = some (.int .u8 (fl B F k (F k / 8) : Nat)) := hf.cell (by omega)
      have z0 : wr.frozen? ⟨g, F k / 8, none⟩ = false := hf.frozen _
      have y1 : (0 : Int) ≤ (F k : Int) := by omega
      have y2 : (F k : Int) / 8 < (n : Int) := by omega
      have y3 : (0 : Int) ≤ (F k : Int) / 8 := by omega
      have y4 : IntKind.i64.wrap ((F k : Int) / 8) = (F k : Int) / 8 := by rw [IntKind.wrap_i64]; omega
      have y5 : ((F k : Int) / 8).toNat = F k / 8 := by omega
      have y6 : IntKind.i64.wrap ((F k : Int) % 8) = (F k : Int) % 8 := by rw [IntKind.wrap_i64]; omega
      have y7 : ((F k : Int) % 8).toNat = F k % 8 := by omega
      have y8 : (0 : Int) ≤ (F k : Int) % 8 := by omega
      have y9 : (F k : Int).tmod 8 = (F k : Int) % 8 := Int.tmod_eq_emod_of_nonneg y1
      have HO := hid ho
      have HFR := hid hf
      have HXR : Hid (bits BinOp.xor IntKind.u8 (fl B F k (F k / 8) : Int) (2 ^ (F k % 8) % 256) = ((fl B F k (F k / 8) ^^^ 2 ^ (F k % 8) : Nat) : Int)) := xor_u8 _ _ (HL.out k _) (by omega)
      clear ho hf c0 hfk
      go_wp2
      refine wp_region_tail 10 (by kernel_rfl) (by kernel_rfl) ?_
      simp only [List.take_succ_cons, List.take_zero, List.drop_succ_cons, List.drop_zero]
      iterate 10 (refine WpS.step (fun K hK => ?_); go_simp; refine hK _ ?_; clear hK K)
      refine WpS.nil ?_
      go_wp2
      go_roundw
      case rel =>
        refine ⟨k + 1, by go_num, by omega, ?_⟩
        rw [HXR.out]
        exact fl_step_row HO.out HFR.out
      case measure => simp [intOf]; omega
    · go_wp2
      go_end0
      obtain rfl : k = m := by omega
      exact ⟨rfl, ho, hf⟩
end Go.Proofs.Qxb6602503a
