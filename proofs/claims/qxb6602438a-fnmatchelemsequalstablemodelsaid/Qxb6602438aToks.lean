/- The walks of ZZTok, toToks. -/
import Derived.Test.Qxb6602438aSets
import Derived.Deep.RegionHeld3
import Derived.Deep.DrawnRows
import Derived.Deep.OwnRows
import Derived.Deep.DeepCutAuto
import Derived.Laws.MakeOwn
namespace Go.Proofs.Qxb6602438a
open Go.RowKit
attribute [local go_sem ↓] Go.wp_at_zero Go.wp_at_succ

set_option maxHeartbeats 400000 in
theorem zzTok_any (k : Int) (t : ByteArray) (p : Option Addr) (w : World) :
    Calls Try.prog 17 #[.int .u8 k, .string t, .pointer p] w fun e w' => e = .returned (.agg #[.int .u8 k, .string t, .pointer p]) ∧ w' = w.alloc (.cells #[.int .u8 k, .string t, .pointer p] 34) := by
  go_enter Try.func17, Try.ntmps17
  go_wp2
  exact bodyPost_ret (v := .agg #[.int .u8 k, .string t, .pointer p]) (by simp [results, Try.results17, go_sem]) rfl ⟨rfl, rfl⟩

theorem hid {p : Prop} (h : p) : Hid p := h
theorem info34 : (Try.prog.info? 34).map (fun i => (i.zero, i.size, i.bytes)) = some (some (.agg #[.int .u8 0, .string ByteArray.empty, .pointer none]), 3, 32) := by kernel_rfl
theorem make34 (n : Nat) (h : n ≤ 4398046511104) (w : World) :
    (Instr.makeSlice 27 (.int .i64 (n : Int)) (.int .i64 (n : Int))).run Try.prog w = .ok (.slice (some ⟨w.heap.size, 0, none⟩) n n) (w.alloc (.cells (madeCells #[.int .u8 0, .string ByteArray.empty, .pointer none] (n * 3)) 34)) := by
  obtain ⟨i, hi, hzz⟩ := Option.map_eq_some_iff.1 info34
  simp only [Prod.mk.injEq] at hzz
  obtain ⟨hz, hs, hb⟩ := hzz
  have hr := run_make (P := Try.prog) w 27 34 i _ Try.underlying27 hi hz .i64 .i64 n n (by omega) (Int.le_refl _) (by rw [hb]; omega) (by omega)
  simp only [Int.toNat_natCast, hs] at hr
  exact hr

theorem eqNil22 (w : World) (a : Option Addr) (n c n' c' : Nat) : (binOp .eql 22 (.slice a n c) (.slice none n' c')).run Try.prog w = .ok (.bool a.isNone) w := Lib.run_eql_slice_nil w _ _ a n c n' c' Try.underlying22

/-- what the row 'out' holds of the first k tokens -/
def Out (T : Nat → Tk) (k : Nat) (f : Nat → Value) : Prop := ∀ i, i < k → f (i * 3) = .int .u8 (T i).kind ∧ f (i * 3 + 1) = .string (T i).text ∧ f (i * 3 + 2) = .pointer (T i).set

theorem toks_step {w wr : World} {len k : Nat} {T : Nat → Tk} {f : Nat → Value} (hB : Below w.heap.size w wr) (hf : wr.rowIs w.heap.size 34 (len * 3) f) (ho : Out T k f) (hk : k < len) (o : Obj) :
    Below w.heap.size w ((((wr.setCell ⟨w.heap.size, k * 3, none⟩ (.int .u8 (T k).kind)).setCell ⟨w.heap.size, k * 3 + 1, none⟩ (.string (T k).text)).setCell ⟨w.heap.size, k * 3 + 2, none⟩ (.pointer (T k).set)).alloc o).drew ∧
    ∃ g, ((((wr.setCell ⟨w.heap.size, k * 3, none⟩ (.int .u8 (T k).kind)).setCell ⟨w.heap.size, k * 3 + 1, none⟩ (.string (T k).text)).setCell ⟨w.heap.size, k * 3 + 2, none⟩ (.pointer (T k).set)).alloc o).drew.rowIs w.heap.size 34 (len * 3) g ∧ Out T (k + 1) g := by
  constructor
  · exact ((((hB.setCell (p := ⟨w.heap.size, k * 3, none⟩) (Nat.le_refl _) _).setCell (p := ⟨w.heap.size, k * 3 + 1, none⟩) (Nat.le_refl _) _).setCell (p := ⟨w.heap.size, k * 3 + 2, none⟩) (Nat.le_refl _) _).alloc (by have := hB.size; simpa [World.setCell] using this) _).drew
  · refine ⟨_, ((((hf.set (k * 3) _).set (k * 3 + 1) _).set (k * 3 + 2) _).alloc o).drew, ?_⟩
    intro i hi
    by_cases e : i = k
    · subst e
      refine ⟨?_, ?_, ?_⟩ <;> simp
    · obtain ⟨h0, h1, h2⟩ := ho i (by omega)
      refine ⟨?_, ?_, ?_⟩
      · dsimp only; rw [if_neg (by omega), if_neg (by omega), if_neg (by omega)]; exact h0
      · dsimp only; rw [if_neg (by omega), if_neg (by omega), if_neg (by omega)]; exact h1
      · dsimp only; rw [if_neg (by omega), if_neg (by omega), if_neg (by omega)]; exact h2

set_option maxHeartbeats 2000000 in
theorem toToks_row (ad : Addr) (len cap : Nat) (T : Nat → Tk) (w : World) (hl : len ≤ 4398046511104) (hT : TokRow w (some ad) len T) :
    Calls Try.prog 13 #[.slice (some ad) len cap] w fun e w' => e = .returned (.slice (some ⟨w.heap.size, 0, none⟩) len len) ∧ Below w.heap.size w w' ∧ (∃ f, w'.rowIs w.heap.size 34 (len * 3) f ∧ Out T len f) := by
  have hnil := eqNil22
  have hmk := fun (w : World) => make34 len hl w
  have hrow : ∃ f, (w.alloc (.cells (madeCells #[.int .u8 0, .string ByteArray.empty, .pointer none] (len * 3)) 34)).rowIs w.heap.size 34 (len * 3) f := by
    refine ⟨fun i => (madeCells #[.int .u8 0, .string ByteArray.empty, .pointer none] (len * 3)).getD i undef, ?_⟩
    have h := World.rowIs_alloc w (madeCells #[.int .u8 0, .string ByteArray.empty, .pointer none] (len * 3)) 34 (fun i => (madeCells #[.int .u8 0, .string ByteArray.empty, .pointer none] (len * 3)).getD i undef) (fun i hi => by simp [hi])
    rwa [size_madeCells] at h
  have HROW := hid hrow
  clear hrow
  have HT := hid hT
  clear hT
  go_enter Try.func13, Try.ntmps13
  go_wp2
  go_loopw [4] (fun iv wq => ∃ (k : Nat), iv = .int .i64 k ∧ k ≤ len ∧ Below w.heap.size w wq ∧ (∃ f, wq.rowIs w.heap.size 34 (len * 3) f ∧ Out T k f)) (fun iv _ => len - (intOf iv).toNat)
  case atStart =>
    obtain ⟨f, hf⟩ := HROW.out
    exact ⟨0, rfl, Nat.zero_le _, (Below.refl _ _).alloc (Nat.le_refl _) _, f, hf, fun i hi => by omega⟩
  case round =>
    obtain ⟨k, rfl, hk, hb, f, hf, ho⟩ := hrel
    by_cases hlt : k < len
    · obtain ⟨b, off, e, c0, c1, c2⟩ := HT.out k hlt
      obtain rfl : ad = ⟨b, off, none⟩ := by simpa using e
      clear e
      have hbl : b < w.heap.size := World.block_lt_of_cell? w _ c0
      have d0 : wr.cell? ⟨b, off + k * 3, none⟩ = some (.int .u8 (T k).kind) := by rw [hb.cell (p := ⟨b, off + k * 3, none⟩) hbl]; exact c0
      have d1 : wr.cell? ⟨b, off + k * 3 + 1, none⟩ = some (.string (T k).text) := by rw [hb.cell (p := ⟨b, off + k * 3 + 1, none⟩) hbl]; exact c1
      have d2 : wr.cell? ⟨b, off + k * 3 + 2, none⟩ = some (.pointer (T k).set) := by rw [hb.cell (p := ⟨b, off + k * 3 + 2, none⟩) hbl]; exact c2
      clear c0 c1 c2
      have o0 : wr.cell? ⟨w.heap.size, k * 3, none⟩ = some (f (k * 3)) := hf.cell (by omega)
      have o1 : wr.cell? ⟨w.heap.size, k * 3 + 1, none⟩ = some (f (k * 3 + 1)) := hf.cell (by omega)
      have o2 : wr.cell? ⟨w.heap.size, k * 3 + 2, none⟩ = some (f (k * 3 + 2)) := hf.cell (by omega)
      have z0 : wr.frozen? ⟨w.heap.size, k * 3, none⟩ = false := hf.frozen _
      have z1 : wr.frozen? ⟨w.heap.size, k * 3 + 1, none⟩ = false := hf.frozen _
      have z2 : wr.frozen? ⟨w.heap.size, k * 3 + 2, none⟩ = false := hf.frozen _
      have n0 : wr.heap.size ≠ b := World.new_ne wr _ d0
      have n1 : wr.heap.size ≠ w.heap.size := World.new_ne wr _ o0
      have n2 : w.heap.size ≠ b := by omega
      have n3 : w.heap.size < wr.heap.size := World.block_lt_of_cell? wr _ o0
      have n4 : b < wr.heap.size := World.block_lt_of_cell? wr _ d0
      have HB := hid hb
      have HF := hid hf
      have HO := hid ho
      clear hb hf ho
      have i0 : (0 : Int) ≤ (k : Int) := by omega
      have i1 : (k : Int) < (len : Int) := by omega
      go_wp2
      go_region_held3 (fun w' => w'.cell? ⟨b, off + k * 3, none⟩ = some (.int .u8 (T k).kind) ∧ w'.cell? ⟨b, off + k * 3 + 1, none⟩ = some (.string (T k).text) ∧ w'.cell? ⟨b, off + k * 3 + 2, none⟩ = some (.pointer (T k).set)) (go_keep) (first | (go_at_call 17; refine (zzTok_any _ _ _ _).mono ?_; rintro e w' ⟨rfl, rfl⟩))
      go_wp2
      go_roundw
      case rel => exact ⟨k + 1, by go_num, by omega, toks_step HB.out HF.out HO.out hlt _⟩
      case measure => simp [intOf]; omega
    · go_wp2
      go_ret
      obtain rfl : k = len := by omega
      exact ⟨rfl, hb, f, hf, ho⟩

set_option maxHeartbeats 400000 in
theorem toToks_nil (len cap : Nat) (w : World) :
    Calls Try.prog 13 #[.slice none len cap] w fun e w' => e = .returned (.slice none 0 0) ∧ w' = w := by
  have hnil := eqNil22
  go_enter Try.func13, Try.ntmps13
  go_wp2
  go_ret
  exact ⟨rfl, rfl⟩
end Go.Proofs.Qxb6602438a
