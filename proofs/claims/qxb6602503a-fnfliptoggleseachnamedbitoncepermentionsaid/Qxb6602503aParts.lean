/- The walks of zzBytes, flipsInRange, cloneBytes, cloneInts. -/
import Derived.Test.Qxb6602503aRows
import Derived.Test.Qxb6602503aBits
import Derived.WalkKit
import Derived.WalkSpells
import Derived.WalkLawsBesides
import Derived.Deep.OwnRows
import Derived.Deep.QuietTactic
import Derived.BigQuiet
import Derived.Laws.BitsAllLaws
namespace Go.Proofs.Qxb6602503a
open Go.RowKit

theorem hid {p : Prop} (h : p) : Hid p := h
def RetB (Q : Bool → Prop) (e : Ending) : Prop := ∃ b : Bool, e = .returned (.bool b) ∧ Q b

/-- the numbers Z lie where the slice leads -/
def IsInts (k : IntKind) (w : World) (a : Option Addr) (n : Nat) (Z : Nat → Int) : Prop :=
  ∀ i, i < n → ∃ b off, a = some ⟨b, off, none⟩ ∧ w.cell? ⟨b, off + i, none⟩ = some (.int k (Z i))
/-- .. in a row of the call's own, from its head on -/
def Own (w : World) (lo : Nat) (a : Option Addr) (t : TypeId) (n : Nat) (f : Nat → Value) : Prop :=
  (a = none ∧ n = 0) ∨ ∃ b, a = some ⟨b, 0, none⟩ ∧ lo ≤ b ∧ w.rowIs b t n f

set_option maxHeartbeats 400000 in
theorem zz_any (a0 : Option Addr) (n c0 : Nat) (a1 : Option Addr) (m c1 : Nat) (w : World) (hn : n ≤ maxLen) (hm : m ≤ maxLen) :
    Calls Try.prog 8 #[.slice a0 n c0, .slice a1 m c1] w fun e w' => RetB (fun _ => True) e ∧ w' = w := by
  unfold maxLen at hn hm
  by_cases h1 : (1048576 : Int) < (n : Int)
  · go_enter Try.func8, Try.ntmps8
    go_wp2
    go_ret
    exact ⟨⟨false, rfl, trivial⟩, rfl⟩
  · by_cases h2 : (1048576 : Int) < (m : Int)
    · go_enter Try.func8, Try.ntmps8
      go_wp2
      go_ret
      exact ⟨⟨false, rfl, trivial⟩, rfl⟩
    · by_cases h3 : (1048576 : Int) < (n : Int) + (m : Int)
      · go_enter Try.func8, Try.ntmps8
        go_wp2
        go_ret
        exact ⟨⟨false, rfl, trivial⟩, rfl⟩
      · go_enter Try.func8, Try.ntmps8
        go_wp2
        go_ret
        exact ⟨⟨true, rfl, trivial⟩, rfl⟩

set_option maxHeartbeats 1000000 in
theorem range_any (a : Option Addr) (m c : Nat) (Z : Nat → Int) (nb : Int) (w : World) (hm : m ≤ maxLen) (hZ : IsInts .i64 w a m Z) :
    Calls Try.prog 9 #[.slice a m c, .int .i64 nb] w fun e w' => RetB (fun b => b = true → ∀ i, i < m → 0 ≤ Z i ∧ Z i < nb) e ∧ w' = w := by
  unfold maxLen at hm
  go_enter Try.func9, Try.ntmps9
  go_wp2
  go_loop [5] (fun t => ∃ k : Nat, k ≤ m ∧ Hid (∀ i, i < k → 0 ≤ Z i ∧ Z i < nb) ∧ t = .int .i64 k) (fun t => m - (intOf t).toNat)
  case atStart => exact ⟨0, Nat.zero_le _, fun i h => by omega, rfl⟩
  case round =>
    obtain ⟨k, hk, HD, rfl⟩ := hrel
    by_cases hlt : k < m
    · obtain ⟨b, off, rfl, c0⟩ := hZ k hlt
      clear hZ
      by_cases h1 : Z k < 0
      · go_wp2
        go_ret
        exact ⟨⟨false, rfl, fun h => by cases h⟩, rfl⟩
      · by_cases h2 : nb ≤ Z k
        · go_wp2
          go_ret
          exact ⟨⟨false, rfl, fun h => by cases h⟩, rfl⟩
        · go_wp2
          go_round
          case rel =>
            refine ⟨k + 1, by omega, fun i hi => ?_, by go_num⟩
            by_cases e : i = k
            · subst e; omega
            · exact HD.out i (by omega)
          case measure => simp [intOf]; omega
    · go_wp2
      go_ret
      exact ⟨⟨true, rfl, fun _ i hi => HD.out i (by omega)⟩, rfl⟩

theorem info5 : (Try.prog.info? 5).map (fun i => (i.zero, i.size, i.bytes)) = some (some (.int .u8 0), 1, 1) := by kernel_rfl
theorem info3 : (Try.prog.info? 3).map (fun i => (i.zero, i.size, i.bytes)) = some (some (.int .i64 0), 1, 8) := by kernel_rfl
theorem info4 : (Try.prog.info? 4).map (fun i => (i.zero, i.size, i.bytes)) = some (some (.bool false), 1, 1) := by kernel_rfl
theorem make24 (n : Nat) (h : n ≤ 1048576) (w : World) :
    (Instr.makeSlice 24 (.int .i64 (n : Int)) (.int .i64 (n : Int))).run Try.prog w = .ok (.slice (some ⟨w.heap.size, 0, none⟩) n n) (w.alloc (.cells (madeCells #[.int .u8 0] n) 5)) :=
  run_make_row' (P := Try.prog) 24 5 (.int .u8 0) 1 Try.underlying24 info5 rfl .i64 .i64 n (by omega) (by omega) w
theorem make25 (n : Nat) (h : n ≤ 1048576) (w : World) :
    (Instr.makeSlice 25 (.int .i64 (n : Int)) (.int .i64 (n : Int))).run Try.prog w = .ok (.slice (some ⟨w.heap.size, 0, none⟩) n n) (w.alloc (.cells (madeCells #[.int .i64 0] n) 3)) :=
  run_make_row' (P := Try.prog) 25 3 (.int .i64 0) 8 Try.underlying25 info3 rfl .i64 .i64 n (by omega) (by omega) w
theorem eqNil24 (w : World) (a : Option Addr) (n c n' c' : Nat) : (binOp .eql 24 (.slice a n c) (.slice none n' c')).run Try.prog w = .ok (.bool a.isNone) w := Lib.run_eql_slice_nil w _ _ a n c n' c' Try.underlying24
theorem eqNil25 (w : World) (a : Option Addr) (n c n' c' : Nat) : (binOp .eql 25 (.slice a n c) (.slice none n' c')).run Try.prog w = .ok (.bool a.isNone) w := Lib.run_eql_slice_nil w _ _ a n c n' c' Try.underlying25

/-- the first k cells of the new row are copied -/
def Part (k : IntKind) (Z : Nat → Int) (j : Nat) (f : Nat → Value) : Prop := ∀ i, i < j → f i = .int k (Z i)

theorem part_step {kd : IntKind} {t : TypeId} {w wr : World} {n k : Nat} {Z : Nat → Int} {f : Nat → Value} (hB : Below w.heap.size w wr) (hf : wr.rowIs w.heap.size t n f) (ho : Part kd Z k f) :
    Below w.heap.size w (wr.setCell ⟨w.heap.size, k, none⟩ (.int kd (Z k))) ∧ ∃ g, (wr.setCell ⟨w.heap.size, k, none⟩ (.int kd (Z k))).rowIs w.heap.size t n g ∧ Part kd Z (k + 1) g := by
  refine ⟨hB.setCell (p := ⟨w.heap.size, k, none⟩) (Nat.le_refl _) _, _, hf.set k _, fun i hi => ?_⟩
  by_cases e : i = k
  · subst e; simp
  · rw [if_neg e]; exact ho i (by omega)

set_option maxHeartbeats 2000000 in
theorem cloneBytes_any (a : Option Addr) (n c : Nat) (Z : Nat → Int) (w : World) (hn : n ≤ 1048576) (hnil : a = none → n = 0) (hZ : IsInts .u8 w a n Z) :
    Calls Try.prog 10 #[.slice a n c] w fun e w' => ∃ a' c', e = .returned (.slice a' n c') ∧ Below w.heap.size w w' ∧ Own w' w.heap.size a' 5 n (fun i => .int .u8 (Z i)) := by
  have hnl := eqNil24
  cases a with
  | none =>
    obtain rfl : n = 0 := hnil rfl
    clear hnil hZ
    go_enter Try.func10, Try.ntmps10
    go_wp2
    go_ret
    exact ⟨none, 0, rfl, Below.refl _ _, Or.inl ⟨rfl, rfl⟩⟩
  | some ad =>
    have hmk := fun (w : World) => make24 n hn w
    have HROW := hid (World.rowIs_made w (.int .u8 0) n 5)
    have HZ := hid hZ
    clear hZ hnil
    go_enter Try.func10, Try.ntmps10
    go_wp2
    go_loopw [4] (fun iv wq => ∃ (k : Nat), iv = .int .i64 k ∧ k ≤ n ∧ Below w.heap.size w wq ∧ (∃ f, wq.rowIs w.heap.size 5 n f ∧ Part .u8 Z k f)) (fun iv _ => n - (intOf iv).toNat)
    case atStart => exact ⟨0, rfl, Nat.zero_le _, (Below.refl _ _).alloc (Nat.le_refl _) _, _, HROW.out, fun i hi => by omega⟩
    case round =>
      obtain ⟨k, rfl, hk, hb, f, hf, ho⟩ := hrel
      by_cases hlt : k < n
      · obtain ⟨b, off, e, c0⟩ := HZ.out k hlt
        obtain rfl : ad = ⟨b, off, none⟩ := by simpa using e
        clear e
        have hbl : b < w.heap.size := World.block_lt_of_cell? w _ c0
        have d0 : wr.cell? ⟨b, off + k, none⟩ = some (.int .u8 (Z k)) := by rw [hb.cell (p := ⟨b, off + k, none⟩) hbl]; exact c0
        have o0 : wr.cell? ⟨w.heap.size, k, none⟩ = some (f k) := hf.cell (by omega)
        have z0 : wr.frozen? ⟨w.heap.size, k, none⟩ = false := hf.frozen _
        have HB := hid hb
        have HF := hid hf
        have HO := hid ho
        clear hb hf ho c0
        go_wp2
        go_roundw
        case rel => exact ⟨k + 1, by go_num, by omega, part_step HB.out HF.out HO.out⟩
        case measure => simp [intOf]; omega
      · go_wp2
        go_ret
        exact ⟨_, _, rfl, hb, Or.inr ⟨_, rfl, Nat.le_refl _, hf.congr fun i hi => ho i (by omega)⟩⟩

set_option maxHeartbeats 2000000 in
theorem cloneInts_any (a : Option Addr) (n c : Nat) (Z : Nat → Int) (w : World) (hn : n ≤ 1048576) (hnil : a = none → n = 0) (hZ : IsInts .i64 w a n Z) :
    Calls Try.prog 11 #[.slice a n c] w fun e w' => ∃ a' c', e = .returned (.slice a' n c') ∧ Below w.heap.size w w' ∧ Own w' w.heap.size a' 3 n (fun i => .int .i64 (Z i)) := by
  have hnl := eqNil25
  cases a with
  | none =>
    obtain rfl : n = 0 := hnil rfl
    clear hnil hZ
    go_enter Try.func11, Try.ntmps11
    go_wp2
    go_ret
    exact ⟨none, 0, rfl, Below.refl _ _, Or.inl ⟨rfl, rfl⟩⟩
  | some ad =>
    have hmk := fun (w : World) => make25 n hn w
    have HROW := hid (World.rowIs_made w (.int .i64 0) n 3)
    have HZ := hid hZ
    clear hZ hnil
    go_enter Try.func11, Try.ntmps11
    go_wp2
    go_loopw [4] (fun iv wq => ∃ (k : Nat), iv = .int .i64 k ∧ k ≤ n ∧ Below w.heap.size w wq ∧ (∃ f, wq.rowIs w.heap.size 3 n f ∧ Part .i64 Z k f)) (fun iv _ => n - (intOf iv).toNat)
    case atStart => exact ⟨0, rfl, Nat.zero_le _, (Below.refl _ _).alloc (Nat.le_refl _) _, _, HROW.out, fun i hi => by omega⟩
    case round =>
      obtain ⟨k, rfl, hk, hb, f, hf, ho⟩ := hrel
      by_cases hlt : k < n
      · obtain ⟨b, off, e, c0⟩ := HZ.out k hlt
        obtain rfl : ad = ⟨b, off, none⟩ := by simpa using e
        clear e
        have hbl : b < w.heap.size := World.block_lt_of_cell? w _ c0
        have d0 : wr.cell? ⟨b, off + k, none⟩ = some (.int .i64 (Z k)) := by rw [hb.cell (p := ⟨b, off + k, none⟩) hbl]; exact c0
        have o0 : wr.cell? ⟨w.heap.size, k, none⟩ = some (f k) := hf.cell (by omega)
        have z0 : wr.frozen? ⟨w.heap.size, k, none⟩ = false := hf.frozen _
        have HB := hid hb
        have HF := hid hf
        have HO := hid ho
        clear hb hf ho c0
        go_wp2
        go_roundw
        case rel => exact ⟨k + 1, by go_num, by omega, part_step HB.out HF.out HO.out⟩
        case measure => simp [intOf]; omega
      · go_wp2
        go_ret
        exact ⟨_, _, rfl, hb, Or.inr ⟨_, rfl, Nat.le_refl _, hf.congr fun i hi => ho i (by omega)⟩⟩
end Go.Proofs.Qxb6602503a
