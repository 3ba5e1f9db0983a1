/- The walks of ZZSeg, toSegs; what is kept from world to world. -/
import Derived.Test.Qxb6602438aElems
namespace Go.Proofs.Qxb6602438a
open Go.RowKit
attribute [local go_sem ↓] Go.wp_at_zero Go.wp_at_succ

/-! ### What is kept -/
theorem tokRow_keep {w w' : World} {a : Option Addr} {len : Nat} {T : Nat → Tk} (h : TokRow w a len T) (hk : ∀ ad, a = some ad → ∀ o, w'.cell? ⟨ad.block, o, none⟩ = w.cell? ⟨ad.block, o, none⟩) : TokRow w' a len T := by
  intro i hi
  obtain ⟨b, off, e, c0, c1, c2⟩ := h i hi
  exact ⟨b, off, e, by rw [hk _ e]; exact c0, by rw [hk _ e]; exact c1, by rw [hk _ e]; exact c2⟩
theorem tokRow_below {w w' : World} {a : Option Addr} {len : Nat} {T : Nat → Tk} (hb : Below w.heap.size w w') (h : TokRow w a len T) : TokRow w' a len T := by
  intro i hi
  obtain ⟨b, off, e, c0, c1, c2⟩ := h i hi
  have hbl : b < w.heap.size := World.block_lt_of_cell? w _ c0
  exact ⟨b, off, e, by rw [hb.cell (p := ⟨b, off + i * 3, none⟩) hbl]; exact c0, by rw [hb.cell (p := ⟨b, off + i * 3 + 1, none⟩) hbl]; exact c1, by rw [hb.cell (p := ⟨b, off + i * 3 + 2, none⟩) hbl]; exact c2⟩
theorem segRow_below {w w' : World} {a : Option Addr} {len : Nat} {S : Nat → Sg} (hb : Below w.heap.size w w') (h : SegRow w a len S) : SegRow w' a len S := by
  intro i hi
  obtain ⟨b, off, e, c0, c1, c2⟩ := h i hi
  have hbl : b < w.heap.size := World.block_lt_of_cell? w _ c0
  exact ⟨b, off, e, by rw [hb.cell (p := ⟨b, off + i * 3, none⟩) hbl]; exact c0, by rw [hb.cell (p := ⟨b, off + i * 3 + 1, none⟩) hbl]; exact c1, by rw [hb.cell (p := ⟨b, off + i * 3 + 2, none⟩) hbl]; exact c2⟩
theorem elemRow_below {w w' : World} {a : Option Addr} {len : Nat} {E : Nat → ByteArray} (hb : Below w.heap.size w w') (h : ElemRow w a len E) : ElemRow w' a len E := by
  intro i hi
  obtain ⟨b, off, e, c0⟩ := h i hi
  have hbl : b < w.heap.size := World.block_lt_of_cell? w _ c0
  exact ⟨b, off, e, by rw [hb.cell (p := ⟨b, off + i, none⟩) hbl]; exact c0⟩
theorem setsAt_below {w w' : World} {len : Nat} {T : Nat → Tk} {W : Nat → Nat → Nat} (hb : Below w.heap.size w w') (h : SetsAt w len T W) : SetsAt w' len T W := by
  intro i hi hk
  obtain ⟨b, off, e, hc⟩ := h i hi hk
  refine ⟨b, off, e, fun j hj => ⟨?_, (hc j hj).2⟩⟩
  have hbl : b < w.heap.size := World.block_lt_of_cell? w _ (hc j hj).1
  rw [hb.cell (p := ⟨b, off + j, none⟩) hbl]; exact (hc j hj).1
theorem globAs_below {w w' : World} {s : Sg} {a : Option Addr} (hb : Below w.heap.size w w') (h : GlobAs w s a) : GlobAs w' s a := ⟨h.nil, tokRow_below hb h.row⟩
theorem globAs_setCell {w : World} {s : Sg} {a : Option Addr} {p : Addr} {v : Value} (h : GlobAs w s a) (hp : ∀ ad, a = some ad → ad.block ≠ p.block) : GlobAs (w.setCell p v) s a :=
  ⟨h.nil, tokRow_keep h.row fun ad e o => World.cell?_setCell_far w p ⟨ad.block, o, none⟩ v (fun h => hp ad e h.symm)⟩
theorem tokRow_out {w : World} {nb len : Nat} {T : Nat → Tk} {f : Nat → Value} (hf : w.rowIs nb 34 (len * 3) f) (ho : Out T len f) : TokRow w (some ⟨nb, 0, none⟩) len T := by
  intro i hi
  obtain ⟨h0, h1, h2⟩ := ho i hi
  refine ⟨nb, 0, rfl, ?_, ?_, ?_⟩
  · rw [Nat.zero_add, hf.cell (by omega), h0]
  · rw [Nat.zero_add, hf.cell (by omega), h1]
  · rw [Nat.zero_add, hf.cell (by omega), h2]

/-- toToks of a segment's glob -/
theorem toToks_as (s : Sg) (w : World) (hl : s.glen ≤ 1048576) (hnil : s.ga = none → s.glen = 0) (hT : TokRow w s.ga s.glen s.T) :
    Calls Try.prog 13 #[.slice s.ga s.glen s.gcap] w fun e w1 => ∃ a1 c1, e = .returned (.slice a1 s.glen c1) ∧ Below w.heap.size w w1 ∧ GlobAs w1 s a1 ∧ ∀ ad, a1 = some ad → ad.block = w.heap.size := by
  cases hg : s.ga with
  | none =>
    have h0 := hnil hg
    rw [h0]
    refine (toToks_nil 0 s.gcap w).mono ?_
    rintro e w' ⟨rfl, rfl⟩
    exact ⟨none, 0, rfl, Below.refl _ _, ⟨by rw [hg], fun i hi => absurd hi (by omega)⟩, fun ad h => by cases h⟩
  | some ad =>
    rw [hg] at hT
    refine (toToks_row ad s.glen s.gcap s.T w (by omega) hT).mono ?_
    rintro e w' ⟨rfl, hb, f, hf, ho⟩
    exact ⟨_, _, rfl, hb, ⟨by rw [hg]; rfl, tokRow_out hf ho⟩, fun ad h => by cases h; rfl⟩

set_option maxHeartbeats 400000 in
theorem zzSeg_any (d : Bool) (t : ByteArray) (a : Option Addr) (n c : Nat) (w : World) :
    Calls Try.prog 28 #[.bool d, .string t, .slice a n c] w fun e w' => e = .returned (.agg #[.bool d, .string t, .slice a n c]) ∧ w' = w.alloc (.cells #[.bool d, .string t, .slice a n c] 49) := by
  go_enter Try.func28, Try.ntmps28
  go_wp2
  exact bodyPost_ret (v := .agg #[.bool d, .string t, .slice a n c]) (by simp [results, Try.results28, go_sem]) rfl ⟨rfl, rfl⟩

theorem info49 : (Try.prog.info? 49).map (fun i => (i.zero, i.size, i.bytes)) = some (some (.agg #[.bool false, .string ByteArray.empty, .slice none 0 0]), 3, 48) := by kernel_rfl
theorem make49 (n : Nat) (h : n ≤ 4096) (w : World) :
    (Instr.makeSlice 44 (.int .i64 (n : Int)) (.int .i64 (n : Int))).run Try.prog w = .ok (.slice (some ⟨w.heap.size, 0, none⟩) n n) (w.alloc (.cells (madeCells #[.bool false, .string ByteArray.empty, .slice none 0 0] (n * 3)) 49)) := by
  obtain ⟨i, hi, hzz⟩ := Option.map_eq_some_iff.1 info49
  simp only [Prod.mk.injEq] at hzz
  obtain ⟨hz, hs, hb⟩ := hzz
  have hr := run_make (P := Try.prog) w 44 49 i _ Try.underlying44 hi hz .i64 .i64 n n (by omega) (Int.le_refl _) (by rw [hb]; omega) (by omega)
  simp only [Int.toNat_natCast, hs] at hr
  exact hr

/-- what the row of new segments holds of the first k -/
def OutS (w : World) (sb : Nat) (S : Nat → Sg) (k : Nat) (f : Nat → Value) : Prop :=
  ∀ i, i < k → f (i * 3) = .bool (S i).ds ∧ f (i * 3 + 1) = .string (S i).lit ∧ ∃ ga c, f (i * 3 + 2) = .slice ga (S i).glen c ∧ GlobAs w (S i) ga ∧ ∀ ad, ga = some ad → ad.block ≠ sb

theorem segs_step {w wr w1 : World} {len k : Nat} {S : Nat → Sg} {f : Nat → Value} {a1 : Option Addr} {c1 : Nat} (hB : Below w.heap.size w wr) (hf : wr.rowIs w.heap.size 49 (len * 3) f) (ho : OutS wr w.heap.size S k f)
    (h1 : Below wr.heap.size wr w1) (hg : GlobAs w1 (S k) a1) (hbl : ∀ ad, a1 = some ad → ad.block = wr.heap.size) (o : Obj) :
    Below w.heap.size w ((((w1.setCell ⟨w.heap.size, k * 3, none⟩ (.bool (S k).ds)).setCell ⟨w.heap.size, k * 3 + 1, none⟩ (.string (S k).lit)).setCell ⟨w.heap.size, k * 3 + 2, none⟩ (.slice a1 (S k).glen c1)).alloc o) ∧
    ∃ g, ((((w1.setCell ⟨w.heap.size, k * 3, none⟩ (.bool (S k).ds)).setCell ⟨w.heap.size, k * 3 + 1, none⟩ (.string (S k).lit)).setCell ⟨w.heap.size, k * 3 + 2, none⟩ (.slice a1 (S k).glen c1)).alloc o).rowIs w.heap.size 49 (len * 3) g ∧
      OutS ((((w1.setCell ⟨w.heap.size, k * 3, none⟩ (.bool (S k).ds)).setCell ⟨w.heap.size, k * 3 + 1, none⟩ (.string (S k).lit)).setCell ⟨w.heap.size, k * 3 + 2, none⟩ (.slice a1 (S k).glen c1)).alloc o) w.heap.size S (k + 1) g := by
  have hlt := hf.lt
  have hB1 : Below w.heap.size w w1 := hB.trans (h1.mono hB.size)
  have hf1 : w1.rowIs w.heap.size 49 (len * 3) f := hf.of_block (h1.block _ hlt)
  have keep : ∀ {s : Sg} {a : Option Addr}, GlobAs w1 s a → (∀ ad, a = some ad → ad.block ≠ w.heap.size) →
      GlobAs ((((w1.setCell ⟨w.heap.size, k * 3, none⟩ (.bool (S k).ds)).setCell ⟨w.heap.size, k * 3 + 1, none⟩ (.string (S k).lit)).setCell ⟨w.heap.size, k * 3 + 2, none⟩ (.slice a1 (S k).glen c1)).alloc o) s a := by
    intro s a h hp
    exact globAs_below ((Below.refl _ _).alloc (Nat.le_refl _) _) (globAs_setCell (globAs_setCell (globAs_setCell h hp) hp) hp)
  refine ⟨(((hB1.setCell (p := ⟨w.heap.size, k * 3, none⟩) (Nat.le_refl _) _).setCell (p := ⟨w.heap.size, k * 3 + 1, none⟩) (Nat.le_refl _) _).setCell (p := ⟨w.heap.size, k * 3 + 2, none⟩) (Nat.le_refl _) _).alloc (by have := hB1.size; simpa [World.setCell] using this) _, _, (((hf1.set (k * 3) _).set (k * 3 + 1) _).set (k * 3 + 2) _).alloc o, ?_⟩
  intro i hi
  by_cases e : i = k
  · subst e
    exact ⟨by simp, by simp, a1, c1, by simp, keep hg fun ad h => by have := hbl ad h; omega, fun ad h => by have := hbl ad h; omega⟩
  · obtain ⟨h0, h1', ga, c, h2, h3, h4⟩ := ho i (by omega)
    refine ⟨?_, ?_, ga, c, ?_, keep (globAs_below h1 h3) h4, h4⟩
    · dsimp only; rw [if_neg (by omega), if_neg (by omega), if_neg (by omega)]; exact h0
    · dsimp only; rw [if_neg (by omega), if_neg (by omega), if_neg (by omega)]; exact h1'
    · dsimp only; rw [if_neg (by omega), if_neg (by omega), if_neg (by omega)]; exact h2

theorem segsAs_out {w : World} {sb len : Nat} {S : Nat → Sg} {f : Nat → Value} (hf : w.rowIs sb 49 (len * 3) f) (ho : OutS w sb S len f) : SegsAs w (some ⟨sb, 0, none⟩) len S := by
  intro i hi
  obtain ⟨h0, h1, ga, c, h2, h3, _⟩ := ho i hi
  refine ⟨sb, 0, ga, c, rfl, ?_, ?_, ?_, h3⟩
  · rw [Nat.zero_add, hf.cell (by omega), h0]
  · rw [Nat.zero_add, hf.cell (by omega), h1]
  · rw [Nat.zero_add, hf.cell (by omega), h2]

set_option maxHeartbeats 4000000 in
theorem toSegs_any (a : Option Addr) (len cap : Nat) (S : Nat → Sg) (w : World) (hl : len ≤ 4096) (hgl : ∀ i, i < len → (S i).glen ≤ 1048576) (hT : SegRow w a len S) (hG : ∀ i, i < len → GlobIn w (S i)) :
    Calls Try.prog 24 #[.slice a len cap] w fun e w' => e = .returned (.slice (some ⟨w.heap.size, 0, none⟩) len len) ∧ Below w.heap.size w w' ∧ SegsAs w' (some ⟨w.heap.size, 0, none⟩) len S := by
  have hmk := fun (w : World) => make49 len hl w
  have hrow : ∃ f, (w.alloc (.cells (madeCells #[.bool false, .string ByteArray.empty, .slice none 0 0] (len * 3)) 49)).rowIs w.heap.size 49 (len * 3) f := by
    refine ⟨fun i => (madeCells #[.bool false, .string ByteArray.empty, .slice none 0 0] (len * 3)).getD i undef, ?_⟩
    have h := World.rowIs_alloc w (madeCells #[.bool false, .string ByteArray.empty, .slice none 0 0] (len * 3)) 49 (fun i => (madeCells #[.bool false, .string ByteArray.empty, .slice none 0 0] (len * 3)).getD i undef) (fun i hi => by simp [hi])
    rwa [size_madeCells] at h
  have HROW := hid hrow
  have HT := hid hT
  have HG := hid hG
  have HL := hid hgl
  clear hrow hT hG hgl
  go_enter Try.func24, Try.ntmps24
  go_wp2
  go_loopw [4] (fun iv wq => ∃ (k : Nat), iv = .int .i64 k ∧ k ≤ len ∧ Below w.heap.size w wq ∧ (∃ f, wq.rowIs w.heap.size 49 (len * 3) f ∧ OutS wq w.heap.size S k f)) (fun iv _ => len - (intOf iv).toNat)
  case atStart =>
    obtain ⟨f, hf⟩ := HROW.out
    exact ⟨0, rfl, Nat.zero_le _, (Below.refl _ _).alloc (Nat.le_refl _) _, f, hf, fun i hi => by omega⟩
  case round =>
    obtain ⟨k, rfl, hk, hb, f, hf, ho⟩ := hrel
    by_cases hlt : k < len
    · obtain ⟨b, off, rfl, c0, c1, c2⟩ := HT.out k hlt
      have hbl : b < w.heap.size := World.block_lt_of_cell? w _ c0
      have hbr : b < wr.heap.size := Nat.lt_of_lt_of_le hbl hb.size
      have hsr : w.heap.size < wr.heap.size := hf.lt
      have d0 : wr.cell? ⟨b, off + k * 3, none⟩ = some (.bool (S k).ds) := by rw [hb.cell (p := ⟨b, off + k * 3, none⟩) hbl]; exact c0
      have d1 : wr.cell? ⟨b, off + k * 3 + 1, none⟩ = some (.string (S k).lit) := by rw [hb.cell (p := ⟨b, off + k * 3 + 1, none⟩) hbl]; exact c1
      have d2 : wr.cell? ⟨b, off + k * 3 + 2, none⟩ = some (.slice (S k).ga (S k).glen (S k).gcap) := by rw [hb.cell (p := ⟨b, off + k * 3 + 2, none⟩) hbl]; exact c2
      clear c0 c1 c2
      have HC : Hid (Calls Try.prog 13 #[.slice (S k).ga (S k).glen (S k).gcap] wr.drew fun e w1 => ∃ a1 c1, e = .returned (.slice a1 (S k).glen c1) ∧ Hid (Below wr.heap.size wr w1 ∧ GlobAs w1 (S k) a1 ∧ ∀ ad, a1 = some ad → ad.block = wr.heap.size) ∧
          w1.cell? ⟨b, off + k * 3, none⟩ = some (.bool (S k).ds) ∧ w1.cell? ⟨b, off + k * 3 + 1, none⟩ = some (.string (S k).lit) ∧ w1.cell? ⟨b, off + k * 3 + 2, none⟩ = some (.slice (S k).ga (S k).glen (S k).gcap) ∧
          w1.cell? ⟨w.heap.size, k * 3, none⟩ = some (f (k * 3)) ∧ w1.cell? ⟨w.heap.size, k * 3 + 1, none⟩ = some (f (k * 3 + 1)) ∧ w1.cell? ⟨w.heap.size, k * 3 + 2, none⟩ = some (f (k * 3 + 2)) ∧
          w1.frozen? ⟨w.heap.size, k * 3, none⟩ = false ∧ w1.frozen? ⟨w.heap.size, k * 3 + 1, none⟩ = false ∧ w1.frozen? ⟨w.heap.size, k * 3 + 2, none⟩ = false ∧ w.heap.size < w1.heap.size ∧ b < w1.heap.size) := by
        refine (toToks_as (S k) wr.drew (HL.out k hlt) (HG.out k hlt).nil (tokRow_below (w' := wr.drew) hb.drew (HG.out k hlt).row)).mono ?_
        rintro e w1 ⟨a1, c1, rfl, hb1', hg1, hbk⟩
        have hb1 : Below wr.heap.size wr w1 := ⟨hb1'.os, hb1'.tape, hb1'.output, hb1'.size, hb1'.block⟩
        have hf1 : w1.rowIs w.heap.size 49 (len * 3) f := hf.of_block (hb1.block _ hsr)
        refine ⟨a1, c1, rfl, ⟨hb1, hg1, hbk⟩, ?_, ?_, ?_, hf1.cell (by omega), hf1.cell (by omega), hf1.cell (by omega), hf1.frozen _, hf1.frozen _, hf1.frozen _, hf1.lt, Nat.lt_of_lt_of_le hbr hb1.size⟩
        · rw [hb1.cell (p := ⟨b, off + k * 3, none⟩) hbr]; exact d0
        · rw [hb1.cell (p := ⟨b, off + k * 3 + 1, none⟩) hbr]; exact d1
        · rw [hb1.cell (p := ⟨b, off + k * 3 + 2, none⟩) hbr]; exact d2
      have n0 : wr.heap.size ≠ b := by omega
      have n1 : wr.heap.size ≠ w.heap.size := by omega
      have n2 : w.heap.size ≠ b := by omega
      have HB := hid hb
      have HF := hid hf
      have HO := hid ho
      clear hb hf ho
      have i0 : (0 : Int) ≤ (k : Int) := by omega
      have i1 : (k : Int) < (len : Int) := by omega
      go_wp2
      go_region_held3 (fun w' => w'.cell? ⟨b, off + k * 3, none⟩ = some (.bool (S k).ds) ∧ w'.cell? ⟨b, off + k * 3 + 1, none⟩ = some (.string (S k).lit) ∧ w'.cell? ⟨b, off + k * 3 + 2, none⟩ = some (.slice (S k).ga (S k).glen (S k).gcap)) (go_keep) (first | (go_at_call 13; refine HC.out.mono ?_; rintro e w1 ⟨a1, c1, rfl, HA, g0, g1, g2, o0, o1, o2, z0, z1, z2, n3, n4⟩) | (go_at_call 28; refine (zzSeg_any _ _ _ _ _ _).mono ?_; rintro e w' ⟨rfl, rfl⟩))
      go_wp2
      go_roundw
      case rel => exact ⟨k + 1, by go_num, by omega, segs_step HB.out HF.out HO.out HA.out.1 HA.out.2.1 HA.out.2.2 _⟩
      case measure => simp [intOf]; omega
    · go_wp2
      go_ret
      obtain rfl : k = len := by omega
      exact ⟨rfl, hb, segsAs_out hf ho⟩
end Go.Proofs.Qxb6602438a
