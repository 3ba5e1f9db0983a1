/-
  THE PROOF OF 'Rows.FnMatchGlobEqualsTableModelSaid'. The frame is the guide's own template at this function's number and types; the walk is filled in out of the contracts of the texts imported.
-/
import Derived.Test.Qxb6602438aRows
import Derived.Test.Qxb6602438aModel
import Derived.Test.Qxb6602438aOpen
import Derived.WalkKit
import Derived.ProofKit
import Derived.OpenShut
import Derived.ShutString
import Derived.ChangeOld
import Derived.Below
namespace Go.Proofs.Qxb6602438a.fnMatchGlobEqualsTableModel
open Go.ChangeShapes Go.WideShapes Go.ChangeAt Go.RowKit
open Go.ChangeMaps (open_string shut_string)
set_option linter.unusedVariables false

theorem own : ownKnob Try.prog.godebug = none := by kernel_rfl
theorem laidOut : laidOutB Try.prog = true := by kernel_rfl

/-- tokens and sets behind a call that made memory alone -/
theorem tokRow_below {w w' : World} {a : Option Addr} {len : Nat} {T : Nat → Tk} (hb : Below w.heap.size w w') (h : TokRow w a len T) : TokRow w' a len T := by
  intro i hi
  obtain ⟨b, off, e, c0, c1, c2⟩ := h i hi
  have hbl : b < w.heap.size := World.block_lt_of_cell? w _ c0
  exact ⟨b, off, e, by rw [hb.cell (p := ⟨b, off + i * 3, none⟩) hbl]; exact c0, by rw [hb.cell (p := ⟨b, off + i * 3 + 1, none⟩) hbl]; exact c1, by rw [hb.cell (p := ⟨b, off + i * 3 + 2, none⟩) hbl]; exact c2⟩
theorem setsAt_below {w w' : World} {len : Nat} {T : Nat → Tk} {W : Nat → Nat → Nat} (hb : Below w.heap.size w w') (h : SetsAt w len T W) : SetsAt w' len T W := by
  intro i hi hk
  obtain ⟨b, off, e, hc⟩ := h i hi hk
  refine ⟨b, off, e, fun j hj => ⟨?_, (hc j hj).2⟩⟩
  have hbl : b < w.heap.size := World.block_lt_of_cell? w _ (hc j hj).1
  rw [hb.cell (p := ⟨b, off + j, none⟩) hbl]; exact (hc j hj).1
theorem tokRow_out {w : World} {nb len : Nat} {T : Nat → Tk} {f : Nat → Value} (hf : w.rowIs nb 34 (len * 3) f) (ho : Out T len f) : TokRow w (some ⟨nb, 0, none⟩) len T := by
  intro i hi
  obtain ⟨h0, h1, h2⟩ := ho i hi
  refine ⟨nb, 0, rfl, ?_, ?_, ?_⟩
  · rw [Nat.zero_add, hf.cell (by omega), h0]
  · rw [Nat.zero_add, hf.cell (by omega), h1]
  · rw [Nat.zero_add, hf.cell (by omega), h2]

set_option maxHeartbeats 400000 in
theorem zzMatch_any (a : Option Addr) (len cap : Nat) (T : Nat → Tk) (W : Nat → Nat → Nat) (s : ByteArray) (w : World) (hl : len ≤ 4611686018427387904) (hs : s.size ≤ 4611686018427387904)
    (hT : TokRow w a len T) (hS : SetsAt w len T W) :
    Calls Try.prog 12 #[.slice a len cap, .string s] w fun e w' => e = .returned (.bool (M (gTok T W s) len s.size 0 0)) ∧ ∃ n, w' = w.drewN n := by
  have HC := hid (matchGlob_any a len cap T W s w hl hs hT hS)
  clear hT hS
  go_enter Try.func12, Try.ntmps12
  go_wp2_with fail
  refine HC.out.mono ?_
  rintro e w' ⟨rfl, n, rfl⟩
  go_wp2
  go_ret
  exact ⟨rfl, n, rfl⟩

/-- toToks and ZZMatchGlob, one behind the other, whatever the slice -/
theorem both (a : Option Addr) (len cap : Nat) (T : Nat → Tk) (W : Nat → Nat → Nat) (s : ByteArray) (w : World) (hl : len ≤ 4096) (hs : s.size ≤ 4096) (hnil : a = none → len = 0)
    (hT : TokRow w a len T) (hS : SetsAt w len T W) :
    Calls Try.prog 13 #[.slice a len cap] w fun e w1 => ∃ a1 c1, e = .returned (.slice a1 len c1) ∧ Below w.heap.size w w1 ∧ TokRow w1 a1 len T := by
  cases a with
  | none =>
    have h0 := hnil rfl
    subst h0
    refine (toToks_nil 0 cap w).mono ?_
    rintro e w' ⟨rfl, rfl⟩
    exact ⟨none, 0, rfl, Below.refl _ _, fun i hi => absurd hi (by omega)⟩
  | some ad =>
    refine (toToks_row ad len cap T w (by omega) hT).mono ?_
    rintro e w' ⟨rfl, hb, f, hf, ho⟩
    exact ⟨_, _, rfl, hb, tokRow_out hf ho⟩

theorem below_draws {B : Nat} {w w' : World} (h : Below B w w') (n : Nat) : Below B w (w'.drewN n) := ⟨h.os, h.tape, h.output, h.size, h.block⟩

/-- what is left behind the last test -/
theorem sets_of {w : World} {len : Nat} {T : Nat → Tk} {W : Nat → Nat → Nat} (hS : ∀ i, i < len → SetOr w (T i).set (W i)) (hok : ∀ i, i < len → (T i).kind = 3 → (T i).set ≠ none) : SetsAt w len T W := by
  intro i hi hk
  rcases hS i hi with h | h
  · exact absurd h (hok i hi hk)
  · exact h

set_option maxHeartbeats 4000000 in
theorem walk (a0 : Option Addr) (len cap : Nat) (T : Nat → Tk) (W : Nat → Nat → Nat) (s : ByteArray) (w : World) (hl : len ≤ maxLen) (hnil : a0 = none → len = 0)
    (hT : TokRow w a0 len T) (htx : ∀ i, i < len → (T i).text.size ≤ maxLen) (hS : ∀ i, i < len → SetOr w (T i).set (W i)) :
    Calls Try.prog 3 #[.slice a0 len cap, .string s] w fun e w' => e = .returned (.bool true) ∧ Below w.heap.size w w' := by
  have HZ := hid (zzBytes_any a0 len cap T s w hl hT)
  have HO := hid (globOK_any a0 len cap T w hl hT)
  have HG : Hid (s.size ≤ 4096 → Calls Try.prog 10 #[.int .i64 (s.size : Int), .slice a0 len cap] w fun e w' => RetI (fun z => 0 ≤ z ∧ z ≤ 2097152) e ∧ w' = w) := fun h => globBytes_any (s.size : Int) a0 len cap T w (by omega) (by omega) hl hT
  have HT := hid hT
  have HS := hid hS
  have HX := hid htx
  have HN := hid hnil
  clear hT hS htx hnil
  unfold maxLen at hl
  go_enter Try.func3, Try.ntmps3
  go_wp2_with fail
  refine HZ.out.mono ?_
  rintro e w' ⟨⟨b1, rfl, _⟩, rfl⟩
  cases b1 with
  | false =>
    go_wp2
    go_ret
    exact ⟨rfl, Below.refl _ _⟩
  | true =>
    by_cases h1 : (4096 : Int) < (len : Int)
    · go_wp2
      go_ret
      exact ⟨rfl, Below.refl _ _⟩
    · by_cases h2 : (4096 : Int) < (s.size : Int)
      · go_wp2
        go_ret
        exact ⟨rfl, Below.refl _ _⟩
      · go_wp2_with fail
        refine (HG.out (by omega)).mono ?_
        rintro e w' ⟨⟨z, rfl, z1, z2⟩, rfl⟩
        by_cases h3 : 1048576 < z
        · go_wp2
          go_ret
          exact ⟨rfl, Below.refl _ _⟩
        · go_wp2_with fail
          refine HO.out.mono ?_
          rintro e w' ⟨⟨b2, rfl, hok⟩, rfl⟩
          cases b2 with
          | false =>
            go_wp2
            go_ret
            exact ⟨rfl, Below.refl _ _⟩
          | true =>
            have HA := hid (sets_of HS.out (hok rfl))
            clear hok
            go_wp2_with fail
            refine (both a0 len cap T W s w' (by omega) (by omega) HN.out HT.out HA.out).mono ?_
            rintro e w1 ⟨a1, c1, rfl, hb1, ht1⟩
            have HB1 := hid hb1
            have HC1 := hid (zzMatch_any a1 len c1 T W s w1 (by omega) (by omega) ht1 (setsAt_below hb1 HA.out))
            clear hb1 ht1
            go_wp2_with fail
            refine HC1.out.mono ?_
            rintro e w2 ⟨rfl, n2, rfl⟩
            have HB2 := hid (below_draws HB1.out n2)
            have HC2 := hid (globModel_any a0 len cap T W s (w1.drewN n2) (by omega) (by omega) HX.out (tokRow_below HB2.out HT.out) (setsAt_below HB2.out HA.out))
            go_wp2_with fail
            refine HC2.out.mono ?_
            rintro e w3 ⟨rfl, hb3⟩
            have HB3 := hid (HB2.out.trans (hb3.mono HB2.out.size))
            clear hb3
            go_wp2
            go_ret
            exact ⟨by simp, HB3.out⟩

/-! ### THE ROW's STEP: WRITTEN OUT: LEAVE IT -/
set_option maxRecDepth 100000 in
theorem lifted (os : Os) (started : os.Started) (H : Type) (enc : TypeId × Value → H) :
    ReturnsInHanded {} Try.checked os 3 .any (Rows.fnMatchGlobEqualsTableModelSpec.pre6 enc Try.prog Try.f3 Rows.fnMatchGlobEqualsTableModelRow.domain false) (Rows.fnMatchGlobEqualsTableModelSpec.post enc Try.prog Try.f3 false true false false) := by
  refine returnsInHanded_of_change (C := Try.checked) own started (by kernel_rfl) Try.func3
    (ChangeSpec.witness6 (enc := enc) (C := Try.checked) false ⟨#[], #[.slice none 0 0, .string ByteArray.empty], []⟩ 8 (by kernel_rfl) (by kernel_rfl) (by kernel_rfl) (by kernel_rfl)) ?_
  intro W base args ds gs before hval0 hW hcnd _
  have hval : ∀ (j : Nat) t v, Try.f3.params[j]? = some t → args[j]? = some v → Value.okWide Try.prog W .any base t v := hval0
  have hW' := hW
  obtain ⟨p, q, hA0, hV, rfl, hfz, hnd⟩ := hW
  have hA : DataW.TrodAll enc Try.prog W 0 (fun _ => true) true Try.f3.params.toList args.toList ds p := hA0
  rw [Try.params3] at hA hval
  obtain ⟨v0, vs0, d0, ds0, p0, q0, hargs, rfl, rfl, h0, r0⟩ := trodAll_cons hA
  obtain ⟨v1, vs1, d1, ds1, p1, q1, rfl, rfl, rfl, h1, r1⟩ := trodAll_cons r0
  obtain ⟨rfl, rfl, rfl⟩ := trodAll_nil r1
  obtain rfl : args = #[v0, v1] := by cases args; simp_all
  obtain ⟨rfl, rfl⟩ := trodVars_none hV
  obtain ⟨a0, len0, cap0, rfl⟩ := okWide_slice Try.underlying22 (hval 0 22 v0 rfl rfl)
  have k0 := h0
  have lt0 : ∀ x ∈ p0, x.block < W.heap.size := by obtain ⟨m, hm⟩ := k0; exact DataW.trod_lt m _ _ _ hm
  obtain ⟨T, Wd, g1, g2, g3, g4, g5⟩ : ∃ (T : Nat → Tk) (Wd : Nat → Nat → Nat), len0 ≤ maxLen ∧ (a0 = none → len0 = 0) ∧ TokRow W a0 len0 T ∧ (∀ i, i < len0 → (T i).text.size ≤ maxLen) ∧ ∀ i, i < len0 → SetOr W (T i).set (Wd i) := by
    obtain ⟨fuel, hf⟩ := h0
    obtain ⟨a, l, c, T, Wd, hcs, g1, g2, g3, g4, g5⟩ := toks_open hf
    simp [Value.cells] at hcs
    obtain ⟨rfl, rfl, rfl⟩ := hcs
    exact ⟨T, Wd, g1, g2, g3, g4, g5⟩
  have k1 := h1
  have lt1 : ∀ x ∈ p1, x.block < W.heap.size := by obtain ⟨m, hm⟩ := k1; exact DataW.trod_lt m _ _ _ hm
  obtain ⟨s1, rfl, _, _, w1⟩ := open_string Try.underlying9 (hval 1 9 v1 rfl rfl) h1
  clear hA0 hval0
  refine (walk a0 len0 cap0 T Wd s1 W g1 g2 g3 g4 g5).mono fun e W' ⟨he, bel⟩ => ?_
  subst he
  exact ⟨_, rfl, _, _, _, [], _, [], hW', trodAll_mk1 (shut_bool Try.underlying4 _), (trodAll_cons_mk (Below.trod laidOut (by kernel_rfl) (of_decide_eq_true (by kernel_rfl)) k0 bel lt0) (trodAll_cons_mk (Below.trod laidOut (by kernel_rfl) (of_decide_eq_true (by kernel_rfl)) k1 bel lt1) trodAll_mk0)), rfl, bel.frame _, fun h => by cases h⟩

theorem over : Rows.fnMatchGlobEqualsTableModelRow.holds Try.pinned (OpenSpec.ofChange Rows.fnMatchGlobEqualsTableModelSpec) :=
  OpenClaim.holds_of_wide 3 Try.f3 rfl rfl rfl rfl rfl rfl rfl ⟨rfl, rfl, rfl, rfl, rfl⟩ rfl rfl rfl rfl rfl (by kernel_rfl) Try.func3 (by kernel_rfl)
    (of_decide_eq_true (by kernel_rfl)) (by unfold Func.isWrapper; first | (rw [if_pos (by decide +kernel)]; kernel_rfl) | (rw [if_neg (by decide +kernel)]; exact ⟨rfl, rfl⟩))
    (fun os started H enc _ => lifted os started H enc)

/-- ████ THE STATEMENT ████ -/
theorem proved : Rows.FnMatchGlobEqualsTableModelSaid := over
end Go.Proofs.Qxb6602438a.fnMatchGlobEqualsTableModel
