/-
  THE PROOF OF 'Rows.FnMatchElemsEqualsTableModelSaid'. The frame is the guide's own template at this function's number and types; the walk is filled in out of the contracts of the texts imported.
-/
import Derived.Test.Qxb6602438aRows
import Derived.Test.Qxb6602438aZz
import Derived.Test.Qxb6602438aElemsModel
import Derived.Test.Qxb6602438aOpenSegs
import Derived.WalkKit
import Derived.ProofKit
import Derived.OpenShut
import Derived.ShutString
import Derived.ChangeOld
import Derived.Below
namespace Go.Proofs.Qxb6602438a.fnMatchElemsEqualsTableModel
open Go.ChangeShapes Go.WideShapes Go.ChangeAt Go.RowKit
set_option linter.unusedVariables false

theorem own : ownKnob Try.prog.godebug = none := by kernel_rfl
theorem laidOut : laidOutB Try.prog = true := by kernel_rfl

theorem below_draws {B : Nat} {w w' : World} (h : Below B w w') (n : Nat) : Below B w (w'.drewN n) := ⟨h.os, h.tape, h.output, h.size, h.block⟩
theorem setOr_below {w w' : World} {p : Option Addr} {W : Nat → Nat} (hb : Below w.heap.size w w') (h : SetOr w p W) : SetOr w' p W := by
  rcases h with h | ⟨b, off, e, hc⟩
  · exact Or.inl h
  · refine Or.inr ⟨b, off, e, fun j hj => ⟨?_, (hc j hj).2⟩⟩
    have hbl : b < w.heap.size := World.block_lt_of_cell? w _ (hc j hj).1
    rw [hb.cell (p := ⟨b, off + j, none⟩) hbl]; exact (hc j hj).1
theorem globIn_below {w w' : World} {s : Sg} (hb : Below w.heap.size w w') (h : GlobIn w s) : GlobIn w' s :=
  ⟨h.len, h.nil, tokRow_below hb h.row, h.txt, fun i hi => setOr_below hb (h.set i hi)⟩
theorem sets_in {w : World} {s : Sg} (h : GlobIn w s) (hok : ∀ j, j < s.glen → (s.T j).kind = 3 → (s.T j).set ≠ none) : SetsAt w s.glen s.T s.W := by
  intro i hi hk
  rcases h.set i hi with g | g
  · exact absurd g (hok i hi hk)
  · exact g

set_option maxHeartbeats 400000 in
theorem zzMatchElems_any (a : Option Addr) (len cap : Nat) (S : Nat → Sg) (a1 : Option Addr) (ne c1 : Nat) (E : Nat → ByteArray) (w : World) (hl : len ≤ 4096) (hne : ne ≤ 4096) (hEs : ∀ i, i < ne → (E i).size ≤ 9223372036854775807)
    (hgl : ∀ i, i < len → (S i).glen ≤ 1048576) (hT : SegsAs w a len S) (hS : ∀ i, i < len → SetsAt w (S i).glen (S i).T (S i).W) (hE : ElemRow w a1 ne E) :
    Calls Try.prog 23 #[.slice a len cap, .slice a1 ne c1] w fun e w' => e = .returned (.bool (M (gSeg S E) len ne 0 0)) ∧ ∃ n, w' = w.drewN n := by
  have HC := hid (matchElems_any a len cap S a1 ne c1 E w hl hne hEs hgl hT hS hE)
  clear hT hS hE hEs hgl
  go_enter Try.func23, Try.ntmps23
  go_wp2_with fail
  refine HC.out.mono ?_
  rintro e w' ⟨rfl, n, rfl⟩
  go_wp2
  go_ret
  exact ⟨rfl, n, rfl⟩

/-- what stands ahead of the three last calls, in whatever world the elements' copy has left -/
structure Fit (w : World) (a0 : Option Addr) (len : Nat) (S : Nat → Sg) (a1 : Option Addr) (ne : Nat) (E : Nat → ByteArray) : Prop where
  hlen : len ≤ 4096
  hne : ne ≤ 4096
  few : ∀ i, i < len → (S i).glen ≤ 1048576
  row : SegRow w a0 len S
  globs : ∀ i, i < len → GlobIn w (S i)
  ok : OkAll S len
  elems : ElemRow w a1 ne E
  sizes : ∀ i, i < ne → (E i).size ≤ 9223372036854775807

theorem Fit.sets {w : World} {a0 : Option Addr} {len : Nat} {S : Nat → Sg} {a1 : Option Addr} {ne : Nat} {E : Nat → ByteArray} (h : Fit w a0 len S a1 ne E) : ∀ i, i < len → SetsAt w (S i).glen (S i).T (S i).W :=
  fun i hi => sets_in (h.globs i hi) (h.ok i hi)
theorem Fit.below {w w' : World} {a0 : Option Addr} {len : Nat} {S : Nat → Sg} {a1 : Option Addr} {ne : Nat} {E : Nat → ByteArray} (h : Fit w a0 len S a1 ne E) (hb : Below w.heap.size w w') : Fit w' a0 len S a1 ne E :=
  ⟨h.hlen, h.hne, h.few, segRow_below hb h.row, fun i hi => globIn_below hb (h.globs i hi), h.ok, elemRow_below hb h.elems, h.sizes⟩

set_option maxHeartbeats 8000000 in
theorem walk (a0 : Option Addr) (len cap : Nat) (S : Nat → Sg) (a1 : Option Addr) (ne cap1 : Nat) (E : Nat → ByteArray) (w : World) (hl : len ≤ maxLen) (hT : SegRow w a0 len S) (hG : ∀ i, i < len → GlobIn w (S i))
    (hne : ne ≤ maxLen) (hnil : a1 = none → ne = 0) (hE : ElemRow w a1 ne E) (hEs : ∀ i, i < ne → (E i).size ≤ maxLen) :
    Calls Try.prog 6 #[.slice a0 len cap, .slice a1 ne cap1] w fun e w' => e = .returned (.bool true) ∧ Below w.heap.size w w' := by
  have HZ := hid (zzElems_any a0 len cap S a1 ne cap1 E w hl hne hT hG hE)
  have HO := hid (segsOK_any a0 len cap S w hl hT hG)
  have HB1 := hid (stringsBytes_any 0 a1 ne cap1 E w (by omega) (by omega) hne hE)
  have HB2 : Hid (len ≤ 4096 → ∀ z : Int, 0 ≤ z → z ≤ 2097152 → Calls Try.prog 20 #[.int .i64 z, .slice a0 len cap] w fun e w' => RetI (fun z => z ≤ 1048576 → ∀ j, j < len → (S j).glen ≤ 1048576) e ∧ w' = w) := fun h z z1 z2 => segBytes_any z a0 len cap S w z1 z2 h hT hG
  have HT := hid hT
  have HG := hid hG
  have HE := hid hE
  have HX : Hid (∀ i, i < ne → (E i).size ≤ 9223372036854775807) := fun i hi => by have := hEs i hi; unfold maxLen at this; omega
  have HN := hid hnil
  clear hT hG hE hEs hnil
  unfold maxLen at hl hne
  have hnn := neNil38
  go_enter Try.func6, Try.ntmps6
  go_wp2_with fail
  refine HZ.out.mono ?_
  rintro e w' ⟨⟨b1, rfl, _⟩, rfl⟩
  cases b1 with
  | false =>
    go_wp2
    go_ret
    exact ⟨rfl, Below.refl _ _⟩
  | true =>
    by_cases h1 : (4096 : Int) < (len : Int)
    · go_wp2
      go_ret
      exact ⟨rfl, Below.refl _ _⟩
    · by_cases h2 : (4096 : Int) < (ne : Int)
      · go_wp2
        go_ret
        exact ⟨rfl, Below.refl _ _⟩
      · go_wp2_with fail
        refine HB1.out.mono ?_
        rintro e w' ⟨⟨z1, rfl, y1, y2⟩, rfl⟩
        go_wp2_with fail
        refine (HB2.out (by omega) z1 y1 y2).mono ?_
        rintro e w' ⟨⟨z, rfl, hfew⟩, rfl⟩
        have HFEW := hid hfew
        clear hfew
        by_cases h3 : 1048576 < z
        · go_wp2
          go_ret
          exact ⟨rfl, Below.refl _ _⟩
        · go_wp2_with fail
          refine HO.out.mono ?_
          rintro e w' ⟨⟨b2, rfl, hok⟩, rfl⟩
          cases b2 with
          | false =>
            go_wp2
            go_ret
            exact ⟨rfl, Below.refl _ _⟩
          | true =>
            have FIT0 : Hid (Fit w' a0 len S a1 ne E) := ⟨by omega, by omega, HFEW.out (by omega), HT.out, HG.out, hok rfl, HE.out, HX.out⟩
            clear hok HZ HO HB1 HB2 HFEW
            cases a1 with
            | none =>
              have FIT := FIT0
              have HBW := hid (Below.refl w'.heap.size w')
              have HC1 := hid (toSegs_any a0 len cap S _ FIT.out.hlen FIT.out.few FIT.out.row FIT.out.globs)
              go_wp2_with fail
              refine HC1.out.mono ?_
              rintro e w3 ⟨rfl, hb3, hs3⟩
              have FIT3 := hid (FIT.out.below hb3)
              have HB3 := hid hb3
              have HC2 := hid (zzMatchElems_any _ len len S _ ne cap1 E w3 FIT3.out.hlen FIT3.out.hne FIT3.out.sizes FIT3.out.few hs3 FIT3.out.sets FIT3.out.elems)
              clear hb3 hs3
              go_wp2_with fail
              refine HC2.out.mono ?_
              rintro e w4 ⟨rfl, n4, rfl⟩
              have HB4 := hid (below_draws (Below.refl w3.heap.size w3) n4)
              have FIT4 := hid (FIT3.out.below HB4.out)
              have HC3 := hid (elemsModel_any a0 len cap S _ ne cap1 E (w3.drewN n4) FIT4.out.hlen FIT4.out.hne FIT4.out.sizes FIT4.out.few FIT4.out.row (fun i hi => (FIT4.out.globs i hi).nil) (fun i hi => (FIT4.out.globs i hi).row) FIT4.out.sets FIT4.out.elems)
              go_wp2_with fail
              refine HC3.out.mono ?_
              rintro e w5 ⟨rfl, hb5⟩
              have HB5 := hid hb5
              clear hb5
              go_wp2
              go_ret
              exact ⟨by simp, HBW.out.trans ((HB3.out.trans ((HB4.out.trans (HB5.out.mono HB4.out.size)).mono HB3.out.size)).mono HBW.out.size)⟩
            | some ad =>
              obtain ⟨w2, hcp, hb2, he2⟩ := copy38 ad ne cap1 E w' HE.out
              have hmk := fun (w : World) => make38 ne (by omega) w
              have HBW := hid hb2
              have FIT : Hid (Fit w2 a0 len S (some ⟨w'.heap.size, 0, none⟩) ne E) := by
                have h := FIT0.out.below hb2
                exact ⟨h.hlen, h.hne, h.few, h.row, h.globs, h.ok, he2, h.sizes⟩
              clear hb2 he2
              have HC1 := hid (toSegs_any a0 len cap S _ FIT.out.hlen FIT.out.few FIT.out.row FIT.out.globs)
              go_wp2_with fail
              refine HC1.out.mono ?_
              rintro e w3 ⟨rfl, hb3, hs3⟩
              have FIT3 := hid (FIT.out.below hb3)
              have HB3 := hid hb3
              have HC2 := hid (zzMatchElems_any _ len len S _ ne ne E w3 FIT3.out.hlen FIT3.out.hne FIT3.out.sizes FIT3.out.few hs3 FIT3.out.sets FIT3.out.elems)
              clear hb3 hs3
              go_wp2_with fail
              refine HC2.out.mono ?_
              rintro e w4 ⟨rfl, n4, rfl⟩
              have HB4 := hid (below_draws (Below.refl w3.heap.size w3) n4)
              have FIT4 := hid (FIT3.out.below HB4.out)
              have HC3 := hid (elemsModel_any a0 len cap S _ ne ne E (w3.drewN n4) FIT4.out.hlen FIT4.out.hne FIT4.out.sizes FIT4.out.few FIT4.out.row (fun i hi => (FIT4.out.globs i hi).nil) (fun i hi => (FIT4.out.globs i hi).row) FIT4.out.sets FIT4.out.elems)
              go_wp2_with fail
              refine HC3.out.mono ?_
              rintro e w5 ⟨rfl, hb5⟩
              have HB5 := hid hb5
              clear hb5
              go_wp2
              go_ret
              exact ⟨by simp, HBW.out.trans ((HB3.out.trans ((HB4.out.trans (HB5.out.mono HB4.out.size)).mono HB3.out.size)).mono HBW.out.size)⟩

/-! ### THE ROW's STEP: WRITTEN OUT: LEAVE IT -/
set_option maxRecDepth 100000 in
theorem lifted (os : Os) (started : os.Started) (H : Type) (enc : TypeId × Value → H) :
    ReturnsInHanded {} Try.checked os 6 .any (Rows.fnMatchElemsEqualsTableModelSpec.pre6 enc Try.prog Try.f6 Rows.fnMatchElemsEqualsTableModelRow.domain false) (Rows.fnMatchElemsEqualsTableModelSpec.post enc Try.prog Try.f6 false true false false) := by
  refine returnsInHanded_of_change (C := Try.checked) own started (by kernel_rfl) Try.func6
    (ChangeSpec.witness6 (enc := enc) (C := Try.checked) false ⟨#[], #[.slice none 0 0, .slice none 0 0], []⟩ 8 (by kernel_rfl) (by kernel_rfl) (by kernel_rfl) (by kernel_rfl)) ?_
  intro W base args ds gs before hval0 hW hcnd _
  have hval : ∀ (j : Nat) t v, Try.f6.params[j]? = some t → args[j]? = some v → Value.okWide Try.prog W .any base t v := hval0
  have hW' := hW
  obtain ⟨p, q, hA0, hV, rfl, hfz, hnd⟩ := hW
  have hA : DataW.TrodAll enc Try.prog W 0 (fun _ => true) true Try.f6.params.toList args.toList ds p := hA0
  rw [Try.params6] at hA hval
  obtain ⟨v0, vs0, d0, ds0, p0, q0, hargs, rfl, rfl, h0, r0⟩ := trodAll_cons hA
  obtain ⟨v1, vs1, d1, ds1, p1, q1, rfl, rfl, rfl, h1, r1⟩ := trodAll_cons r0
  obtain ⟨rfl, rfl, rfl⟩ := trodAll_nil r1
  obtain rfl : args = #[v0, v1] := by cases args; simp_all
  obtain ⟨rfl, rfl⟩ := trodVars_none hV
  obtain ⟨a0, len0, cap0, rfl⟩ := okWide_slice Try.underlying37 (hval 0 37 v0 rfl rfl)
  have k0 := h0
  have lt0 : ∀ x ∈ p0, x.block < W.heap.size := by obtain ⟨m, hm⟩ := k0; exact DataW.trod_lt m _ _ _ hm
  obtain ⟨S, g1, g2, g3⟩ : ∃ (S : Nat → Sg), len0 ≤ maxLen ∧ SegRow W a0 len0 S ∧ ∀ i, i < len0 → GlobIn W (S i) := by
    obtain ⟨fuel, hf⟩ := h0
    obtain ⟨a, l, c, S, hcs, g1, g2, g3⟩ := segs_open hf
    simp [Value.cells] at hcs
    obtain ⟨rfl, rfl, rfl⟩ := hcs
    exact ⟨S, g1, g2, g3⟩
  obtain ⟨a1, len1, cap1, rfl⟩ := okWide_slice Try.underlying38 (hval 1 38 v1 rfl rfl)
  have k1 := h1
  have lt1 : ∀ x ∈ p1, x.block < W.heap.size := by obtain ⟨m, hm⟩ := k1; exact DataW.trod_lt m _ _ _ hm
  obtain ⟨E, e1, e2, e3, e4⟩ : ∃ (E : Nat → ByteArray), len1 ≤ maxLen ∧ (a1 = none → len1 = 0) ∧ ElemRow W a1 len1 E ∧ ∀ i, i < len1 → (E i).size ≤ maxLen := by
    obtain ⟨fuel, hf⟩ := h1
    obtain ⟨a, l, c, E, hcs, g1, g2, g3, g4⟩ := elems_open hf
    simp [Value.cells] at hcs
    obtain ⟨rfl, rfl, rfl⟩ := hcs
    exact ⟨E, g1, g2, g3, g4⟩
  clear hA0 hval0
  refine (walk a0 len0 cap0 S a1 len1 cap1 E W g1 g2 g3 e1 e2 e3 e4).mono fun e W' ⟨he, bel⟩ => ?_
  subst he
  exact ⟨_, rfl, _, _, _, [], _, [], hW', trodAll_mk1 (shut_bool Try.underlying4 _), (trodAll_cons_mk (Below.trod laidOut (by kernel_rfl) (of_decide_eq_true (by kernel_rfl)) k0 bel lt0) (trodAll_cons_mk (Below.trod laidOut (by kernel_rfl) (of_decide_eq_true (by kernel_rfl)) k1 bel lt1) trodAll_mk0)), rfl, bel.frame _, fun h => by cases h⟩

theorem over : Rows.fnMatchElemsEqualsTableModelRow.holds Try.pinned (OpenSpec.ofChange Rows.fnMatchElemsEqualsTableModelSpec) :=
  OpenClaim.holds_of_wide 6 Try.f6 rfl rfl rfl rfl rfl rfl rfl ⟨rfl, rfl, rfl, rfl, rfl⟩ rfl rfl rfl rfl rfl (by kernel_rfl) Try.func6 (by kernel_rfl)
    (of_decide_eq_true (by kernel_rfl)) (by unfold Func.isWrapper; first | (rw [if_pos (by decide +kernel)]; kernel_rfl) | (rw [if_neg (by decide +kernel)]; exact ⟨rfl, rfl⟩))
    (fun os started H enc _ => lifted os started H enc)

/-- ████ THE STATEMENT ████ -/
theorem proved : Rows.FnMatchElemsEqualsTableModelSaid := over
end Go.Proofs.Qxb6602438a.fnMatchElemsEqualsTableModel
