/- The walks of (*segment).matches, ZZMatchGlob, nameMatches; a segment's meaning. -/
import Derived.Test.Qxb6602438aSegs
namespace Go.Proofs.Qxb6602438a
open Go.RowKit

/-- does the segment's name test accept the name? -/
def segOk (s : Sg) (nm : ByteArray) : Bool := if s.ga.isNone then s.lit.toList == nm.toList else M (gTok s.T s.W nm) s.glen nm.size 0 0
def gSeg (S : Nat → Sg) (E : Nat → ByteArray) (i : Nat) : G := { star := (S i).ds, len := 1, ok := fun e => segOk (S i) (E e) }

theorem segOk_nil {s : Sg} {nm : ByteArray} (h : s.ga = none) : segOk s nm = (s.lit.toList == nm.toList) := by simp [segOk, h]
theorem segOk_nil' {s : Sg} {nm : ByteArray} (h : s.ga = none) : segOk s nm = (nm.toList == s.lit.toList) := by
  rw [segOk_nil h]
  rw [Bool.eq_iff_iff]; simp only [beq_iff_eq]; exact eq_comm
theorem segOk_some {s : Sg} {nm : ByteArray} (h : s.ga ≠ none) : segOk s nm = M (gTok s.T s.W nm) s.glen nm.size 0 0 := by
  unfold segOk
  cases hg : s.ga with
  | none => exact absurd hg h
  | some a => simp

/-- the glob that was made out of a segment's tokens: nil just where that is nil -/
structure GlobAs (w : World) (s : Sg) (a : Option Addr) : Prop where
  nil : a.isNone = s.ga.isNone
  row : TokRow w a s.glen s.T

theorem eqNil27 (w : World) (a : Option Addr) (n c n' c' : Nat) : (binOp .eql 27 (.slice a n c) (.slice none n' c')).run Try.prog w = .ok (.bool a.isNone) w := Lib.run_eql_slice_nil w _ _ a n c n' c' Try.underlying27

set_option maxHeartbeats 400000 in
theorem zzMatchGlob_any (a : Option Addr) (len cap : Nat) (T : Nat → Tk) (W : Nat → Nat → Nat) (s : ByteArray) (w : World) (hl : len ≤ 4611686018427387904) (hs : s.size ≤ 9223372036854775807)
    (hT : TokRow w a len T) (hS : SetsAt w len T W) :
    Calls Try.prog 12 #[.slice a len cap, .string s] w fun e w' => e = .returned (.bool (M (gTok T W s) len s.size 0 0)) ∧ ∃ n, w' = w.drewN n := by
  have HC := hid (matchGlob_any a len cap T W s w hl hs hT hS)
  clear hT hS
  go_enter Try.func12, Try.ntmps12
  go_wp2_with fail
  refine HC.out.mono ?_
  rintro e w' ⟨rfl, n, rfl⟩
  go_wp2
  go_ret
  exact ⟨rfl, n, rfl⟩

set_option maxHeartbeats 1000000 in
theorem segMatches_any (b off : Nat) (s : Sg) (a : Option Addr) (c : Nat) (nm : ByteArray) (w : World) (hl : s.glen ≤ 4611686018427387904) (hs : nm.size ≤ 9223372036854775807)
    (c1 : w.cell? ⟨b, off + 1, none⟩ = some (.string s.lit)) (c2 : w.cell? ⟨b, off + 2, none⟩ = some (.slice a s.glen c)) (hA : GlobAs w s a) (hS : SetsAt w s.glen s.T s.W) :
    Calls Try.prog 39 #[.pointer (some ⟨b, off, none⟩), .string nm] w fun e w' => e = .returned (.bool (segOk s nm)) ∧ ∃ n, w' = w.drewN n := by
  have hnil := eqNil27
  obtain ⟨h1, h2⟩ := hA
  cases a with
  | none =>
    have hg : Hid (segOk s nm = (nm.toList == s.lit.toList)) := segOk_nil' (by simpa using h1.symm)
    clear h1 h2 hS
    go_enter Try.func39, Try.ntmps39
    go_wp2
    go_ret
    exact ⟨by rw [hg.out]; rfl, 0, rfl⟩
  | some ad =>
    have hg : Hid (segOk s nm = M (gTok s.T s.W nm) s.glen nm.size 0 0) := segOk_some (by intro h; rw [h] at h1; simp at h1)
    have HC := hid (matchGlob_any (some ad) s.glen c s.T s.W nm w hl hs h2 hS)
    clear h1 h2 hS
    go_enter Try.func39, Try.ntmps39
    go_wp2_with fail
    refine HC.out.mono ?_
    rintro e w' ⟨rfl, n, rfl⟩
    go_wp2
    go_ret
    exact ⟨by rw [hg.out]; rfl, n, rfl⟩

set_option maxHeartbeats 1000000 in
theorem nameMatches_any (s : Sg) (a : Option Addr) (c : Nat) (nm : ByteArray) (w : World) (hl : s.glen ≤ 4611686018427387904) (hs : nm.size ≤ 9223372036854775807)
    (hTb : TokRow (w.alloc (.cells #[.bool s.ds, .string s.lit, .slice s.ga s.glen s.gcap] 61)) a s.glen s.T) (hSb : SetsAt (w.alloc (.cells #[.bool s.ds, .string s.lit, .slice s.ga s.glen s.gcap] 61)) s.glen s.T s.W) :
    Calls Try.prog 36 #[.agg #[.bool s.ds, .string s.lit, .slice s.ga s.glen s.gcap], .slice a s.glen c, .string nm] w fun e w' => e = .returned (.bool (segOk s nm)) ∧ ∃ n, w' = (w.alloc (.cells #[.bool s.ds, .string s.lit, .slice s.ga s.glen s.gcap] 61)).drewN n := by
  have hnil := eqNil22
  cases hga : s.ga with
  | none =>
    have hg : Hid (segOk s nm = (s.lit.toList == nm.toList)) := segOk_nil hga
    clear hTb hSb hga
    go_enter Try.func36, Try.ntmps36
    go_wp2
    go_ret
    exact ⟨by rw [hg.out]; rfl, 0, rfl⟩
  | some ad =>
    have hg : Hid (segOk s nm = M (gTok s.T s.W nm) s.glen nm.size 0 0) := segOk_some (by rw [hga]; simp)
    rw [hga] at hTb hSb
    have HC := hid (zzMatchGlob_any a s.glen c s.T s.W nm _ hl hs hTb hSb)
    clear hTb hSb hga
    go_enter Try.func36, Try.ntmps36
    go_wp2_with fail
    refine HC.out.mono ?_
    rintro e w' ⟨rfl, n, rfl⟩
    go_wp2
    go_ret
    exact ⟨by rw [hg.out]; rfl, n, rfl⟩
end Go.Proofs.Qxb6602438a
