/- What the walk is told of a slice of tokens that came in, out of its reading. -/
import Derived.Test.Qxb6602438aGlob
import Derived.ProofKit
import Derived.OpenShut
import Derived.Deep.Slices
import Derived.Deep.Strs
namespace Go.Proofs.Qxb6602438a
open Go.RowKit Go.Deep Go.ChangeShapes Go.WideShapes

theorem c5 : Try.prog.cellsOf 5 = 1 := by kernel_rfl
theorem c9 : Try.prog.cellsOf 9 = 1 := by kernel_rfl
theorem c53 : Try.prog.cellsOf 53 = 1 := by kernel_rfl
theorem c55 : Try.prog.cellsOf 55 = 3 := by kernel_rfl
theorem c67 : Try.prog.cellsOf 67 = 1 := by kernel_rfl
theorem c88 : Try.prog.cellsOf 88 = 4 := by kernel_rfl

/-- a set's pointer: nil, or it leads to four words -/
def SetOr (w : World) (p : Option Addr) (W : Nat → Nat) : Prop :=
  p = none ∨ ∃ b off, p = some ⟨b, off, none⟩ ∧ ∀ j, j < 4 → w.cell? ⟨b, off + j, none⟩ = some (.int .u64 (W j)) ∧ W j < 18446744073709551616

theorem at_add {w : World} {a : Addr} {v : Value} (h0 : w.cell? (a.add 0) = some v) : ∃ b off, a = ⟨b, off, none⟩ := by
  obtain ⟨b, off, spot⟩ := a
  have hspot : spot = none := by simpa [Addr.add] using World.cell?_spot h0
  subst hspot
  exact ⟨b, off, rfl⟩

section
variable {H : Type} {enc : TypeId × Value → H} {w : World} {base : Nat} {spare : Nat → Bool} {held : Bool}

theorem set_open {n : Nat} {c : Value} {y : DataW H × List MemPlace} (h : DataW.trod enc Try.prog w base spare held n 53 [c] = some y) : ∃ (p : Option Addr) (W : Nat → Nat), c = .pointer p ∧ SetOr w p W := by
  rcases DataW.trod_pointer Try.underlying53 h with ⟨hc, _⟩ | ⟨a, cs, y', m, _, hc, _, hcells, ht⟩
  · simp at hc
    exact ⟨none, fun _ => 0, hc, Or.inl rfl⟩
  · simp at hc
    rw [c88] at hcells
    obtain ⟨_, hlen, hat⟩ := World.cells?_some hcells
    obtain ⟨xs, m', _, _, _, hxl, hel⟩ := DataW.trod_array Try.underlying88 ht
    rw [c67] at hel
    have one : ∀ j, j < 4 → ∃ x : Nat, w.cell? (a.add j) = some (.int .u64 (x : Int)) ∧ x < 18446744073709551616 := by
      intro j hj
      have h1 := hel j hj
      rw [List.getElem?_eq_getElem (by omega), Nat.mul_one] at h1
      obtain ⟨z, hz, _, hw⟩ := DataW.trod_int Try.underlying67 h1
      obtain ⟨g1, g2⟩ := bounds_u64 hw
      refine ⟨z.toNat, ?_, by omega⟩
      rw [hat j hj]
      have h2 : cs[j]? = some (.int .u64 z) := by
        have := congrArg (fun l : List Value => l[0]?) hz
        simp [List.getElem?_drop] at this
        exact this
      rw [h2, Int.toNat_of_nonneg g1]
    obtain ⟨W, hW⟩ := choose_lt (α := Nat) one
    obtain ⟨b, off, rfl⟩ := at_add (hW 0 (by omega)).1
    refine ⟨some ⟨b, off, none⟩, W, hc, Or.inr ⟨b, off, rfl, fun j hj => ?_⟩⟩
    rw [← add_plain]
    exact hW j hj

theorem tok_open {n : Nat} {a : Addr} {cs : List Value} {y : DataW H × List MemPlace} (hc : w.cells? base a 3 = some cs) (h : DataW.trod enc Try.prog w base spare held n 55 cs = some y) :
    ∃ (t : Tk × (Nat → Nat)), w.cell? (a.add 0) = some (.int .u8 t.1.kind) ∧ w.cell? (a.add 1) = some (.string t.1.text) ∧ w.cell? (a.add 2) = some (.pointer t.1.set) ∧ t.1.text.size ≤ maxLen ∧ SetOr w t.1.set t.2 := by
  obtain ⟨_, hlen, hat⟩ := World.cells?_some hc
  obtain ⟨y0, y1, y2, m, _, _, h0, h1, h2⟩ := trod_struct3 Try.underlying55 h
  dsimp only at h0 h1 h2
  rw [c5] at h0
  rw [c9] at h1
  rw [c53] at h2
  match cs, hlen with
  | [v0, v1, v2], _ =>
    simp at h0 h1 h2
    obtain ⟨k, e0, _, _⟩ := DataW.trod_int Try.underlying5 h0
    obtain ⟨s, e1, _, hs⟩ := DataW.trod_string Try.underlying9 h1
    obtain ⟨p, W, e2, hW⟩ := set_open h2
    simp at e0 e1
    subst e0 e1 e2
    exact ⟨(⟨k, s, p⟩, W), by rw [hat 0 (by omega)]; rfl, by rw [hat 1 (by omega)]; rfl, by rw [hat 2 (by omega)]; rfl, hs, hW⟩

theorem toks_open {n : Nat} {cs : List Value} {y : DataW H × List MemPlace} (h : DataW.trod enc Try.prog w base spare held n 22 cs = some y) :
    ∃ (a : Option Addr) (len cap : Nat) (T : Nat → Tk) (W : Nat → Nat → Nat), cs = [.slice a len cap] ∧ len ≤ maxLen ∧ (a = none → len = 0) ∧ TokRow w a len T ∧ (∀ i, i < len → (T i).text.size ≤ maxLen) ∧ ∀ i, i < len → SetOr w (T i).set (W i) := by
  rcases open_slice Try.underlying22 h with ⟨rfl, _⟩ | ⟨a, len, cap, m, n', D, Pl, rfl, _, hl, hm, hmm, _, hx⟩
  · exact ⟨none, 0, 0, fun _ => ⟨0, ByteArray.empty, none⟩, fun _ _ => 0, rfl, Nat.zero_le _, (fun _ => rfl), (fun i hi => absurd hi (by omega)), (fun i hi => absurd hi (by omega)), (fun i hi => absurd hi (by omega))⟩
  · have hle : len ≤ m := by rw [hmm]; split <;> omega
    rw [c55] at hx
    have : Inhabited Tk := ⟨⟨0, ByteArray.empty, none⟩⟩
    obtain ⟨F, hF⟩ := choose_lt (α := Tk × (Nat → Nat)) (n := len) (p := fun i t => w.cell? ((a.add (i * 3)).add 0) = some (.int .u8 t.1.kind) ∧ w.cell? ((a.add (i * 3)).add 1) = some (.string t.1.text) ∧ w.cell? ((a.add (i * 3)).add 2) = some (.pointer t.1.set) ∧ t.1.text.size ≤ maxLen ∧ SetOr w t.1.set t.2)
      (fun i hi => by obtain ⟨cs', g1, g2⟩ := hx i (by omega); exact tok_open g1 g2)
    refine ⟨some a, len, cap, fun i => (F i).1, fun i => (F i).2, rfl, by omega, (fun h => by cases h), fun i hi => ?_, fun i hi => (hF i hi).2.2.2.1, fun i hi => (hF i hi).2.2.2.2⟩
    obtain ⟨b, off, rfl⟩ : ∃ b off, a = ⟨b, off, none⟩ := by
      have := (hF 0 (by omega)).1
      rw [Nat.zero_mul] at this
      exact at_add (a := a) (by simpa [Addr.add] using this)
    obtain ⟨g0, g1, g2, _⟩ := hF i hi
    rw [add_add, add_plain] at g0 g1 g2
    exact ⟨b, off, rfl, g0, g1, g2⟩
end
end Go.Proofs.Qxb6602438a
