/- What the walk is told of a slice of segments and of a slice of strings that came in; the copy of a slice of strings. -/
import Derived.Test.Qxb6602438aToSegs
import Derived.Laws.IdiomCopy
namespace Go.Proofs.Qxb6602438a
open Go.RowKit Go.Deep Go.ChangeShapes Go.WideShapes

theorem c4 : Try.prog.cellsOf 4 = 1 := by kernel_rfl
theorem c22 : Try.prog.cellsOf 22 = 1 := by kernel_rfl
theorem c61 : Try.prog.cellsOf 61 = 3 := by kernel_rfl

section
variable {H : Type} {enc : TypeId × Value → H} {w : World} {base : Nat} {spare : Nat → Bool} {held : Bool}

theorem seg_open {n : Nat} {a : Addr} {cs : List Value} {y : DataW H × List MemPlace} (hc : w.cells? base a 3 = some cs) (h : DataW.trod enc Try.prog w base spare held n 61 cs = some y) :
    ∃ s : Sg, w.cell? (a.add 0) = some (.bool s.ds) ∧ w.cell? (a.add 1) = some (.string s.lit) ∧ w.cell? (a.add 2) = some (.slice s.ga s.glen s.gcap) ∧ GlobIn w s := by
  obtain ⟨_, hlen, hat⟩ := World.cells?_some hc
  obtain ⟨y0, y1, y2, m, _, _, h0, h1, h2⟩ := trod_struct3 Try.underlying61 h
  dsimp only at h0 h1 h2
  rw [c4] at h0
  rw [c9] at h1
  rw [c22] at h2
  match cs, hlen with
  | [v0, v1, v2], _ =>
    simp at h0 h1 h2
    obtain ⟨d, e0, _⟩ := DataW.trod_bool Try.underlying4 h0
    obtain ⟨s, e1, _, hs⟩ := DataW.trod_string Try.underlying9 h1
    obtain ⟨ga, gl, gc, T, W, e2, g1, g2, g3, g4, g5⟩ := toks_open h2
    simp at e0 e1 e2
    subst e0 e1 e2
    exact ⟨⟨d, s, ga, gl, gc, T, W⟩, by rw [hat 0 (by omega)]; rfl, by rw [hat 1 (by omega)]; rfl, by rw [hat 2 (by omega)]; rfl, ⟨g1, g2, g3, g4, g5⟩⟩

theorem segs_open {n : Nat} {cs : List Value} {y : DataW H × List MemPlace} (h : DataW.trod enc Try.prog w base spare held n 37 cs = some y) :
    ∃ (a : Option Addr) (len cap : Nat) (S : Nat → Sg), cs = [.slice a len cap] ∧ len ≤ maxLen ∧ SegRow w a len S ∧ ∀ i, i < len → GlobIn w (S i) := by
  have : Inhabited Sg := ⟨⟨false, ByteArray.empty, none, 0, 0, fun _ => ⟨0, ByteArray.empty, none⟩, fun _ _ => 0⟩⟩
  rcases open_slice Try.underlying37 h with ⟨rfl, _⟩ | ⟨a, len, cap, m, n', D, Pl, rfl, _, hl, hm, hmm, _, hx⟩
  · exact ⟨none, 0, 0, fun _ => default, rfl, Nat.zero_le _, (fun i hi => absurd hi (by omega)), (fun i hi => absurd hi (by omega))⟩
  · have hle : len ≤ m := by rw [hmm]; split <;> omega
    rw [c61] at hx
    obtain ⟨F, hF⟩ := choose_lt (α := Sg) (n := len) (p := fun i s => w.cell? ((a.add (i * 3)).add 0) = some (.bool s.ds) ∧ w.cell? ((a.add (i * 3)).add 1) = some (.string s.lit) ∧ w.cell? ((a.add (i * 3)).add 2) = some (.slice s.ga s.glen s.gcap) ∧ GlobIn w s)
      (fun i hi => by obtain ⟨cs', g1, g2⟩ := hx i (by omega); exact seg_open g1 g2)
    refine ⟨some a, len, cap, F, rfl, by omega, fun i hi => ?_, fun i hi => (hF i hi).2.2.2⟩
    obtain ⟨b, off, rfl⟩ : ∃ b off, a = ⟨b, off, none⟩ := by
      have := (hF 0 (by omega)).1
      rw [Nat.zero_mul] at this
      exact at_add (a := a) (by simpa [Addr.add] using this)
    obtain ⟨g0, g1, g2, _⟩ := hF i hi
    rw [add_add, add_plain] at g0 g1 g2
    exact ⟨b, off, rfl, g0, g1, g2⟩

theorem elems_open {n : Nat} {cs : List Value} {y : DataW H × List MemPlace} (h : DataW.trod enc Try.prog w base spare held n 38 cs = some y) :
    ∃ (a : Option Addr) (len cap : Nat) (E : Nat → ByteArray), cs = [.slice a len cap] ∧ len ≤ maxLen ∧ (a = none → len = 0) ∧ ElemRow w a len E ∧ ∀ i, i < len → (E i).size ≤ maxLen := by
  rcases open_slice1 Try.underlying38 c9 h with ⟨rfl, _⟩ | ⟨a, len, cap, m, n', V, D, Pl, rfl, _, hl, hm, hmm, _, hx⟩
  · exact ⟨none, 0, 0, fun _ => ByteArray.empty, rfl, Nat.zero_le _, (fun _ => rfl), (fun i hi => absurd hi (by omega)), (fun i hi => absurd hi (by omega))⟩
  · have hle : len ≤ m := by rw [hmm]; split <;> omega
    obtain ⟨F, hF⟩ := choose_lt (α := ByteArray) (n := len) (p := fun i s => w.cell? (a.add i) = some (.string s) ∧ s.size ≤ maxLen)
      (fun i hi => by
        obtain ⟨g1, g2⟩ := hx i (by omega)
        obtain ⟨s, e1, _, hs⟩ := DataW.trod_string Try.underlying9 g2
        simp at e1
        exact ⟨s, by rw [g1, e1], hs⟩)
    refine ⟨some a, len, cap, F, rfl, by omega, (fun h => by cases h), fun i hi => ?_, fun i hi => (hF i hi).2⟩
    obtain ⟨b, off, rfl⟩ : ∃ b off, a = ⟨b, off, none⟩ := at_add (hF 0 (by omega)).1
    have g0 := (hF i hi).1
    rw [add_plain] at g0
    exact ⟨b, off, rfl, g0⟩
end

/-! ### The copy -/
theorem info9 : (Try.prog.info? 9).map (fun i => (i.zero, i.size, i.bytes)) = some (some (.string ByteArray.empty), 1, 16) := by kernel_rfl
theorem size9 : (Try.prog.info? 9).map (·.size) = some 1 := by kernel_rfl
theorem make38 (n : Nat) (h : n ≤ 4096) (w : World) :
    (Instr.makeSlice 38 (.int .i64 (n : Int)) (.int .i64 (n : Int))).run Try.prog w = .ok (.slice (some ⟨w.heap.size, 0, none⟩) n n) (w.alloc (.cells (madeCells #[.string ByteArray.empty] n) 9)) :=
  run_make_row' (P := Try.prog) 38 9 (.string ByteArray.empty) 16 Try.underlying38 info9 rfl .i64 .i64 n (by omega) (by omega) w
theorem neNil38 (w : World) (a : Option Addr) (n c n' c' : Nat) : (binOp .neq 38 (.slice a n c) (.slice none n' c')).run Try.prog w = .ok (.bool (!a.isNone)) w := run_neq_slice_nil_any w _ _ a n c n' c' Try.underlying38

theorem below_cells {B : Nat} {w0 : World} (b : Nat) (hb : B ≤ b) : ∀ (vs : List Value) (o : Nat) (w : World), Below B w0 w → Below B w0 (w.setCells b o vs)
  | [], _, _, h => h
  | v :: r, o, _, h => below_cells b hb r (o + 1) _ (h.setCell (p := ⟨b, o, none⟩) hb v)

theorem copy38 (ad : Addr) (ne c : Nat) (E : Nat → ByteArray) (w : World) (hE : ElemRow w (some ad) ne E) :
    ∃ w2, (∀ ty, (Builtin.copy_ #[38, 38] ty #[.slice (some ⟨w.heap.size, 0, none⟩) ne ne, .slice (some ad) ne c]).run Try.prog (w.alloc (.cells (madeCells #[.string ByteArray.empty] ne) 9)) = .ok (goInt ne) w2) ∧
      Below w.heap.size w w2 ∧ ElemRow w2 (some ⟨w.heap.size, 0, none⟩) ne E := by
  have hrow := World.rowIs_made w (.string ByteArray.empty) ne 9
  have hb : Below w.heap.size w (w.alloc (.cells (madeCells #[.string ByteArray.empty] ne) 9)) := (Below.refl _ _).alloc (Nat.le_refl _) _
  have hl : ((List.range ne).map fun i => Value.string (E i)).length = ne := by simp
  have hat : ∀ j, j < ne → ((List.range ne).map fun i => Value.string (E i))[j]? = some (.string (E j)) := fun j hj => by simp [hj]
  have hrun := fun ty => run_copy_cells (P := Try.prog) (w.alloc (.cells (madeCells #[.string ByteArray.empty] ne) 9)) 38 38 ty 9 w.heap.size 0 ne ne ad ne c ((List.range ne).map fun i => Value.string (E i))
    Try.underlying38 size9 (by rw [hl]; exact (Nat.min_self _).symm) (fun j v hv => by
      have hj : j < ne := by have := (List.getElem?_eq_some_iff.1 hv).1; rw [hl] at this; exact this
      rw [hat j hj] at hv
      obtain ⟨b, off, e, h0⟩ := elemRow_below hb hE j hj
      obtain rfl : ad = ⟨b, off, none⟩ := by simpa using e
      rw [add_plain, h0]; exact hv)
    (fun j hj => by rw [hl] at hj; rw [Nat.zero_add, hrow.cell hj]; rfl) (fun j _ => hrow.frozen _) (fun v hv => by
      obtain ⟨i, _, rfl⟩ := List.mem_map.1 hv
      rfl)
  rw [hl] at hrun
  refine ⟨_, hrun, ?_, fun i hi => ⟨w.heap.size, 0, rfl, ?_⟩⟩
  · exact below_cells _ (Nat.le_refl _) _ _ _ hb
  · have := World.cell?_setCells_in w.heap.size ((List.range ne).map fun i => Value.string (E i)) 0 (w.alloc (.cells (madeCells #[.string ByteArray.empty] ne) 9)) (fun j hj => by rw [hl] at hj; rw [Nat.zero_add, hrow.cell hj]; rfl) i (by rw [hl]; exact hi)
    rw [this]
    simp
end Go.Proofs.Qxb6602438a
