/- The walk of globModel. -/
import Derived.Test.Qxb6602438aGlob
import Derived.Test.Qxb6602438aStill
namespace Go.Proofs.Qxb6602438a
open Go.RowKit
attribute [local go_sem ↓] Go.wp_at_zero Go.wp_at_succ

theorem info4 : (Try.prog.info? 4).map (fun i => (i.zero, i.size, i.bytes)) = some (some (.bool false), 1, 1) := by kernel_rfl
theorem make57 (n : Nat) (h : n ≤ 4611686018427) (w : World) :
    (Instr.makeSlice 57 (.int .i64 ((n : Int) + 1)) (.int .i64 ((n : Int) + 1))).run Try.prog w = .ok (.slice (some ⟨w.heap.size, 0, none⟩) (n + 1) (n + 1)) (w.alloc (.cells (madeCells #[.bool false] (n + 1)) 4)) := by
  have hr := run_make_row' (P := Try.prog) 57 4 (.bool false) 1 Try.underlying57 info4 rfl .i64 .i64 (n + 1) (by omega) (by omega) w
  have ec : ((n + 1 : Nat) : Int) = (n : Int) + 1 := by omega
  rwa [ec] at hr

/-- the table's two rows while the row 'cur' is filled from its end: the places from q on are done -/
structure Rows2 (g : Nat → G) (L N : Nat) (w : World) (nb cb i q : Nat) (wq : World) : Prop where
  below : Below w.heap.size w wq
  next : wq.rowIs nb 4 (N + 1) (fun p => .bool (M g L N (i + 1) p))
  cur : ∃ f, wq.rowIs cb 4 (N + 1) f ∧ (∀ x, q ≤ x → x ≤ N → f x = .bool (M g L N i x)) ∧ (∀ x, x < q → f x = .bool false)

section
variable {g : Nat → G} {L N : Nat} {w : World} {nb cb i q : Nat} {wq : World}

theorem Rows2.store (h : Rows2 g L N w nb cb i (q + 1) wq) (hB : w.heap.size ≤ cb) (hne : nb ≠ cb) {X : Bool} (hX : X = M g L N i q) : Rows2 g L N w nb cb i q (wq.setCell ⟨cb, q, none⟩ (.bool X)) := by
  obtain ⟨hb, hn, f, hf, h1, h2⟩ := h
  refine ⟨hb.setCell (p := ⟨cb, q, none⟩) hB _, hn.setOther (a := ⟨cb, q, none⟩) hne _, _, hf.set q (.bool X), fun x a b => ?_, fun x a => ?_⟩
  · by_cases e : x = q
    · rw [if_pos e, e, hX]
    · rw [if_neg e]; exact h1 x (by omega) b
  · rw [if_neg (by omega)]; exact h2 x (by omega)

theorem Rows2.skip (h : Rows2 g L N w nb cb i (q + 1) wq) (hX : M g L N i q = false) : Rows2 g L N w nb cb i q wq := by
  obtain ⟨hb, hn, f, hf, h1, h2⟩ := h
  refine ⟨hb, hn, f, hf, fun x a b => ?_, fun x a => h2 x (by omega)⟩
  by_cases e : x = q
  · subst e; rw [h2 x (by omega), hX]
  · exact h1 x (by omega) b

theorem Rows2.draws (h : Rows2 g L N w nb cb i q wq) (n : Nat) : Rows2 g L N w nb cb i q (wq.drewN n) :=
  ⟨⟨h.below.os, h.below.tape, h.below.output, h.below.size, h.below.block⟩, h.next, h.cur⟩
theorem Rows2.draw (h : Rows2 g L N w nb cb i q wq) : Rows2 g L N w nb cb i q wq.drew := h.draws 1

theorem Rows2.nextAt (h : Rows2 g L N w nb cb i q wq) {p : Nat} (hp : p ≤ N) : wq.cell? ⟨nb, p, none⟩ = some (.bool (M g L N (i + 1) p)) := h.next.cell (by omega)
theorem Rows2.curAt (h : Rows2 g L N w nb cb i q wq) {p : Nat} (hp : p ≤ N) (hq : q ≤ p) : wq.cell? ⟨cb, p, none⟩ = some (.bool (M g L N i p)) := by
  obtain ⟨hb, hn, f, hf, h1, h2⟩ := h
  rw [hf.cell (i := p) (by omega), h1 p hq hp]
theorem Rows2.curOld (h : Rows2 g L N w nb cb i q wq) {p : Nat} (hp : p ≤ N) (hq : p < q) : wq.cell? ⟨cb, p, none⟩ = some (.bool false) := by
  obtain ⟨hb, hn, f, hf, h1, h2⟩ := h
  rw [hf.cell (i := p) (by omega), h2 p hq]
theorem Rows2.free (h : Rows2 g L N w nb cb i q wq) (p : Nat) : wq.frozen? ⟨cb, p, none⟩ = false := by
  obtain ⟨hb, hn, f, hf, h1, h2⟩ := h
  exact hf.frozen p
theorem Rows2.done (h : Rows2 g L N w nb cb i 0 wq) : wq.rowIs cb 4 (N + 1) (fun p => .bool (M g L N i p)) := by
  obtain ⟨hb, hn, f, hf, h1, h2⟩ := h
  exact hf.congr fun x hx => h1 x (by omega) (by omega)
theorem Rows2.made (hb : Below w.heap.size w wq) (hn : wq.rowIs nb 4 (N + 1) (fun p => .bool (M g L N (i + 1) p))) : Rows2 g L N w nb wq.heap.size i (N + 1) (wq.alloc (.cells (madeCells #[.bool false] (N + 1)) 4)) :=
  ⟨hb.alloc hb.size _, hn.alloc _, _, World.rowIs_made wq (.bool false) (N + 1) 4, fun x a b => by omega, fun x _ => rfl⟩
end

/-- the first row: the last place alone -/
theorem first_row {g : Nat → G} {L N : Nat} (w : World) : (w.alloc (.cells ((madeCells #[.bool false] (N + 1)).setIfInBounds N (.bool true)) 4)).rowIs w.heap.size 4 (N + 1) (fun p => .bool (M g L N L p)) := by
  have h := World.rowIs_alloc w ((madeCells #[.bool false] (N + 1)).setIfInBounds N (.bool true)) 4 (fun p => .bool (M g L N L p)) (fun i hi => by
    rw [M_end (Nat.le_refl _)]
    simp only [Array.size_setIfInBounds, size_madeCells] at hi
    rw [Array.getElem?_setIfInBounds]
    by_cases e : N = i
    · subst e; simp [size_madeCells]
    · rw [if_neg e]
      have e' : ¬ i = N := fun h => e h.symm
      simp [madeCells, hi, Nat.mod_one, e'])
  simpa only [Array.size_setIfInBounds, size_madeCells] using h

def OInv (g : Nat → G) (L N : Nat) (w : World) (nv iv : Value) (wq : World) : Prop :=
  ∃ (k nb : Nat) (x : Int), nv = .slice (some ⟨nb, 0, none⟩) (N + 1) (N + 1) ∧ iv = .int .i64 x ∧ x = (k : Int) - 1 ∧ k ≤ L ∧ w.heap.size ≤ nb ∧ Below w.heap.size w wq ∧ wq.rowIs nb 4 (N + 1) (fun p => .bool (M g L N k p))

def IInv (g : Nat → G) (L N : Nat) (w : World) (nb cb i : Nat) (pv : Value) (wq : World) : Prop :=
  ∃ (q : Nat) (x : Int), pv = .int .i64 x ∧ x = (q : Int) - 1 ∧ q ≤ N + 1 ∧ Rows2 g L N w nb cb i q wq

set_option maxHeartbeats 16000000 in
set_option maxRecDepth 100000 in
theorem globModel_any (a : Option Addr) (len cap : Nat) (T : Nat → Tk) (W : Nat → Nat → Nat) (s : ByteArray) (w : World) (hl : len ≤ 4096) (hs : s.size ≤ 4096)
    (htx : ∀ i, i < len → (T i).text.size ≤ maxLen) (hT : TokRow w a len T) (hS : SetsAt w len T W) :
    Calls Try.prog 14 #[.slice a len cap, .string s] w fun e w' => e = .returned (.bool (M (gTok T W s) len s.size 0 0)) ∧ Below w.heap.size w w' := by
  have HT := hid hT
  have HS := hid hS
  have HX := hid htx
  clear hT hS htx
  have hmk := fun (w : World) => make57 s.size (by omega) w
  have HF := hid (first_row (g := gTok T W s) (L := len) (N := s.size) w)
  go_enter Try.func14, Try.ntmps14
  have hmc : (madeCells #[Value.bool false] (s.size + 1))[s.size]? = some (.bool false) := by simp [madeCells, Nat.mod_one]
  go_wp2
  go_loopw [6, 7] (fun nv iv wq => OInv (gTok T W s) len s.size w nv iv wq) (fun _ iv _ => (intOf iv + 1).toNat)
  case atStart => exact ⟨len, w.heap.size, _, rfl, rfl, rfl, Nat.le_refl _, Nat.le_refl _, (Below.refl _ _).alloc (Nat.le_refl _) _, HF.out⟩
  case round =>
    obtain ⟨k, nb, x, rfl, rfl, hx, hk, hnb, hbel, hrow⟩ := hrel
    cases k with
    | zero =>
      obtain rfl : x = -1 := by omega
      have c0 : wr.cell? ⟨nb, 0, none⟩ = some (.bool (M (gTok T W s) len s.size 0 0)) := hrow.cell (by omega)
      have HB := hid hbel
      clear hbel hrow hx
      go_wp2
      go_ret
      exact ⟨rfl, HB.out⟩
    | succ i =>
      obtain rfl : x = (i : Int) := by omega
      clear hx
      have hi : i < len := by omega
      have R0 := hid (Rows2.made hbel hrow)
      have hnl : nb < wr.heap.size := hrow.lt
      have HB := hid hbel
      clear hbel hrow
      go_wp2
      obtain ⟨wo, rfl⟩ : ∃ wo : World, wo = wr := ⟨_, rfl⟩
      have hcb : w.heap.size ≤ wo.heap.size := HB.out.size
      have hnc : nb ≠ wo.heap.size := by omega
      go_loopw [9] (fun pv wq => IInv (gTok T W s) len s.size w nb wo.heap.size i pv wq) (fun pv _ => (intOf pv + 1).toNat)
      case atStart => exact ⟨s.size + 1, _, rfl, by omega, Nat.le_refl _, R0.out⟩
      case round =>
        obtain ⟨q, x, rfl, hx, hq, hR⟩ := hrel
        clear R0
        cases q with
        | zero =>
          obtain rfl : x = -1 := by omega
          have R := hid hR
          clear hR hx
          go_wp2
          go_roundw
          case rel => exact ⟨i, wo.heap.size, _, rfl, rfl, by omega, by omega, hcb, R.out.below, R.out.done⟩
          case measure => simp [intOf] <;> omega
        | succ q =>
          obtain rfl : x = (q : Int) := by omega
          clear hx
          have hqn : q ≤ s.size := by omega
          have R := hid hR
          clear hR
          obtain ⟨b, off, rfl, c0, c1, c2⟩ := HT.out i hi
          have hbl : b < w.heap.size := World.block_lt_of_cell? w _ c0
          have d0 : wr.cell? ⟨b, off + i * 3, none⟩ = some (.int .u8 (T i).kind) := by rw [R.out.below.cell (p := ⟨b, off + i * 3, none⟩) hbl]; exact c0
          have d1 : wr.cell? ⟨b, off + i * 3 + 1, none⟩ = some (.string (T i).text) := by rw [R.out.below.cell (p := ⟨b, off + i * 3 + 1, none⟩) hbl]; exact c1
          have d2 : wr.cell? ⟨b, off + i * 3 + 2, none⟩ = some (.pointer (T i).set) := by rw [R.out.below.cell (p := ⟨b, off + i * 3 + 2, none⟩) hbl]; exact c2
          clear c0 c1 c2
          have o0 : wr.cell? ⟨wo.heap.size, q, none⟩ = some (.bool false) := R.out.curOld hqn (by omega)
          have z0 : wr.frozen? ⟨wo.heap.size, q, none⟩ = false := R.out.free q
          have i0 : (0 : Int) ≤ (q : Int) := by omega
          have i1 : (q : Int) < (s.size : Int) + 1 := by omega
          have j0 : (0 : Int) ≤ (i : Int) := by omega
          have j1 : (i : Int) < (len : Int) := by omega
          by_cases k2 : (T i).kind = 2
          · by_cases hA : M (gTok T W s) len s.size (i + 1) q = true
            · have e0 : wr.cell? ⟨nb, q, none⟩ = some (.bool true) := by rw [R.out.nextAt hqn, hA]
              have HA := hid hA
              clear hA
              go_wp2
              go_roundw
              case rel => exact ⟨q, _, rfl, rfl, by omega, R.out.store hcb hnc (X := true) (by rw [(M_star hi (g_star k2)).2 ⟨q, Nat.le_refl _, hqn, HA.out⟩])⟩
              case measure => simp [intOf] <;> omega
            · have e0 : wr.cell? ⟨nb, q, none⟩ = some (.bool false) := by rw [R.out.nextAt hqn, show M (gTok T W s) len s.size (i + 1) q = false from by simpa using hA]
              have HA : Hid (M (gTok T W s) len s.size (i + 1) q = false) := by show _ = false; simpa using hA
              clear hA
              by_cases hlt : q < s.size
              · have e2 : wr.cell? ⟨wo.heap.size, q + 1, none⟩ = some (.bool (M (gTok T W s) len s.size i (q + 1))) := R.out.curAt (by omega) (by omega)
                go_wp2
                go_roundw
                case rel => exact ⟨q, _, rfl, rfl, by omega, R.out.store hcb hnc (X := M (gTok T W s) len s.size i (q + 1)) (by rw [M_star_step hi (g_star k2) hlt, HA.out]; rfl)⟩
                case measure => simp [intOf] <;> omega
              · go_wp2
                go_roundw
                case rel => exact ⟨q, _, rfl, rfl, by omega, R.out.store hcb hnc (X := false) (by obtain rfl : q = s.size := (by omega); rw [M_star_last hi (g_star k2), HA.out])⟩
                case measure => simp [intOf] <;> omega
          · have hlast : Hid (¬ q < s.size → M (gTok T W s) len s.size i q = false) := fun h => by obtain rfl : q = s.size := (by omega); exact M_no_last hi (g_nostar k2)
            by_cases k1 : (T i).kind = 1
            · by_cases hlt : q < s.size
              · have e1 : wr.cell? ⟨nb, q + 1, none⟩ = some (.bool (M (gTok T W s) len s.size (i + 1) (q + 1))) := R.out.nextAt (by omega)
                go_wp2
                go_roundw
                case rel => exact ⟨q, _, rfl, rfl, by omega, R.out.store hcb hnc (X := M (gTok T W s) len s.size (i + 1) (q + 1)) (by rw [M_tok hi (g_nostar k2), g_ok1 k1, g_len1 (by omega)]; simp [hlt])⟩
                case measure => simp [intOf] <;> omega
              · go_wp2
                go_roundw
                case rel => exact ⟨q, _, rfl, rfl, by omega, R.out.store hcb hnc (X := false) (hlast.out hlt).symm⟩
                case measure => simp [intOf] <;> omega
            · by_cases k3 : (T i).kind = 3
              · by_cases hlt : q < s.size
                · have e1 : wr.cell? ⟨nb, q + 1, none⟩ = some (.bool (M (gTok T W s) len s.size (i + 1) (q + 1))) := R.out.nextAt (by omega)
                  obtain ⟨sb, so, hset, hcells⟩ := HS.out i hi k3
                  rw [hset] at d2
                  have HC0 : Hid (Calls Try.prog 33 #[.pointer (some ⟨sb, so, none⟩), .int .u8 (s[q].toNat : Nat)] wr.drew fun e w' => e = .returned (.bool (memb (W i) s[q].toNat)) ∧ w' = wr.drew) :=
                    inSet_any sb so (W i) s[q].toNat wr.drew (UInt8.toNat_lt _) (fun j hj => ⟨by
                      obtain ⟨g1, _⟩ := hcells j hj
                      have : sb < w.heap.size := World.block_lt_of_cell? w _ g1
                      show wr.cell? _ = _
                      rw [R.out.below.cell (p := ⟨sb, so + j, none⟩) this]; exact g1, (hcells j hj).2⟩)
                  clear hset hcells
                  have x1 : IntKind.i64.wrap ((q : Int) + 1) = (q : Int) + 1 := by rw [IntKind.wrap_i64]; omega
                  have x2 : (0 : Int) ≤ (q : Int) + 1 := by omega
                  have x3 : (q : Int) + 1 < (s.size : Int) + 1 := by omega
                  have x4 : ((q : Int) + 1).toNat = q + 1 := by omega
                  have x5 : (q : Int) < (s.size : Int) := by omega
                  have HBN : Hid (s[q].toNat = bN s q) := bN_at hlt
                  by_cases hm : memb (W i) s[q].toNat = true
                  · have HC : Hid (Calls Try.prog 33 #[.pointer (some ⟨sb, so, none⟩), .int .u8 (s[q].toNat : Nat)] wr.drew fun e w' => e = .returned (.bool true) ∧ w' = wr.drew) := by
                      have h := HC0.out
                      rwa [hm] at h
                    have HM := hid hm
                    clear HC0 hm
                    go_wp2
                    refine wp_region_tail 24 (by kernel_rfl) (by kernel_rfl) ?_
                    simp only [List.take_succ_cons, List.take_zero, List.drop_succ_cons, List.drop_zero]
                    iterate 14 (refine WpS.step (fun K hK => ?_); go_simp; refine hK _ ?_; clear hK K)
                    (refine WpS.step (fun K hK => ?_); go_simp; refine ⟨_, HC.out, hK _ ?_⟩; clear hK K)
                    iterate 9 (refine WpS.step (fun K hK => ?_); go_simp; refine hK _ ?_; clear hK K)
                    refine WpS.nil ?_
                    go_wp2
                    go_roundw
                    case rel => exact ⟨q, _, rfl, rfl, by omega, R.out.draw.store hcb hnc (X := M (gTok T W s) len s.size (i + 1) (q + 1)) (by rw [M_tok hi (g_nostar k2), g_ok3 k3, g_len1 (by omega), ← HBN.out, HM.out]; simp [hlt])⟩
                    case measure => simp [intOf] <;> omega
                  · have HC : Hid (Calls Try.prog 33 #[.pointer (some ⟨sb, so, none⟩), .int .u8 (s[q].toNat : Nat)] wr.drew fun e w' => e = .returned (.bool false) ∧ w' = wr.drew) := by
                      have h := HC0.out
                      rwa [show memb (W i) s[q].toNat = false from by simpa using hm] at h
                    have HM : Hid (memb (W i) s[q].toNat = false) := by show _ = false; simpa using hm
                    clear HC0 hm
                    go_wp2
                    refine wp_region_tail 24 (by kernel_rfl) (by kernel_rfl) ?_
                    simp only [List.take_succ_cons, List.take_zero, List.drop_succ_cons, List.drop_zero]
                    iterate 14 (refine WpS.step (fun K hK => ?_); go_simp; refine hK _ ?_; clear hK K)
                    (refine WpS.step (fun K hK => ?_); go_simp; refine ⟨_, HC.out, hK _ ?_⟩; clear hK K)
                    iterate 2 (refine WpS.step (fun K hK => ?_); go_simp; refine hK _ ?_; clear hK K)
                    iterate 5 refine WpS.skip (by kernel_rfl) ?_
                    iterate 2 (refine WpS.step (fun K hK => ?_); go_simp; refine hK _ ?_; clear hK K)
                    refine WpS.nil ?_
                    go_wp2
                    go_roundw
                    case rel => exact ⟨q, _, rfl, rfl, by omega, R.out.draw.store hcb hnc (X := false) (by rw [M_tok hi (g_nostar k2), g_ok3 k3, ← HBN.out, HM.out]; simp)⟩
                    case measure => simp [intOf] <;> omega
                · have hge : decide ((q : Int) < (s.size : Int)) = false := by simp; omega
                  go_wp2
                  refine wp_region_tail 24 (by kernel_rfl) (by kernel_rfl) ?_
                  simp only [List.take_succ_cons, List.take_zero, List.drop_succ_cons, List.drop_zero]
                  iterate 6 (refine WpS.step (fun K hK => ?_); go_simp; refine hK _ ?_; clear hK K)
                  iterate 9 refine WpS.skip (by kernel_rfl) ?_
                  iterate 2 (refine WpS.step (fun K hK => ?_); go_simp; refine hK _ ?_; clear hK K)
                  iterate 5 refine WpS.skip (by kernel_rfl) ?_
                  iterate 2 (refine WpS.step (fun K hK => ?_); go_simp; refine hK _ ?_; clear hK K)
                  refine WpS.nil ?_
                  go_wp2
                  go_roundw
                  case rel => exact ⟨q, _, rfl, rfl, by omega, R.out.draw.store hcb hnc (X := false) (hlast.out hlt).symm⟩
                  case measure => simp [intOf] <;> omega
              · by_cases k0 : (T i).kind = 0
                · by_cases hlt : q < s.size
                  · have htl : (T i).text.size ≤ maxLen := HX.out i hi
                    by_cases hm : pfx s q (T i).text = true
                    · have HM := hid hm
                      have hle : q + (T i).text.size ≤ s.size := pfx_le (by omega) hm
                      have e1 : wr.cell? ⟨nb, q + (T i).text.size, none⟩ = some (.bool (M (gTok T W s) len s.size (i + 1) (q + (T i).text.size))) := R.out.nextAt (by omega)
                      have HC : Hid (Calls Try.prog 34 #[.string s, .int .i64 q, .string (T i).text] wr fun e w' => e = .returned (.bool true) ∧ ∃ n, w' = wr.drewN n) := by
                        have h := prefixAt_any s q (T i).text wr (by unfold maxLen; omega) htl (by omega)
                        rwa [hm] at h
                      clear hm htl
                      go_wp2_with fail
                      refine HC.out.mono ?_
                      rintro e w' ⟨rfl, nq, rfl⟩
                      go_wp2
                      go_roundw
                      case rel => exact ⟨q, _, rfl, rfl, by omega, (R.out.draws nq).store hcb hnc (X := M (gTok T W s) len s.size (i + 1) (q + (T i).text.size)) (by rw [M_tok hi (g_nostar k2), g_ok0 k0, g_len0 k0, HM.out]; simp [hlt])⟩
                      case measure => simp [intOf] <;> omega
                    · have HM : Hid (pfx s q (T i).text = false) := by show _ = false; simpa using hm
                      have HC : Hid (Calls Try.prog 34 #[.string s, .int .i64 q, .string (T i).text] wr fun e w' => e = .returned (.bool false) ∧ ∃ n, w' = wr.drewN n) := by
                        have h := prefixAt_any s q (T i).text wr (by unfold maxLen; omega) htl (by omega)
                        rwa [HM.out] at h
                      clear hm htl
                      go_wp2_with fail
                      refine HC.out.mono ?_
                      rintro e w' ⟨rfl, nq, rfl⟩
                      go_wp2
                      go_roundw
                      case rel => exact ⟨q, _, rfl, rfl, by omega, (R.out.draws nq).store hcb hnc (X := false) (by rw [M_tok hi (g_nostar k2), g_ok0 k0, HM.out]; simp)⟩
                      case measure => simp [intOf] <;> omega
                  · go_wp2
                    go_roundw
                    case rel => exact ⟨q, _, rfl, rfl, by omega, R.out.store hcb hnc (X := false) (hlast.out hlt).symm⟩
                    case measure => simp [intOf] <;> omega
                · go_wp2
                  go_roundw
                  case rel => exact ⟨q, _, rfl, rfl, by omega, R.out.skip (M_no_tok hi (g_nostar k2) (g_okno k1 k3 k0 q))⟩
                  case measure => simp [intOf] <;> omega
end Go.Proofs.Qxb6602438a
