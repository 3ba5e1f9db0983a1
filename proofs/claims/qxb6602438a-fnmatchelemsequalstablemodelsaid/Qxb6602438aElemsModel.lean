/- The walk of elemsModel. -/
import Derived.Test.Qxb6602438aToSegs
import Derived.Test.Qxb6602438aModel
namespace Go.Proofs.Qxb6602438a
open Go.RowKit
attribute [local go_sem ↓] Go.wp_at_zero Go.wp_at_succ

theorem info27 : (Try.prog.info? 27).map (fun i => (i.zero, i.size, i.bytes)) = some (some (.slice none 0 0), 1, 24) := by kernel_rfl
theorem make62 (n : Nat) (h : n ≤ 4096) (w : World) :
    (Instr.makeSlice 62 (.int .i64 (n : Int)) (.int .i64 (n : Int))).run Try.prog w = .ok (.slice (some ⟨w.heap.size, 0, none⟩) n n) (w.alloc (.cells (madeCells #[.slice none 0 0] n) 27)) :=
  run_make_row' (P := Try.prog) 62 27 (.slice none 0 0) 24 Try.underlying62 info27 rfl .i64 .i64 n (by omega) (by omega) w

/-- what the row of globs holds of the first k -/
def OutG (w : World) (gb : Nat) (S : Nat → Sg) (k : Nat) (f : Nat → Value) : Prop :=
  ∀ i, i < k → ∃ ga c, f i = .slice ga (S i).glen c ∧ GlobAs w (S i) ga ∧ ∀ ad, ga = some ad → ad.block ≠ gb

theorem globs_step {w wr w1 : World} {len k : Nat} {S : Nat → Sg} {f : Nat → Value} {a1 : Option Addr} {c1 : Nat} (hB : Below w.heap.size w wr) (hf : wr.rowIs w.heap.size 27 len f) (ho : OutG wr w.heap.size S k f)
    (h1 : Below wr.heap.size wr w1) (hg : GlobAs w1 (S k) a1) (hbl : ∀ ad, a1 = some ad → ad.block = wr.heap.size) :
    Below w.heap.size w (w1.setCell ⟨w.heap.size, k, none⟩ (.slice a1 (S k).glen c1)) ∧
    ∃ g, (w1.setCell ⟨w.heap.size, k, none⟩ (.slice a1 (S k).glen c1)).rowIs w.heap.size 27 len g ∧ OutG (w1.setCell ⟨w.heap.size, k, none⟩ (.slice a1 (S k).glen c1)) w.heap.size S (k + 1) g := by
  have hlt := hf.lt
  have hB1 : Below w.heap.size w w1 := hB.trans (h1.mono hB.size)
  have hf1 : w1.rowIs w.heap.size 27 len f := hf.of_block (h1.block _ hlt)
  refine ⟨hB1.setCell (p := ⟨w.heap.size, k, none⟩) (Nat.le_refl _) _, _, hf1.set k _, ?_⟩
  intro i hi
  by_cases e : i = k
  · subst e
    exact ⟨a1, c1, by simp, globAs_setCell hg fun ad h => by have := hbl ad h; show ad.block ≠ w.heap.size; omega, fun ad h => by have := hbl ad h; omega⟩
  · obtain ⟨ga, c, h2, h3, h4⟩ := ho i (by omega)
    refine ⟨ga, c, ?_, globAs_setCell (globAs_below h1 h3) h4, h4⟩
    dsimp only; rw [if_neg e]; exact h2

theorem Rows2.alloc {g : Nat → G} {L N : Nat} {w : World} {nb cb i q : Nat} {wq : World} (h : Rows2 g L N w nb cb i q wq) (o : Obj) : Rows2 g L N w nb cb i q (wq.alloc o) := by
  obtain ⟨hb, hn, f, hf, h1, h2⟩ := h
  exact ⟨hb.alloc hb.size _, hn.alloc _, f, hf.alloc _, h1, h2⟩

/-- what the second half of the walk reads, as it lies behind the first half -/
structure Half (w : World) (a : Option Addr) (len : Nat) (S : Nat → Sg) (a1 : Option Addr) (ne : Nat) (E : Nat → ByteArray) (gb : Nat) : Prop where
  segs : SegRow w a len S
  elems : ElemRow w a1 ne E
  globs : ∀ i, i < len → ∃ ga c, w.cell? ⟨gb, i, none⟩ = some (.slice ga (S i).glen c) ∧ GlobAs w (S i) ga
  sets : ∀ i, i < len → SetsAt w (S i).glen (S i).T (S i).W

theorem Half.below {w w' : World} {a : Option Addr} {len : Nat} {S : Nat → Sg} {a1 : Option Addr} {ne : Nat} {E : Nat → ByteArray} {gb : Nat} (h : Half w a len S a1 ne E gb) (hb : Below w.heap.size w w') : Half w' a len S a1 ne E gb :=
  ⟨segRow_below hb h.segs, elemRow_below hb h.elems, fun i hi => by
    obtain ⟨ga, c, h1, h2⟩ := h.globs i hi
    exact ⟨ga, c, by rw [hb.cell (p := ⟨gb, i, none⟩) (World.block_lt_of_cell? w _ h1)]; exact h1, globAs_below hb h2⟩, fun i hi => setsAt_below hb (h.sets i hi)⟩

set_option maxHeartbeats 16000000 in
set_option maxRecDepth 100000 in
theorem elemsModel_any (a : Option Addr) (len cap : Nat) (S : Nat → Sg) (a1 : Option Addr) (ne c1 : Nat) (E : Nat → ByteArray) (w : World) (hl : len ≤ 4096) (hne : ne ≤ 4096) (hEs : ∀ i, i < ne → (E i).size ≤ 9223372036854775807)
    (hgl : ∀ i, i < len → (S i).glen ≤ 1048576) (hT : SegRow w a len S) (hnl : ∀ i, i < len → (S i).ga = none → (S i).glen = 0) (hR : ∀ i, i < len → TokRow w (S i).ga (S i).glen (S i).T) (hS : ∀ i, i < len → SetsAt w (S i).glen (S i).T (S i).W) (hE : ElemRow w a1 ne E) :
    Calls Try.prog 25 #[.slice a len cap, .slice a1 ne c1] w fun e w' => e = .returned (.bool (M (gSeg S E) len ne 0 0)) ∧ Below w.heap.size w w' := by
  have hmk := fun (w : World) => make62 len hl w
  have hmk2 := fun (w : World) => make57 ne (by omega) w
  have hmc : (madeCells #[Value.bool false] (ne + 1))[ne]? = some (.bool false) := by simp [madeCells, Nat.mod_one]
  have HROW := hid (World.rowIs_made w (.slice none 0 0) len 27)
  have HT := hid hT
  have HS := hid hS
  have HE := hid hE
  have HL := hid hgl
  have HZ := hid hEs
  have HN := hid hnl
  have HR := hid hR
  clear hT hS hE hgl hEs hnl hR
  go_enter Try.func25, Try.ntmps25
  go_wp2
  go_loopw [8] (fun iv wq => ∃ (k : Nat), iv = .int .i64 k ∧ k ≤ len ∧ Below w.heap.size w wq ∧ (∃ f, wq.rowIs w.heap.size 27 len f ∧ OutG wq w.heap.size S k f)) (fun iv _ => len - (intOf iv).toNat)
  case atStart => exact ⟨0, rfl, Nat.zero_le _, (Below.refl _ _).alloc (Nat.le_refl _) _, _, HROW.out, fun i hi => by omega⟩
  case round =>
    obtain ⟨k, rfl, hk, hb, f, hf, ho⟩ := hrel
    by_cases hlt : k < len
    · obtain ⟨b, off, rfl, c0, c1', c2⟩ := HT.out k hlt
      have hbl : b < w.heap.size := World.block_lt_of_cell? w _ c0
      have hsr : w.heap.size < wr.heap.size := hf.lt
      have d2 : wr.cell? ⟨b, off + k * 3 + 2, none⟩ = some (.slice (S k).ga (S k).glen (S k).gcap) := by rw [hb.cell (p := ⟨b, off + k * 3 + 2, none⟩) hbl]; exact c2
      clear c0 c1' c2
      have HC : Hid (Calls Try.prog 13 #[.slice (S k).ga (S k).glen (S k).gcap] wr fun e w1 => ∃ a1 c1, e = .returned (.slice a1 (S k).glen c1) ∧ Hid (Below wr.heap.size wr w1 ∧ GlobAs w1 (S k) a1 ∧ ∀ ad, a1 = some ad → ad.block = wr.heap.size) ∧
          w1.cell? ⟨w.heap.size, k, none⟩ = some (f k) ∧ w1.frozen? ⟨w.heap.size, k, none⟩ = false ∧ w.heap.size < w1.heap.size) := by
        refine (toToks_as (S k) wr (HL.out k hlt) (HN.out k hlt) (tokRow_below hb (HR.out k hlt))).mono ?_
        rintro e w1 ⟨a1, c1, rfl, hb1, hg1, hbk⟩
        have hf1 : w1.rowIs w.heap.size 27 len f := hf.of_block (hb1.block _ hsr)
        exact ⟨a1, c1, rfl, ⟨hb1, hg1, hbk⟩, hf1.cell (by omega), hf1.frozen _, hf1.lt⟩
      have HB := hid hb
      have HF := hid hf
      have HO := hid ho
      clear hb hf ho
      go_wp2_with fail
      refine HC.out.mono ?_
      rintro e w1 ⟨g1, gc1, rfl, HA, o0, z0, n3⟩
      go_wp2
      go_roundw
      case rel => exact ⟨k + 1, by go_num, by omega, globs_step HB.out HF.out HO.out HA.out.1 HA.out.2.1 HA.out.2.2⟩
      case measure => simp [intOf]; omega
    · obtain ⟨wg, rfl⟩ : ∃ wg : World, wg = wr := ⟨_, rfl⟩
      have HH : Hid (Half wg a len S a1 ne E w.heap.size) := ⟨segRow_below hb HT.out, elemRow_below hb HE.out, fun i hi => by
        obtain ⟨ga, c, h2, h3, _⟩ := ho i (by omega)
        exact ⟨ga, c, by rw [hf.cell (by omega), h2], h3⟩, fun i hi => setsAt_below hb (HS.out i hi)⟩
      have HB0 := hid hb
      have HF := hid (first_row (g := gSeg S E) (L := len) (N := ne) wg)
      clear hb hf ho HROW
      go_wp2
      go_loopw [9, 10] (fun nv iv wq => OInv (gSeg S E) len ne wg nv iv wq) (fun _ iv _ => (intOf iv + 1).toNat)
      case atStart => exact ⟨len, wg.heap.size, _, rfl, rfl, rfl, Nat.le_refl _, Nat.le_refl _, (Below.refl _ _).alloc (Nat.le_refl _) _, HF.out⟩
      case round =>
        obtain ⟨k', nb, x, rfl, rfl, hx, hk', hnb, hbel, hrow⟩ := hrel
        clear HF
        cases k' with
        | zero =>
          obtain rfl : x = -1 := by omega
          have c0 : wr.cell? ⟨nb, 0, none⟩ = some (.bool (M (gSeg S E) len ne 0 0)) := hrow.cell (by omega)
          have HB := hid hbel
          clear hbel hrow hx
          go_wp2
          go_ret
          exact ⟨rfl, HB0.out.trans (HB.out.mono HB0.out.size)⟩
        | succ i =>
          obtain rfl : x = (i : Int) := by omega
          clear hx
          have hi : i < len := by omega
          have R0 := hid (Rows2.made hbel hrow)
          have hnl : nb < wr.heap.size := hrow.lt
          have HB := hid hbel
          clear hbel hrow
          go_wp2
          obtain ⟨wo, rfl⟩ : ∃ wo : World, wo = wr := ⟨_, rfl⟩
          have hcb : wg.heap.size ≤ wo.heap.size := HB.out.size
          have hnc : nb ≠ wo.heap.size := by omega
          go_loopw [12] (fun pv wq => IInv (gSeg S E) len ne wg nb wo.heap.size i pv wq) (fun pv _ => (intOf pv + 1).toNat)
          case atStart => exact ⟨ne + 1, _, rfl, by omega, Nat.le_refl _, R0.out⟩
          case round =>
            obtain ⟨q, x, rfl, hx, hq, hR⟩ := hrel
            clear R0
            cases q with
            | zero =>
              obtain rfl : x = -1 := by omega
              have R := hid hR
              clear hR hx
              go_wp2
              go_roundw
              case rel => exact ⟨i, wo.heap.size, _, rfl, rfl, by omega, by omega, hcb, R.out.below, R.out.done⟩
              case measure => simp [intOf] <;> omega
            | succ q =>
              obtain rfl : x = (q : Int) := by omega
              clear hx
              have hqn : q ≤ ne := by omega
              have R := hid hR
              clear hR
              have HQ := hid (HH.out.below R.out.below)
              obtain ⟨b, off, rfl, d0, d1, d2⟩ := HQ.out.segs i hi
              have o0 : wr.cell? ⟨wo.heap.size, q, none⟩ = some (.bool false) := R.out.curOld hqn (by omega)
              have z0 : wr.frozen? ⟨wo.heap.size, q, none⟩ = false := R.out.free q
              have i0 : (0 : Int) ≤ (q : Int) := by omega
              have i1 : (q : Int) < (ne : Int) + 1 := by omega
              have j0 : (0 : Int) ≤ (i : Int) := by omega
              have j1 : (i : Int) < (len : Int) := by omega
              cases hds : (S i).ds with
              | true =>
                rw [hds] at d0
                have HDS : Hid ((gSeg S E i).star = true) := hds
                clear hds
                by_cases hA : M (gSeg S E) len ne (i + 1) q = true
                · have e0 : wr.cell? ⟨nb, q, none⟩ = some (.bool true) := by rw [R.out.nextAt hqn, hA]
                  have HA := hid hA
                  clear hA
                  go_wp2
                  go_roundw
                  case rel => exact ⟨q, _, rfl, rfl, by omega, R.out.store hcb hnc (X := true) (by rw [(M_star hi HDS.out).2 ⟨q, Nat.le_refl _, hqn, HA.out⟩])⟩
                  case measure => simp [intOf] <;> omega
                · have e0 : wr.cell? ⟨nb, q, none⟩ = some (.bool false) := by rw [R.out.nextAt hqn, show M (gSeg S E) len ne (i + 1) q = false from by simpa using hA]
                  have HA : Hid (M (gSeg S E) len ne (i + 1) q = false) := by show _ = false; simpa using hA
                  clear hA
                  by_cases hlt2 : q < ne
                  · have e2 : wr.cell? ⟨wo.heap.size, q + 1, none⟩ = some (.bool (M (gSeg S E) len ne i (q + 1))) := R.out.curAt (by omega) (by omega)
                    go_wp2
                    go_roundw
                    case rel => exact ⟨q, _, rfl, rfl, by omega, R.out.store hcb hnc (X := M (gSeg S E) len ne i (q + 1)) (by rw [M_star_step hi HDS.out hlt2, HA.out]; rfl)⟩
                    case measure => simp [intOf] <;> omega
                  · go_wp2
                    go_roundw
                    case rel => exact ⟨q, _, rfl, rfl, by omega, R.out.store hcb hnc (X := false) (by obtain rfl : q = ne := (by omega); rw [M_star_last hi HDS.out, HA.out])⟩
                    case measure => simp [intOf] <;> omega
              | false =>
                rw [hds] at d0
                have HDS : Hid ((gSeg S E i).star = false) := hds
                by_cases hlt2 : q < ne
                · have x1 : IntKind.i64.wrap ((q : Int) + 1) = (q : Int) + 1 := by rw [IntKind.wrap_i64]; omega
                  have x2 : (0 : Int) ≤ (q : Int) + 1 := by omega
                  have x3 : (q : Int) + 1 < (ne : Int) + 1 := by omega
                  have x4 : ((q : Int) + 1).toNat = q + 1 := by omega
                  have x5 : (q : Int) < (ne : Int) := by omega
                  by_cases hA : M (gSeg S E) len ne (i + 1) (q + 1) = true
                  · have e1 : wr.cell? ⟨nb, q + 1, none⟩ = some (.bool true) := by rw [R.out.nextAt (by omega), hA]
                    have HA := hid hA
                    clear hA
                    obtain ⟨ga, gc, g0, hga⟩ := HQ.out.globs i hi
                    obtain ⟨eb, eo, rfl, f0⟩ := HQ.out.elems q hlt2
                    have HC0 : Hid (Calls Try.prog 36 #[.agg #[.bool (S i).ds, .string (S i).lit, .slice (S i).ga (S i).glen (S i).gcap], .slice ga (S i).glen gc, .string (E q)] wr.drew fun e w' => e = .returned (.bool (segOk (S i) (E q))) ∧ ∃ n, w' = (wr.drew.alloc (.cells #[.bool (S i).ds, .string (S i).lit, .slice (S i).ga (S i).glen (S i).gcap] 61)).drewN n) := by
                      have hbb : Below wr.heap.size wr (wr.drew.alloc (.cells #[.bool (S i).ds, .string (S i).lit, .slice (S i).ga (S i).glen (S i).gcap] 61)) := (Below.refl _ _).drew.alloc (Nat.le_refl _) _
                      exact nameMatches_any (S i) ga gc (E q) wr.drew (by have := HL.out i hi; omega) (HZ.out q hlt2) (tokRow_below hbb hga.row) (setsAt_below hbb (HQ.out.sets i hi))
                    rw [hds] at HC0
                    clear hds hga
                    have m0 : b < wr.heap.size := World.block_lt_of_cell? wr _ d0
                    have m1 : nb < wr.heap.size := World.block_lt_of_cell? wr _ e1
                    have m2 : wo.heap.size < wr.heap.size := World.block_lt_of_cell? wr _ o0
                    have m3 : w.heap.size < wr.heap.size := World.block_lt_of_cell? wr _ g0
                    have m4 : eb < wr.heap.size := World.block_lt_of_cell? wr _ f0
                    have u0 : wo.heap.size ≠ b := by
                      obtain ⟨b', off', e', d0', _⟩ := HH.out.segs i hi
                      have hb' : b' < wg.heap.size := World.block_lt_of_cell? wg _ d0'
                      simp at e'
                      omega
                    have u1 : wo.heap.size ≠ nb := fun h => hnc h.symm
                    have u2 : wo.heap.size ≠ w.heap.size := by
                      obtain ⟨ga', c', h', _⟩ := HH.out.globs i hi
                      have := World.block_lt_of_cell? wg _ h'
                      have h2 : w.heap.size < wg.heap.size := this
                      omega
                    have u3 : wo.heap.size ≠ eb := by
                      obtain ⟨b', off', e', d0'⟩ := HH.out.elems q hlt2
                      have hb' : b' < wg.heap.size := World.block_lt_of_cell? wg _ d0'
                      simp at e'
                      omega
                    have v0 : wr.heap.size ≠ b := by omega
                    have v1 : wr.heap.size ≠ nb := by omega
                    have v2 : wr.heap.size ≠ wo.heap.size := by omega
                    have v3 : wr.heap.size ≠ w.heap.size := by omega
                    have v4 : wr.heap.size ≠ eb := by omega
                    cases hok : segOk (S i) (E q) with
                    | true =>
                      have HC : Hid (Calls Try.prog 36 #[.agg #[.bool false, .string (S i).lit, .slice (S i).ga (S i).glen (S i).gcap], .slice ga (S i).glen gc, .string (E q)] wr.drew fun e w' => e = .returned (.bool true) ∧ ∃ n, w' = (wr.drew.alloc (.cells #[.bool false, .string (S i).lit, .slice (S i).ga (S i).glen (S i).gcap] 61)).drewN n) := by
                        have h := HC0.out
                        rwa [hok] at h
                      have HK := hid hok
                      clear HC0 hok
                      go_wp2
                      go_region_held3 (fun w' => w'.cell? ⟨nb, q + 1, none⟩ = some (.bool true) ∧ w'.cell? ⟨b, off + i * 3, none⟩ = some (.bool false) ∧ w'.cell? ⟨b, off + i * 3 + 1, none⟩ = some (.string (S i).lit) ∧ w'.cell? ⟨b, off + i * 3 + 2, none⟩ = some (.slice (S i).ga (S i).glen (S i).gcap) ∧ w'.cell? ⟨w.heap.size, i, none⟩ = some (.slice ga (S i).glen gc) ∧ w'.cell? ⟨eb, eo + q, none⟩ = some (.string (E q))) (go_keep) (first | (go_at_call 36; refine HC.out.mono ?_; rintro e w' ⟨rfl, nq, rfl⟩))
                      go_wp2
                      go_roundw
                      case rel => exact ⟨q, _, rfl, rfl, by omega, (((R.out.alloc _).draws _).store hcb hnc (X := true) (by rw [M_tok hi HDS.out, show (gSeg S E i).ok q = true from HK.out, show (gSeg S E i).len = 1 from rfl, HA.out]; simp [hlt2]))⟩
                      case measure => simp [intOf] <;> omega
                    | false =>
                      have HC : Hid (Calls Try.prog 36 #[.agg #[.bool false, .string (S i).lit, .slice (S i).ga (S i).glen (S i).gcap], .slice ga (S i).glen gc, .string (E q)] wr.drew fun e w' => e = .returned (.bool false) ∧ ∃ n, w' = (wr.drew.alloc (.cells #[.bool false, .string (S i).lit, .slice (S i).ga (S i).glen (S i).gcap] 61)).drewN n) := by
                        have h := HC0.out
                        rwa [hok] at h
                      have HK := hid hok
                      clear HC0 hok
                      go_wp2
                      go_region_held3 (fun w' => w'.cell? ⟨nb, q + 1, none⟩ = some (.bool true) ∧ w'.cell? ⟨b, off + i * 3, none⟩ = some (.bool false) ∧ w'.cell? ⟨b, off + i * 3 + 1, none⟩ = some (.string (S i).lit) ∧ w'.cell? ⟨b, off + i * 3 + 2, none⟩ = some (.slice (S i).ga (S i).glen (S i).gcap) ∧ w'.cell? ⟨w.heap.size, i, none⟩ = some (.slice ga (S i).glen gc) ∧ w'.cell? ⟨eb, eo + q, none⟩ = some (.string (E q))) (go_keep) (first | (go_at_call 36; refine HC.out.mono ?_; rintro e w' ⟨rfl, nq, rfl⟩))
                      go_wp2
                      go_roundw
                      case rel => exact ⟨q, _, rfl, rfl, by omega, (((R.out.alloc _).draws _).store hcb hnc (X := false) (by rw [M_tok hi HDS.out, show (gSeg S E i).ok q = false from HK.out]; simp))⟩
                      case measure => simp [intOf] <;> omega
                  · have e1 : wr.cell? ⟨nb, q + 1, none⟩ = some (.bool false) := by rw [R.out.nextAt (by omega), show M (gSeg S E) len ne (i + 1) (q + 1) = false from by simpa using hA]
                    have HA : Hid (M (gSeg S E) len ne (i + 1) (q + 1) = false) := by show _ = false; simpa using hA
                    clear hA hds
                    go_wp2
                    refine wp_region_tail 28 (by kernel_rfl) (by kernel_rfl) ?_
                    simp only [List.take_succ_cons, List.take_zero, List.drop_succ_cons, List.drop_zero]
                    iterate 13 (refine WpS.step (fun K hK => ?_); go_simp; refine hK _ ?_; clear hK K)
                    iterate 13 refine WpS.skip (by kernel_rfl) ?_
                    iterate 2 (refine WpS.step (fun K hK => ?_); go_simp; refine hK _ ?_; clear hK K)
                    refine WpS.nil ?_
                    go_wp2
                    go_roundw
                    case rel => exact ⟨q, _, rfl, rfl, by omega, R.out.draw.store hcb hnc (X := false) (by rw [M_tok hi HDS.out, show (gSeg S E i).len = 1 from rfl, HA.out]; simp)⟩
                    case measure => simp [intOf] <;> omega
                · have hge : decide ((q : Int) < (ne : Int)) = false := by simp; omega
                  clear hds
                  go_wp2
                  refine wp_region_tail 28 (by kernel_rfl) (by kernel_rfl) ?_
                  simp only [List.take_succ_cons, List.take_zero, List.drop_succ_cons, List.drop_zero]
                  iterate 6 (refine WpS.step (fun K hK => ?_); go_simp; refine hK _ ?_; clear hK K)
                  iterate 5 refine WpS.skip (by kernel_rfl) ?_
                  iterate 2 (refine WpS.step (fun K hK => ?_); go_simp; refine hK _ ?_; clear hK K)
                  iterate 13 refine WpS.skip (by kernel_rfl) ?_
                  iterate 2 (refine WpS.step (fun K hK => ?_); go_simp; refine hK _ ?_; clear hK K)
                  refine WpS.nil ?_
                  go_wp2
                  go_roundw
                  case rel => exact ⟨q, _, rfl, rfl, by omega, R.out.draw.store hcb hnc (X := false) (by obtain rfl : q = ne := (by omega); exact (M_no_last hi HDS.out).symm)⟩
                  case measure => simp [intOf] <;> omega
end Go.Proofs.Qxb6602438a
