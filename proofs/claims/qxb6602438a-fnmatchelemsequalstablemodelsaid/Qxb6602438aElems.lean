/- The walk of matchElems. -/
import Derived.Test.Qxb6602438aNames
namespace Go.Proofs.Qxb6602438a
open Go.RowKit

/-- the segments that were made out of S lie where the slice leads -/
def SegsAs (w : World) (a : Option Addr) (len : Nat) (S : Nat → Sg) : Prop :=
  ∀ i, i < len → ∃ b off ga c, a = some ⟨b, off, none⟩ ∧ w.cell? ⟨b, off + i * 3, none⟩ = some (.bool (S i).ds) ∧ w.cell? ⟨b, off + i * 3 + 1, none⟩ = some (.string (S i).lit) ∧
    w.cell? ⟨b, off + i * 3 + 2, none⟩ = some (.slice ga (S i).glen c) ∧ GlobAs w (S i) ga

theorem globAs_draws {w : World} {s : Sg} {a : Option Addr} (h : GlobAs w s a) (n : Nat) : GlobAs (w.drewN n) s a := ⟨h.nil, h.row⟩
theorem setsAt_draws {w : World} {len : Nat} {T : Nat → Tk} {W : Nat → Nat → Nat} (h : SetsAt w len T W) (n : Nat) : SetsAt (w.drewN n) len T W := h

set_option maxHeartbeats 16000000 in
set_option maxRecDepth 100000 in
theorem matchElems_any (a : Option Addr) (len cap : Nat) (S : Nat → Sg) (a1 : Option Addr) (ne c1 : Nat) (E : Nat → ByteArray) (w : World) (hl : len ≤ 4096) (hne : ne ≤ 4096) (hEs : ∀ i, i < ne → (E i).size ≤ 9223372036854775807)
    (hgl : ∀ i, i < len → (S i).glen ≤ 1048576) (hT : SegsAs w a len S) (hS : ∀ i, i < len → SetsAt w (S i).glen (S i).T (S i).W) (hE : ElemRow w a1 ne E) :
    Calls Try.prog 35 #[.slice a len cap, .slice a1 ne c1] w fun e w' => e = .returned (.bool (M (gSeg S E) len ne 0 0)) ∧ ∃ n, w' = w.drewN n := by
  have HT := hid hT
  have HS := hid hS
  have HE := hid hE
  have HL := hid hgl
  have HZ := hid hEs
  clear hT hS hE hgl hEs
  go_enter Try.func35, Try.ntmps35
  go_wp2
  go_loopw [5, 6, 7, 8] (fun tv nv sv av wq => GInv (gSeg S E) len ne w tv nv sv av wq) (fun tv _ _ av _ => meas len ne (intOf tv).toNat (intOf av).toNat)
  case atStart => exact ⟨0, 0, -1, 0, 0, rfl, rfl, rfl, rfl, inv0, rfl⟩
  case round =>
    obtain ⟨t, n, star, sa, m, rfl, rfl, rfl, rfl, hinv, hwr⟩ := hrel
    obtain ⟨b1, b2, b3, b4, b5⟩ := inv_bd hinv
    have HI := hid hinv
    have HW := hid hwr
    clear hinv hwr
    by_cases hn : n < ne
    · by_cases ht : t < len
      · obtain ⟨b, off, ga, gc, rfl, c0, c1', c2, hA⟩ := HT.out t ht
        have d0 : wr.cell? ⟨b, off + t * 3, none⟩ = some (.bool (S t).ds) := by rw [HW.out]; exact c0
        have d1 : wr.cell? ⟨b, off + t * 3 + 1, none⟩ = some (.string (S t).lit) := by rw [HW.out]; exact c1'
        have d2 : wr.cell? ⟨b, off + t * 3 + 2, none⟩ = some (.slice ga (S t).glen gc) := by rw [HW.out]; exact c2
        have hA' := hid hA
        clear c0 c1' c2 hA
        cases hds : (S t).ds with
        | true =>
          rw [hds] at d0
          have HDS := hid hds
          clear hds
          go_wp2
          go_roundw
          case rel => exact ⟨t + 1, n, t, n, m, by go_num, rfl, rfl, rfl, inv_star HI.out ht HDS.out, HW.out⟩
          case measure => exact meas_goal (by omega) rfl (meas_fwd ht b3)
        | false =>
          rw [hds] at d0
          have HDS := hid hds
          clear hds
          obtain ⟨eb, eo, rfl, e0'⟩ := HE.out n hn
          have e0 : wr.cell? ⟨eb, eo + n, none⟩ = some (.string (E n)) := by rw [HW.out]; exact e0'
          clear e0'
          have HC0 : Hid (∀ x, Calls Try.prog 39 #[.pointer (some ⟨b, off + t * 3, none⟩), .string (E n)] (wr.drewN x) fun e w' => e = .returned (.bool (segOk (S t) (E n))) ∧ ∃ m, w' = (wr.drewN x).drewN m) := by
            intro x
            refine segMatches_any b (off + t * 3) (S t) ga gc (E n) (wr.drewN x) (by have := HL.out t ht; omega) (HZ.out n hn) d1 d2 ?_ ?_
            · rw [HW.out]; exact globAs_draws (globAs_draws hA'.out m) x
            · rw [HW.out]; exact setsAt_draws (setsAt_draws (HS.out t ht) m) x
          have i0 : (0 : Int) ≤ (t : Int) := by omega
          have i1 : (t : Int) < (len : Int) := by omega
          have i2 : (0 : Int) ≤ (n : Int) := by omega
          have i3 : (n : Int) < (ne : Int) := by omega
          cases hok : segOk (S t) (E n) with
          | true =>
            have HC : Hid (∀ x, Calls Try.prog 39 #[.pointer (some ⟨b, off + t * 3, none⟩), .string (E n)] (wr.drewN x) fun e w' => e = .returned (.bool true) ∧ ∃ m, w' = (wr.drewN x).drewN m) := by
              intro x
              have h := HC0.out x
              rwa [hok] at h
            have HK := hid hok
            clear HC0 hok
            go_wp2
            go_quiet ((go_at_call 39; exact Calls.quiet_of (HC.out _)))
            go_wp2
            go_roundw
            case rel => exact ⟨t + 1, n + 1, star, sa, m + nq, by go_num, by go_num, rfl, rfl, inv_tok HI.out ht HDS.out hn HK.out (show n + 1 ≤ ne from by omega), by rw [HW.out, World.drewN_drewN]⟩
            case measure => exact meas_goal (by omega) rfl (meas_fwd ht (Nat.le_refl _))
          | false =>
            have HC : Hid (∀ x, Calls Try.prog 39 #[.pointer (some ⟨b, off + t * 3, none⟩), .string (E n)] (wr.drewN x) fun e w' => e = .returned (.bool false) ∧ ∃ m, w' = (wr.drewN x).drewN m) := by
              intro x
              have h := HC0.out x
              rwa [hok] at h
            have HK := hid hok
            clear HC0 hok
            have hf : Hid (M (gSeg S E) len ne t n = false) := M_no_tok ht HDS.out HK.out
            by_cases hst : 0 ≤ star
            · obtain ⟨s', rfl⟩ : ∃ s' : Nat, star = s' := ⟨star.toNat, by omega⟩
              go_wp2
              go_quiet ((go_at_call 39; exact Calls.quiet_of (HC.out _)))
              go_wp2
              go_roundw
              case rel => exact ⟨s' + 1, sa + 1, s', sa + 1, m + nq, by go_num, by go_num, rfl, by go_num, (inv_back HI.out hn hf.out).2, by rw [HW.out, World.drewN_drewN]⟩
              case measure => exact meas_goal (t' := s' + 1) (a' := sa + 1) (by omega) (by omega) (meas_back (by omega))
            · obtain rfl : star = -1 := by omega
              go_wp2
              go_quiet ((go_at_call 39; exact Calls.quiet_of (HC.out _)))
              go_wp2
              go_ret
              exact ⟨by rw [inv_fail HI.out hf.out]; rfl, m + nq, by rw [HW.out, World.drewN_drewN]⟩
      · have hdt : decide ((t : Int) < (len : Int)) = false := by simp; omega
        have hf : Hid (M (gSeg S E) len ne t n = false) := M_no_end (by omega) hn
        by_cases hst : 0 ≤ star
        · obtain ⟨s', rfl⟩ : ∃ s' : Nat, star = s' := ⟨star.toNat, by omega⟩
          go_wp2
          go_quiet (fail)
          go_wp2
          go_roundw
          case rel => exact ⟨s' + 1, sa + 1, s', sa + 1, m + nq, by go_num, by go_num, rfl, by go_num, (inv_back HI.out hn hf.out).2, by rw [HW.out, World.drewN_drewN]⟩
          case measure => exact meas_goal (t' := s' + 1) (a' := sa + 1) (by omega) (by omega) (meas_back (by omega))
        · obtain rfl : star = -1 := by omega
          go_wp2
          go_quiet (fail)
          go_wp2
          go_ret
          exact ⟨by rw [inv_fail HI.out hf.out]; rfl, m + nq, by rw [HW.out, World.drewN_drewN]⟩
    · go_wp2
      have HE2 : Hid (M (gSeg S E) len ne 0 0 = M (gSeg S E) len ne t ne) := by
        obtain rfl : n = ne := by omega
        exact inv_end HI.out
      go_loop [5] (fun tv => TInv (gSeg S E) len ne tv) (fun tv => len - (intOf tv).toNat)
      case atStart => exact ⟨t, rfl, b1, HE2.out⟩
      case round =>
        obtain ⟨t', rfl, ht', he⟩ := hrel
        have HE' := hid he
        clear he
        by_cases hlt : t' < len
        · obtain ⟨b, off, ga, gc, rfl, c0, c1', c2, hA⟩ := HT.out t' hlt
          have d0 : wr.cell? ⟨b, off + t' * 3, none⟩ = some (.bool (S t').ds) := by rw [HW.out]; exact c0
          clear c0 c1' c2 hA
          cases hds : (S t').ds with
          | true =>
            rw [hds] at d0
            have HDS := hid hds
            clear hds
            go_wp2
            go_round
            case rel => exact ⟨t' + 1, by go_num, by omega, by rw [HE'.out, M_star_last hlt HDS.out]⟩
            case measure => simp [intOf]; omega
          | false =>
            rw [hds] at d0
            have HDS := hid hds
            clear hds
            go_wp2
            go_ret
            exact ⟨by rw [HE'.out, M_no_last hlt HDS.out]; simp; omega, m, HW.out⟩
        · obtain rfl : t' = len := by omega
          go_wp2
          go_ret
          exact ⟨by rw [HE'.out, M_end (Nat.le_refl _)]; simp, m, HW.out⟩
end Go.Proofs.Qxb6602438a
