/- The walk of matchGlob. -/
import Derived.Test.Qxb6602438aToks
import Derived.Test.Qxb6602438aMatch
namespace Go.Proofs.Qxb6602438a
open Go.RowKit

/-- the byte at place p, as a number -/
def bN (s : ByteArray) (p : Nat) : Nat := (s.data.toList[p]?.getD 0).toNat
theorem bN_lt (s : ByteArray) (p : Nat) : bN s p < 256 := UInt8.toNat_lt _
theorem bN_at {s : ByteArray} {p : Nat} (h : p < s.size) : s[p].toNat = bN s p := by unfold bN; rw [at_eq h]; rfl

/-- a token's meaning -/
def gTok (T : Nat → Tk) (W : Nat → Nat → Nat) (s : ByteArray) (i : Nat) : G :=
  { star := decide ((T i).kind = 2), len := if (T i).kind = 0 then (T i).text.size else 1,
    ok := fun p => if (T i).kind = 1 then true else if (T i).kind = 3 then memb (W i) (bN s p) else if (T i).kind = 0 then pfx s p (T i).text else false }

/-- the sets lie where the tokens' pointers lead -/
def SetsAt (w : World) (len : Nat) (T : Nat → Tk) (W : Nat → Nat → Nat) : Prop :=
  ∀ i, i < len → (T i).kind = 3 → ∃ b off, (T i).set = some ⟨b, off, none⟩ ∧ ∀ j, j < 4 → w.cell? ⟨b, off + j, none⟩ = some (.int .u64 (W i j)) ∧ W i j < 18446744073709551616

section
variable {T : Nat → Tk} {W : Nat → Nat → Nat} {s : ByteArray} {i : Nat}
theorem g_star (h : (T i).kind = 2) : (gTok T W s i).star = true := by simp [gTok, h]
theorem g_nostar (h : ¬ (T i).kind = 2) : (gTok T W s i).star = false := by simp [gTok, h]
theorem g_len0 (h : (T i).kind = 0) : (gTok T W s i).len = (T i).text.size := by simp [gTok, h]
theorem g_len1 (h : ¬ (T i).kind = 0) : (gTok T W s i).len = 1 := by simp [gTok, h]
theorem g_ok1 (h : (T i).kind = 1) (p : Nat) : (gTok T W s i).ok p = true := by simp [gTok, h]
theorem g_ok3 (h : (T i).kind = 3) (p : Nat) : (gTok T W s i).ok p = memb (W i) (bN s p) := by simp [gTok, h]
theorem g_ok0 (h : (T i).kind = 0) (p : Nat) : (gTok T W s i).ok p = pfx s p (T i).text := by simp [gTok, h]
theorem g_okno (h1 : ¬ (T i).kind = 1) (h3 : ¬ (T i).kind = 3) (h0 : ¬ (T i).kind = 0) (p : Nat) : (gTok T W s i).ok p = false := by simp [gTok, h1, h3, h0]
end

def GInv (g : Nat → G) (L N : Nat) (w : World) (tv nv sv av : Value) (wq : World) : Prop :=
  ∃ (t n : Nat) (star : Int) (a m : Nat), tv = .int .i64 t ∧ nv = .int .i64 n ∧ sv = .int .i64 star ∧ av = .int .i64 a ∧ Inv g L N t n star a ∧ wq = w.drewN m

def TInv (g : Nat → G) (L N : Nat) (tv : Value) : Prop := ∃ t : Nat, tv = .int .i64 t ∧ t ≤ L ∧ M g L N 0 0 = M g L N t N

theorem meas_goal {L N t a t' a' : Nat} {x y : Int} (hx : x = t') (hy : y = a') (h : meas L N t' a' < meas L N t a) :
    meas L N (intOf (.int .i64 x)).toNat (intOf (.int .i64 y)).toNat < meas L N (intOf (.int .i64 (t : Int))).toNat (intOf (.int .i64 (a : Int))).toNat := by
  subst hx hy; simpa [intOf] using h

section
variable {T : Nat → Tk} {W : Nat → Nat → Nat} {s : ByteArray} {L t n : Nat} {star : Int} {a : Nat}
theorem tok1 (h : Inv (gTok T W s) L s.size t n star a) (ht : t < L) (hn : n < s.size) (k2 : ¬ (T t).kind = 2) (k0 : ¬ (T t).kind = 0) (hok : (gTok T W s t).ok n = true) : Inv (gTok T W s) L s.size (t + 1) (n + 1) star a := by
  have := inv_tok h ht (g_nostar k2) hn hok (by rw [g_len1 k0]; omega)
  rwa [g_len1 k0] at this
theorem tok0 (h : Inv (gTok T W s) L s.size t n star a) (ht : t < L) (hn : n < s.size) (k0 : (T t).kind = 0) (hok : pfx s n (T t).text = true) : Inv (gTok T W s) L s.size (t + 1) (n + (T t).text.size) star a := by
  have := inv_tok h ht (g_nostar (by omega)) hn (by rw [g_ok0 k0]; exact hok) (by rw [g_len0 k0]; exact pfx_le (by omega) hok)
  rwa [g_len0 k0] at this
end

set_option maxHeartbeats 16000000 in
set_option maxRecDepth 100000 in
theorem matchGlob_any (a : Option Addr) (len cap : Nat) (T : Nat → Tk) (W : Nat → Nat → Nat) (s : ByteArray) (w : World) (hl : len ≤ 4611686018427387904) (hs : s.size ≤ 9223372036854775807)
    (hT : TokRow w a len T) (hS : SetsAt w len T W) :
    Calls Try.prog 32 #[.slice a len cap, .string s] w fun e w' => e = .returned (.bool (M (gTok T W s) len s.size 0 0)) ∧ ∃ n, w' = w.drewN n := by
  have HT := hid hT
  have HS := hid hS
  clear hT hS
  go_enter Try.func32, Try.ntmps32
  go_wp2
  go_loopw [5, 6, 7, 8] (fun tv nv sv av wq => GInv (gTok T W s) len s.size w tv nv sv av wq) (fun tv _ _ av _ => meas len s.size (intOf tv).toNat (intOf av).toNat)
  case atStart => exact ⟨0, 0, -1, 0, 0, rfl, rfl, rfl, rfl, inv0, rfl⟩
  case round =>
    obtain ⟨t, n, star, sa, m, rfl, rfl, rfl, rfl, hinv, hwr⟩ := hrel
    obtain ⟨b1, b2, b3, b4, b5⟩ := inv_bd hinv
    have HI := hid hinv
    have HW := hid hwr
    clear hinv hwr
    by_cases hn : n < s.size
    · by_cases ht : t < len
      · obtain ⟨b, off, rfl, c0, c1, c2⟩ := HT.out t ht
        have d0 : wr.cell? ⟨b, off + t * 3, none⟩ = some (.int .u8 (T t).kind) := by rw [HW.out]; exact c0
        have d1 : wr.cell? ⟨b, off + t * 3 + 1, none⟩ = some (.string (T t).text) := by rw [HW.out]; exact c1
        have d2 : wr.cell? ⟨b, off + t * 3 + 2, none⟩ = some (.pointer (T t).set) := by rw [HW.out]; exact c2
        clear c0 c1 c2
        by_cases k2 : (T t).kind = 2
        · go_wp2
          go_roundw
          case rel => exact ⟨t + 1, n, t, n, m, by go_num, rfl, rfl, rfl, inv_star HI.out ht (g_star k2), HW.out⟩
          case measure => exact meas_goal (by omega) rfl (meas_fwd ht b3)
        · by_cases k1 : (T t).kind = 1
          · have k0 : ¬ (T t).kind = 0 := by omega
            go_wp2
            go_roundw
            case rel => exact ⟨t + 1, n + 1, star, sa, m, by go_num, by go_num, rfl, rfl, tok1 HI.out ht hn k2 k0 (g_ok1 k1 n), HW.out⟩
            case measure => exact meas_goal (by omega) rfl (meas_fwd ht (Nat.le_refl _))
          · by_cases k3 : (T t).kind = 3
            · obtain ⟨sb, so, hset, hcells⟩ := HS.out t ht k3
              rw [hset] at d2
              have HC0 : Hid (∀ x, Calls Try.prog 37 #[.pointer (some ⟨sb, so, none⟩), .int .u8 (s[n].toNat : Nat)] (wr.drewN x) fun e w' => e = .returned (.bool (memb (W t) s[n].toNat)) ∧ w' = wr.drewN x) :=
                fun x => contains_any sb so (W t) s[n].toNat (wr.drewN x) (UInt8.toNat_lt _) (fun j hj => by rw [HW.out]; exact hcells j hj)
              clear hset hcells
              have HBN : Hid (s[n].toNat = bN s n) := bN_at hn
              have k0 : ¬ (T t).kind = 0 := by omega
              by_cases hm : memb (W t) s[n].toNat = true
              · have hm2 : Hid (memb (W t) s[n].toNat = true) := hm
                have HC : Hid (∀ x, Calls Try.prog 37 #[.pointer (some ⟨sb, so, none⟩), .int .u8 (s[n].toNat : Nat)] (wr.drewN x) fun e w' => e = .returned (.bool true) ∧ w' = wr.drewN x) := by
                  intro x
                  have h := HC0.out x
                  rwa [show memb (W t) s[n].toNat = true from by simpa using hm] at h
                clear HC0 hm
                go_wp2
                go_quiet ((go_at_call 37; exact Calls.quiet_of_same (HC.out _)))
                go_wp2
                go_roundw
                case rel => exact ⟨t + 1, n + 1, star, sa, m + nq, by go_num, by go_num, rfl, rfl, tok1 HI.out ht hn k2 k0 (by rw [g_ok3 k3, ← HBN.out]; exact hm2.out), by rw [HW.out, World.drewN_drewN]⟩
                case measure => exact meas_goal (by omega) rfl (meas_fwd ht (Nat.le_refl _))
              · have hm2 : Hid (¬ memb (W t) s[n].toNat = true) := hm
                have HC : Hid (∀ x, Calls Try.prog 37 #[.pointer (some ⟨sb, so, none⟩), .int .u8 (s[n].toNat : Nat)] (wr.drewN x) fun e w' => e = .returned (.bool false) ∧ w' = wr.drewN x) := by
                  intro x
                  have h := HC0.out x
                  rwa [show memb (W t) s[n].toNat = false from by simpa using hm] at h
                clear HC0 hm
                have hf : Hid (M (gTok T W s) len s.size t n = false) := M_no_tok ht (g_nostar k2) (by rw [g_ok3 k3, ← HBN.out]; simpa using hm2.out)
                by_cases hst : star < 0
                · obtain rfl : star = -1 := by omega
                  go_wp2
                  go_quiet ((go_at_call 37; exact Calls.quiet_of_same (HC.out _)))
                  go_wp2
                  go_ret
                  exact ⟨by rw [inv_fail HI.out hf.out]; rfl, m + nq, by rw [HW.out, World.drewN_drewN]⟩
                · obtain ⟨s', rfl⟩ : ∃ s' : Nat, star = s' := ⟨star.toNat, by omega⟩
                  go_wp2
                  go_quiet ((go_at_call 37; exact Calls.quiet_of_same (HC.out _)))
                  go_wp2
                  go_roundw
                  case rel => exact ⟨s' + 1, sa + 1, s', sa + 1, m + nq, by go_num, by go_num, rfl, by go_num, (inv_back HI.out hn hf.out).2, by rw [HW.out, World.drewN_drewN]⟩
                  case measure => exact meas_goal (t' := s' + 1) (a' := sa + 1) (by omega) (by omega) (meas_back (by omega))
            · by_cases k0 : (T t).kind = 0
              · by_cases hm : pfx s n (T t).text = true
                · have hm2 : Hid (pfx s n (T t).text = true) := hm
                  have HC : Hid (∀ x, Calls Try.prog 38 #[.string (s.extract n s.size), .string (T t).text] (wr.drewN x) fun e w' => e = .returned (.bool true) ∧ w' = wr.drewN x) := by
                    intro x
                    have h := hasPrefix_any (s.extract n s.size) (T t).text (wr.drewN x)
                    rwa [pfx_extract, show pfx s n (T t).text = true from by simpa using hm] at h
                  clear hm
                  have hle : n + (T t).text.size ≤ s.size := pfx_le (by omega) hm2.out
                  go_wp2
                  go_quiet ((go_at_call 38; exact Calls.quiet_of_same (HC.out _)))
                  go_wp2
                  go_roundw
                  case rel => exact ⟨t + 1, n + (T t).text.size, star, sa, m + nq, by go_num, by go_num, rfl, rfl, tok0 HI.out ht hn k0 hm2.out, by rw [HW.out, World.drewN_drewN]⟩
                  case measure => exact meas_goal (by omega) rfl (meas_fwd ht (Nat.le_refl _))
                · have hm2 : Hid (¬ pfx s n (T t).text = true) := hm
                  have HC : Hid (∀ x, Calls Try.prog 38 #[.string (s.extract n s.size), .string (T t).text] (wr.drewN x) fun e w' => e = .returned (.bool false) ∧ w' = wr.drewN x) := by
                    intro x
                    have h := hasPrefix_any (s.extract n s.size) (T t).text (wr.drewN x)
                    rwa [pfx_extract, show pfx s n (T t).text = false from by simpa using hm] at h
                  clear hm
                  have hf : Hid (M (gTok T W s) len s.size t n = false) := M_no_tok ht (g_nostar k2) (by rw [g_ok0 k0]; simpa using hm2.out)
                  by_cases hst : star < 0
                  · obtain rfl : star = -1 := by omega
                    go_wp2
                    go_quiet ((go_at_call 38; exact Calls.quiet_of_same (HC.out _)))
                    go_wp2
                    go_ret
                    exact ⟨by rw [inv_fail HI.out hf.out]; rfl, m + nq, by rw [HW.out, World.drewN_drewN]⟩
                  · obtain ⟨s', rfl⟩ : ∃ s' : Nat, star = s' := ⟨star.toNat, by omega⟩
                    go_wp2
                    go_quiet ((go_at_call 38; exact Calls.quiet_of_same (HC.out _)))
                    go_wp2
                    go_roundw
                    case rel => exact ⟨s' + 1, sa + 1, s', sa + 1, m + nq, by go_num, by go_num, rfl, by go_num, (inv_back HI.out hn hf.out).2, by rw [HW.out, World.drewN_drewN]⟩
                    case measure => exact meas_goal (t' := s' + 1) (a' := sa + 1) (by omega) (by omega) (meas_back (by omega))
              · have hf : Hid (M (gTok T W s) len s.size t n = false) := M_no_tok ht (g_nostar k2) (g_okno k1 k3 k0 n)
                by_cases hst : star < 0
                · obtain rfl : star = -1 := by omega
                  go_wp2
                  go_ret
                  exact ⟨by rw [inv_fail HI.out hf.out]; rfl, m, HW.out⟩
                · obtain ⟨s', rfl⟩ : ∃ s' : Nat, star = s' := ⟨star.toNat, by omega⟩
                  go_wp2
                  go_roundw
                  case rel => exact ⟨s' + 1, sa + 1, s', sa + 1, m, by go_num, by go_num, rfl, by go_num, (inv_back HI.out hn hf.out).2, HW.out⟩
                  case measure => exact meas_goal (t' := s' + 1) (a' := sa + 1) (by omega) (by omega) (meas_back (by omega))
      · have hf : Hid (M (gTok T W s) len s.size t n = false) := M_no_end (by omega) hn
        by_cases hst : star < 0
        · obtain rfl : star = -1 := by omega
          go_wp2
          go_ret
          exact ⟨by rw [inv_fail HI.out hf.out]; rfl, m, HW.out⟩
        · obtain ⟨s', rfl⟩ : ∃ s' : Nat, star = s' := ⟨star.toNat, by omega⟩
          go_wp2
          go_roundw
          case rel => exact ⟨s' + 1, sa + 1, s', sa + 1, m, by go_num, by go_num, rfl, by go_num, (inv_back HI.out hn hf.out).2, HW.out⟩
          case measure => exact meas_goal (t' := s' + 1) (a' := sa + 1) (by omega) (by omega) (meas_back (by omega))
    · go_wp2
      have HE : Hid (M (gTok T W s) len s.size 0 0 = M (gTok T W s) len s.size t s.size) := by
        obtain rfl : n = s.size := by omega
        exact inv_end HI.out
      go_loop [5] (fun tv => TInv (gTok T W s) len s.size tv) (fun tv => len - (intOf tv).toNat)
      case atStart => exact ⟨t, rfl, b1, HE.out⟩
      case round =>
        obtain ⟨t', rfl, ht', he⟩ := hrel
        have HE' := hid he
        clear he
        by_cases hlt : t' < len
        · obtain ⟨b, off, rfl, c0, c1, c2⟩ := HT.out t' hlt
          have d0 : wr.cell? ⟨b, off + t' * 3, none⟩ = some (.int .u8 (T t').kind) := by rw [HW.out]; exact c0
          clear c0 c1 c2
          by_cases k2 : (T t').kind = 2
          · go_wp2
            go_round
            case rel => exact ⟨t' + 1, by go_num, by omega, by rw [HE'.out, M_star_last hlt (g_star k2)]⟩
            case measure => simp [intOf]; omega
          · go_wp2
            go_ret
            exact ⟨by rw [HE'.out, M_no_last hlt (g_nostar k2)]; simp; omega, m, HW.out⟩
        · obtain rfl : t' = len := by omega
          go_wp2
          go_ret
          exact ⟨by rw [HE'.out, M_end (Nat.le_refl _)]; simp, m, HW.out⟩
end Go.Proofs.Qxb6602438a
