/- The walks of contains, inSet, HasPrefix, prefixAt. -/
import Derived.Test.Qxb6602438aReads
import Derived.Deep.QuietTactic
import Derived.BigQuiet
import Derived.Laws.BitsAllLaws
import Derived.Lib.IndexBytes
import Derived.Laws.Bits64
namespace Go.Proofs.Qxb6602438a
open Go.RowKit

/-- is the byte c in the set of these four words? -/
def memb (W : Nat → Nat) (c : Nat) : Bool := decide (W (c / 64) / 2 ^ (c % 64) % 2 = 1)

theorem memb_shr (x s : Nat) (hx : x < 18446744073709551616) : (bits BinOp.and IntKind.u64 ((x : Int) / 2 ^ s) 1 == 1) = decide (x / 2 ^ s % 2 = 1) := by
  have hd : x / 2 ^ s < 18446744073709551616 := Nat.lt_of_le_of_lt (Nat.div_le_self _ _) hx
  have e : ((x : Int) / 2 ^ s) = ((x / 2 ^ s : Nat) : Int) := by simp
  have h := u64_and_nat (x / 2 ^ s) 1 hd (by omega)
  rw [nat_mask1] at h
  rw [e]
  have e1 : ((1 : Nat) : Int) = 1 := rfl
  rw [e1] at h
  rw [h, Bool.eq_iff_iff]
  simp only [beq_iff_eq, decide_eq_true_eq]
  omega

theorem memb_and (x s : Nat) (hx : x < 18446744073709551616) (hs : s < 64) : (bits BinOp.and IntKind.u64 (x : Int) (IntKind.u64.wrap (2 ^ s)) != 0) = decide (x / 2 ^ s % 2 = 1) := by
  have hp : 2 ^ s < 18446744073709551616 := by
    have : 2 ^ s ≤ 2 ^ 63 := Nat.pow_le_pow_right (by omega) (by omega)
    omega
  have hp0 : 0 < 2 ^ s := Nat.pos_of_ne_zero (by simp)
  have e : IntKind.u64.wrap (2 ^ s) = ((2 ^ s : Nat) : Int) := by
    rw [IntKind.wrap_u64]
    have : ((2 : Int) ^ s) = ((2 ^ s : Nat) : Int) := by simp
    rw [this]
    omega
  rw [e, u64_and_nat x (2 ^ s) hx hp, nat_bit, Bool.eq_iff_iff]
  simp only [bne_iff_ne, decide_eq_true_eq]
  constructor
  · intro h
    by_cases e0 : x / 2 ^ s % 2 = 0
    · rw [e0] at h; simp at h
    · omega
  · intro h
    rw [h]
    omega

set_option maxHeartbeats 400000 in
theorem inSet_any (b off : Nat) (W : Nat → Nat) (c : Nat) (w : World) (hc : c < 256) (h : ∀ j, j < 4 → w.cell? ⟨b, off + j, none⟩ = some (.int .u64 (W j)) ∧ W j < 18446744073709551616) :
    Calls Try.prog 33 #[.pointer (some ⟨b, off, none⟩), .int .u8 c] w fun e w' => e = .returned (.bool (memb W c)) ∧ w' = w := by
  obtain ⟨h1, h2⟩ := h (c / 64) (by omega)
  clear h
  have hc1 : (0 : Int) ≤ (c : Int) := by omega
  have hc2 : (c : Int) < 256 := by omega
  have hm : Hid ((bits BinOp.and IntKind.u64 ((W (c / 64) : Int) / 2 ^ (c % 64)) 1 == 1) = memb W c) := memb_shr _ _ h2
  go_enter Try.func33, Try.ntmps33
  go_wp2
  go_ret
  exact ⟨by rw [← hm.out]; rfl, rfl⟩

set_option maxHeartbeats 400000 in
theorem contains_any (b off : Nat) (W : Nat → Nat) (c : Nat) (w : World) (hc : c < 256) (h : ∀ j, j < 4 → w.cell? ⟨b, off + j, none⟩ = some (.int .u64 (W j)) ∧ W j < 18446744073709551616) :
    Calls Try.prog 37 #[.pointer (some ⟨b, off, none⟩), .int .u8 c] w fun e w' => e = .returned (.bool (memb W c)) ∧ w' = w := by
  obtain ⟨h1, h2⟩ := h (c / 64) (by omega)
  clear h
  have hc1 : (0 : Int) ≤ (c : Int) := by omega
  have hc2 : (c : Int) < 256 := by omega
  have hm : Hid ((bits BinOp.and IntKind.u64 (W (c / 64) : Int) (IntKind.u64.wrap (2 ^ (c % 64))) != 0) = memb W c) := memb_and _ _ h2 (by omega)
  go_enter Try.func37, Try.ntmps37
  go_wp2
  go_ret
  exact ⟨by rw [← hm.out]; rfl, rfl⟩

/-- does t stand in s at place p? -/
def pfx (s : ByteArray) (p : Nat) (t : ByteArray) : Bool := t.data.toList.isPrefixOf (s.data.toList.drop p)

theorem size_len (s : ByteArray) : s.data.toList.length = s.size := by
  show s.data.toList.length = s.data.size
  simp

theorem pfx_iff {s t : ByteArray} {p : Nat} : pfx s p t = true ↔ ∀ j (h : j < t.size), s.data.toList[p + j]? = some t[j] := by
  unfold pfx
  rw [List.isPrefixOf_iff_prefix, List.prefix_iff_getElem?]
  constructor
  · intro h j hj
    have := h j (by rw [size_len]; exact hj)
    rw [List.getElem?_drop] at this
    rw [this]; rfl
  · intro h j hj
    rw [List.getElem?_drop, h j (by rw [size_len] at hj; exact hj)]; rfl

theorem pfx_le {s t : ByteArray} {p : Nat} (hp : p ≤ s.size) (h : pfx s p t = true) : p + t.size ≤ s.size := by
  by_cases h0 : t.size = 0
  · omega
  · have := pfx_iff.1 h (t.size - 1) (by omega)
    have := (List.getElem?_eq_some_iff.1 this).1
    rw [size_len] at this
    omega

theorem at_eq {s : ByteArray} {k : Nat} (h : k < s.size) : s.data.toList[k]? = some s[k] := by
  rw [List.getElem?_eq_getElem (by rw [size_len]; exact h)]; rfl

theorem byte_eq {a b : UInt8} (h : (a.toNat : Int) = (b.toNat : Int)) : a = b := by
  apply UInt8.toNat_inj.1; omega

theorem hasPrefix_eq (s t : ByteArray) : (decide (t.size ≤ s.size) && ((s.extract 0 t.size).toList == t.toList)) = pfx s 0 t := by
  rw [Bool.eq_iff_iff, Bool.and_eq_true, decide_eq_true_eq, beq_iff_eq, ByteArray.toList_eq, ByteArray.toList_eq, Lib.extract_data]
  unfold pfx
  rw [List.isPrefixOf_iff_prefix]
  simp only [List.drop_zero, Nat.sub_zero]
  rw [List.prefix_iff_eq_take, size_len]
  constructor
  · rintro ⟨_, h⟩; exact h.symm
  · intro h
    refine ⟨?_, h.symm⟩
    have := congrArg List.length h
    rw [List.length_take, size_len, size_len] at this
    omega

theorem pfx_extract (s t : ByteArray) (n : Nat) : pfx (s.extract n s.size) 0 t = pfx s n t := by
  unfold pfx
  rw [Lib.extract_to_end]
  simp

set_option maxHeartbeats 400000 in
theorem hasPrefix40_any (s t : ByteArray) (w : World) :
    Calls Try.prog 40 #[.string s, .string t] w fun e w' => e = .returned (.bool (pfx s 0 t)) ∧ w' = w := by
  have HP : Hid ((decide (t.size ≤ s.size) && ((s.extract 0 t.size).toList == t.toList)) = pfx s 0 t) := hasPrefix_eq s t
  by_cases h : t.size ≤ s.size
  · go_enter Try.func40, Try.ntmps40
    go_wp2
    go_ret
    exact ⟨by rw [← HP.out]; simp [h], rfl⟩
  · go_enter Try.func40, Try.ntmps40
    go_wp2
    go_ret
    exact ⟨by rw [← HP.out]; simp [h], rfl⟩

set_option maxHeartbeats 400000 in
theorem hasPrefix_any (s t : ByteArray) (w : World) :
    Calls Try.prog 38 #[.string s, .string t] w fun e w' => e = .returned (.bool (pfx s 0 t)) ∧ w' = w := by
  go_enter Try.func38, Try.ntmps38
  go_wp2_with fail
  refine (hasPrefix40_any s t w).mono ?_
  rintro e w' ⟨rfl, rfl⟩
  go_wp2
  go_ret
  exact ⟨rfl, rfl⟩

set_option maxHeartbeats 800000 in
theorem prefixAt_any (s : ByteArray) (p : Nat) (t : ByteArray) (w : World) (hs : s.size ≤ maxLen) (ht : t.size ≤ maxLen) (hp : p ≤ s.size) :
    Calls Try.prog 34 #[.string s, .int .i64 p, .string t] w fun e w' => e = .returned (.bool (pfx s p t)) ∧ ∃ n, w' = w.drewN n := by
  unfold maxLen at hs ht
  by_cases h : (s.size : Int) - (p : Int) < (t.size : Int)
  · have hf : Hid (pfx s p t = false) := by
      show pfx s p t = false
      cases e : pfx s p t with
      | true => have := pfx_le hp e; omega
      | false => rfl
    go_enter Try.func34, Try.ntmps34
    go_wp2
    go_ret
    exact ⟨by rw [hf.out]; rfl, 0, rfl⟩
  · go_enter Try.func34, Try.ntmps34
    go_wp2
    go_loopw [7] (fun jv wq => ∃ (j n : Nat), jv = .int .i64 j ∧ j ≤ t.size ∧ wq = w.drewN n ∧ Hid (∀ x (hx : x < t.size), x < j → s.data.toList[p + x]? = some t[x])) (fun jv _ => t.size - (intOf jv).toNat)
    case atStart => exact ⟨0, 0, rfl, Nat.zero_le _, rfl, fun x _ hx => by omega⟩
    case round =>
      obtain ⟨j, n, rfl, hj, rfl, HX⟩ := hrel
      by_cases hlt : j < t.size
      · have hpj : (p : Int) + (j : Int) < (s.size : Int) := by omega
        have hpj2 : p + j < s.size := by omega
        have hwr : IntKind.i64.wrap ((p : Int) + (j : Int)) = (p : Int) + (j : Int) := by rw [IntKind.wrap_i64]; omega
        have hz : (0 : Int) ≤ (p : Int) + (j : Int) := by omega
        have htn : ((p : Int) + (j : Int)).toNat = p + j := by omega
        have HS : Hid (s.data.toList[p + j]? = some s[p + j]) := at_eq hpj2
        by_cases hb : (s[p + j].toNat : Int) = (t[j].toNat : Int)
        · have HB : Hid ((s[p + j].toNat : Int) = (t[j].toNat : Int)) := hb
          go_wp2
          go_quiet (fail)
          go_wp2
          go_roundw
          case rel =>
            refine ⟨j + 1, n + nq, by go_num, by omega, rfl, fun x hx hxj => ?_⟩
            by_cases e : x = j
            · subst e
              rw [HS.out, byte_eq HB.out]
            · exact HX.out x hx (by omega)
          case measure => simp [intOf]; omega
        · have HB : Hid (¬ (s[p + j].toNat : Int) = (t[j].toNat : Int)) := hb
          go_wp2
          go_quiet (fail)
          go_wp2
          go_ret
          have hf : pfx s p t = false := by
            cases e : pfx s p t with
            | true =>
              have h1 := pfx_iff.1 e j hlt
              rw [HS.out] at h1
              exact absurd (by rw [Option.some.inj h1]) HB.out
            | false => rfl
          exact ⟨by rw [hf]; rfl, n + nq, by rw [World.drewN_drewN]⟩
      · have hf : Hid (pfx s p t = true) := pfx_iff.2 fun x hx => HX.out x hx (by omega)
        go_wp2
        go_ret
        exact ⟨by rw [hf.out]; rfl, n, rfl⟩
end Go.Proofs.Qxb6602438a
