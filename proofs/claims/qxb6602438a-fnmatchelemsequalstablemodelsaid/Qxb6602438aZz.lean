/- The walk of zzBytes_FnMatchElemsEqualsTableModel: it answers, and leaves the world alone. -/
import Derived.Test.Qxb6602438aSegs
namespace Go.Proofs.Qxb6602438a
open Go.RowKit

set_option maxHeartbeats 8000000 in
set_option maxRecDepth 100000 in
theorem zzElems_any (a : Option Addr) (len cap : Nat) (S : Nat → Sg) (a1 : Option Addr) (ne cap1 : Nat) (E : Nat → ByteArray) (w : World) (hl : len ≤ maxLen) (hne : ne ≤ maxLen)
    (hT : SegRow w a len S) (hG : ∀ i, i < len → GlobIn w (S i)) (hE : ElemRow w a1 ne E) :
    Calls Try.prog 19 #[.slice a len cap, .slice a1 ne cap1] w fun e w' => RetB (fun _ => True) e ∧ w' = w := by
  unfold maxLen at hl hne
  have HG := hid hG
  have HT := hid hT
  have HE := hid hE
  clear hG hT hE
  by_cases hbig : (1048576 : Int) < (len : Int)
  · go_enter Try.func19, Try.ntmps19
    go_wp2
    go_ret
    exact ⟨⟨false, rfl, trivial⟩, rfl⟩
  · go_enter Try.func19, Try.ntmps19
    go_wp2
    go_loop [5, 6] (fun t i => ZInv len t i) (fun _ i => len - (intOf i).toNat)
    case atStart => exact ⟨0, len, Nat.zero_le _, by omega, by omega, rfl, rfl⟩
    case round =>
      obtain ⟨k, x, hk, hx0, hx3, rfl, rfl⟩ := hrel
      by_cases hlt : k < len
      · obtain ⟨b, off, rfl, c0, c1, c2⟩ := HT.out k hlt
        by_cases t1 : (1048576 : Int) < ((S k).lit.size : Int)
        · go_wp2
          go_ret
          exact ⟨⟨false, rfl, trivial⟩, rfl⟩
        · by_cases t2 : 1048576 < x + ((S k).lit.size : Int)
          · go_wp2
            go_ret
            exact ⟨⟨false, rfl, trivial⟩, rfl⟩
          · by_cases t3 : (1048576 : Int) < ((S k).glen : Int)
            · go_wp2
              go_ret
              exact ⟨⟨false, rfl, trivial⟩, rfl⟩
            · by_cases t4 : 1048576 < x + ((S k).lit.size : Int) + ((S k).glen : Int)
              · go_wp2
                go_ret
                exact ⟨⟨false, rfl, trivial⟩, rfl⟩
              · go_wp2
                go_loop [5, 7] (fun t i => ZInv (S k).glen t i) (fun _ i => (S k).glen - (intOf i).toNat)
                case atStart => exact ⟨0, _, Nat.zero_le _, by omega, by omega, rfl, rfl⟩
                case round =>
                  obtain ⟨j, y, hj, hy0, hy3, rfl, rfl⟩ := hrel
                  by_cases hjl : j < (S k).glen
                  · obtain ⟨b2, off2, e2, d0, d1, d2⟩ := (HG.out k hlt).row j hjl
                    rw [e2] at c2
                    clear e2
                    by_cases s1 : (1048576 : Int) < (((S k).T j).text.size : Int)
                    · go_wp2
                      go_ret
                      exact ⟨⟨false, rfl, trivial⟩, rfl⟩
                    · by_cases s2 : 1048576 < y + (((S k).T j).text.size : Int)
                      · go_wp2
                        go_ret
                        exact ⟨⟨false, rfl, trivial⟩, rfl⟩
                      · go_wp2
                        go_round
                        case rel => exact ⟨j + 1, y + (((S k).T j).text.size : Int), by omega, by omega, by omega, rfl, by go_num⟩
                        case measure => simp [intOf] <;> omega
                  · go_wp2
                    go_round
                    case rel => exact ⟨k + 1, y, by omega, by omega, by omega, rfl, by go_num⟩
                    case measure => simp [intOf] <;> omega
      · by_cases t1 : (1048576 : Int) < (ne : Int)
        · go_wp2
          go_ret
          exact ⟨⟨false, rfl, trivial⟩, rfl⟩
        · by_cases t2 : 1048576 < x + (ne : Int)
          · go_wp2
            go_ret
            exact ⟨⟨false, rfl, trivial⟩, rfl⟩
          · go_wp2
            go_loop [5, 8] (fun t i => ZInv ne t i) (fun _ i => ne - (intOf i).toNat)
            case atStart => exact ⟨0, _, Nat.zero_le _, by omega, by omega, rfl, rfl⟩
            case round =>
              obtain ⟨j, y, hj, hy0, hy3, rfl, rfl⟩ := hrel
              by_cases hjl : j < ne
              · obtain ⟨b2, off2, rfl, d0⟩ := HE.out j hjl
                by_cases s1 : (1048576 : Int) < ((E j).size : Int)
                · go_wp2
                  go_ret
                  exact ⟨⟨false, rfl, trivial⟩, rfl⟩
                · by_cases s2 : 1048576 < y + ((E j).size : Int)
                  · go_wp2
                    go_ret
                    exact ⟨⟨false, rfl, trivial⟩, rfl⟩
                  · go_wp2
                    go_round
                    case rel => exact ⟨j + 1, y + ((E j).size : Int), by omega, by omega, by omega, rfl, by go_num⟩
                    case measure => simp [intOf] <;> omega
              · go_wp2
                go_ret
                exact ⟨⟨true, rfl, trivial⟩, rfl⟩
end Go.Proofs.Qxb6602438a
