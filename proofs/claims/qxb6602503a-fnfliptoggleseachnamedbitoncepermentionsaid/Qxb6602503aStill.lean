/- A region that draws its order, all of whose operations but the last leave the world alone: walked in the text's order behind a structure, so that no tactic lays the walk open. -/
import Derived.StillTailTactics
import Derived.WalkKit
namespace Go.Proofs.Qxb6602503a

structure WpS (P : Program) (ops : Array Oper) (w : World) (Q : Act → Prop) (l : List Oper) (a : Act) : Prop where
  out : wpStill P ops w Q l a

section
variable {P : Program} {ops : Array Oper} {w : World} {Q : Act → Prop} {a : Act} {o : Oper} {rest : List Oper}
theorem WpS.nil (h : Q a) : WpS P ops w Q [] a := ⟨wpStill_nil h⟩
theorem WpS.step (h : ∀ K : Act → Prop, (∀ a, WpS P ops w Q rest a → K a) → if Region.wanted o (yielded ops a.tmps) then o.still P a w K else K (a.put o.dst undef)) : WpS P ops w Q (o :: rest) a :=
  ⟨wpStill_step fun K hK => h K fun a ha => hK a ha.out⟩
theorem WpS.skip (hw : Region.wanted o (yielded ops a.tmps) = false) (h : WpS P ops w Q rest (a.put o.dst undef)) : WpS P ops w Q (o :: rest) a :=
  WpS.step fun K hK => by rw [if_neg (by rw [hw]; exact Bool.false_ne_true)]; exact hK _ h
end

theorem wp_region_tail {P : Program} {id : Nat} {Q : Exit → Act → World → Prop} {a : Act} {w : World} {l : List Oper} (n : Nat) (hm : P.follows .mixedOrders = true) (hB : Region.lexTailB .any l.toArray n = true)
    (h : WpS P l.toArray w.drew (fun a' => wpList P l.toArray Q (l.drop n) a' w.drew) (l.take n) a) : (Code.region id l.toArray true).wp P Q a w :=
  wp_region_still_tail n hm hB h.out
end Go.Proofs.Qxb6602503a
