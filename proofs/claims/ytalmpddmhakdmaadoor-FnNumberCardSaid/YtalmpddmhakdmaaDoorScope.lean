/-
  Steps for a function that jumps ahead to a label, and two small laws on floats for the walk. No conditions.
-/
import Derived.Test.YtalmpddmhakdmaaDoorRows
import Derived.Test.YtalmpddmhakdmaaDoorPlain
import Derived.Test.YtalmpddmhakdmaaDoorFloat
import Derived.WalkKit
import Derived.WalkSpells
import Derived.WalkLawsBesides
import Derived.Lib.Hide
import Derived.Deep.DeepCutAuto
import Derived.Deep.CutBlock
import Derived.WalkMore
import Derived.ScopeJumps
namespace Go.Proofs.YtalmpddmhakdmaaDoor
open Go.RowKit

theorem float_ofNat' (m : Nat) : floatOfInt .f64 (m : Int) = Fl.ofNat m := by
  show Ieee.double.nearest (decide ((m : Int) < 0)) (m : Int).natAbs 0 = Ieee.double.nearest false m 0
  rw [show decide ((m : Int) < 0) = false from decide_eq_false (by omega), Int.natAbs_natCast]
theorem unary_neg_float' (b : Nat) : Op.unary .neg (.float .f64 b) = pure (.float .f64 (Fl.flip b)) := rfl
attribute [local go_sem] unary_neg_float'

theorem jump_normal (l : Nat) (J : Act → World → Prop) (Q : Exit → Act → World → Prop) (a : Act) (w : World) : Exit.jump l J Q .normal a w = Q .normal a w := rfl
theorem jump_exit (l : Nat) (J : Act → World → Prop) (Q : Exit → Act → World → Prop) (a : Act) (w : World) (id : Nat) : Exit.jump l J Q (.exit id) a w = Q (.exit id) a w := rfl
theorem jump_ret (l : Nat) (J : Act → World → Prop) (Q : Exit → Act → World → Prop) (a : Act) (w : World) : Exit.jump l J Q .ret a w = Q .ret a w := rfl
theorem jump_panic (l : Nat) (J : Act → World → Prop) (Q : Exit → Act → World → Prop) (a : Act) (w : World) (ch : List PanicEntry) : Exit.jump l J Q (.panic ch) a w = Q (.panic ch) a w := rfl
theorem jump_goto (l : Nat) (J : Act → World → Prop) (Q : Exit → Act → World → Prop) (a : Act) (w : World) : Exit.jump l J Q (.goto l) a w = J a w := by
  simp [Exit.jump]

/-- A scope in which the run jumps ahead to one label, once: what is behind the label is walked from there. -/
theorem wp_scope_ahead {P : Program} {a : Act} {w : World} {Q : Exit → Act → World → Prop} {c rest : Code} (l : Nat) (hf : findLabel c l = some rest)
    (first : c.wp P (Exit.jump l (fun a w => rest.wp P (Exit.jump l (fun _ _ => False) Q) a w) Q) a w) : (Code.scope c).wp P Q a w := by
  refine wp_scope_jumps l _ (fun _ _ => 0) hf first ?_
  intro a w h
  refine wp_mono h ?_
  intro e a w hq
  cases e with
  | goto l' => exact hq.2.elim
  | _ => exact hq
attribute [local go_sem] jump_normal jump_exit jump_ret jump_panic jump_goto
end Go.Proofs.YtalmpddmhakdmaaDoor
