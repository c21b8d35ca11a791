/-
  The walks of the library's small functions that the long reader of numbers goes through, and laws for many results. Conditions: those that each law states.
-/
import Derived.Test.YtalmpddmhakdmaaDoorScope
import Derived.Test.YtalmpddmhakdmaaDoorPlainB
import Derived.Laws.BitsAllLaws
import Derived.Laws.Externs
namespace Go.Proofs.YtalmpddmhakdmaaDoor
open Go.RowKit

theorem lower_any (n : Int) (w : World) : Calls Tryd.prog 46 #[.int .u8 n] w fun e w' => e = .returned (.int .u8 (bits .or .u8 n 32)) ∧ w = w' := by
  go_enter Tryd.func46, Tryd.ntmps46
  go_wp2_with fail
  go_ret
  exact ⟨rfl, rfl⟩

theorem lower_not_x : ∀ n : _root_.Fin 256, n.val ≠ 88 → n.val ≠ 120 → (bits .or .u8 (n.val : Int) 32 == 120) = false := by decide +kernel

theorem lower_okC {c : UInt8} (h : Pl.okC c = true) : (bits .or .u8 (c.toNat : Int) 32 == 120) = false := by
  have hc : c.toNat < 256 := c.toNat_lt
  refine lower_not_x ⟨c.toNat, hc⟩ ?_ ?_
  · intro e
    have : c = 88 := UInt8.toNat_inj.1 e
    subst this
    revert h
    decide
  · intro e
    have : c = 120 := UInt8.toNat_inj.1 e
    subst this
    revert h
    decide

theorem results_tmp7 {fn : Func} {t u v x y z q : Tmp} (h : fn.results = #[.tmp t, .tmp u, .tmp v, .tmp x, .tmp y, .tmp z, .tmp q]) (tmps : Array Value) (P : Program) (w : World) :
    (results fn tmps).run P w = .ok (.tuple #[tmps.getD t undef, tmps.getD u undef, tmps.getD v undef, tmps.getD x undef, tmps.getD y undef, tmps.getD z undef, tmps.getD q undef]) w := by simp [results, h]

theorem run_frombits39 (n : Int) (w : World) : (callFunc 39 #[.int .u64 n]).run Tryd.prog w = .ok (.value (.float .f64 n.toNat)) w := by
  rw [run_callFunc_extern (e := Extern.MathFloatBits.float64frombits) Tryd.func39 (by kernel_rfl) (by kernel_rfl) (by kernel_rfl) (by kernel_rfl)]
  rfl
theorem run_frombits15 (n : Int) (w : World) : (callFunc 15 #[.int .u64 n]).run Tryd.prog w = .ok (.value (.float .f64 n.toNat)) w := by
  rw [run_callFunc_extern (e := Extern.MathFloatBits.float64frombits) Tryd.func15 (by kernel_rfl) (by kernel_rfl) (by kernel_rfl) (by kernel_rfl)]
  rfl

theorem bool2_any (b : Bool) (w : World) : Calls Tryd.prog 38 #[.bool b] w fun e w' => e = .returned (.int .u64 (if b = true then 1 else 0)) ∧ w = w' := by
  cases b
  · go_enter Tryd.func38, Tryd.ntmps38
    go_wp2_with fail
    go_ret
    exact ⟨rfl, rfl⟩
  · go_enter Tryd.func38, Tryd.ntmps38
    go_wp2_with fail
    go_ret
    exact ⟨rfl, rfl⟩

theorem inf_any (n : Int) (w : World) : Calls Tryd.prog 9 #[.int .i64 n] w fun e w' => e = .returned (.float .f64 (if 0 ≤ n then 9218868437227405312 else 18442240474082181120)) ∧ w = w' := by
  have hf := run_frombits15
  by_cases h : 0 ≤ n
  · rw [if_pos h]
    go_enter Tryd.func9, Tryd.ntmps9
    go_wp2_with fail
    go_ret
    exact ⟨rfl, rfl⟩
  · rw [if_neg h]
    go_enter Tryd.func9, Tryd.ntmps9
    go_wp2_with fail
    go_ret
    exact ⟨rfl, rfl⟩

theorem nan_any (w : World) : Calls Tryd.prog 10 #[] w fun e w' => e = .returned (.float .f64 9221120237041090561) ∧ w = w' := by
  have hf := run_frombits15
  go_enter Tryd.func10, Tryd.ntmps10
  go_wp2_with fail
  go_ret
  exact ⟨rfl, rfl⟩

end Go.Proofs.YtalmpddmhakdmaaDoor
