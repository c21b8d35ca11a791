/-
  The reader of numbers at the names of infinity and of no number, with and without a sign. Conditions: the slice's cells are known.
-/
import Derived.Test.YtalmpddmhakdmaaDoorSlow
namespace Go.Proofs.YtalmpddmhakdmaaDoor
open Go.RowKit
attribute [local go_sem] unary_neg_float' jump_normal jump_exit jump_ret jump_panic jump_goto

set_option maxHeartbeats 1000000 in
theorem inf_none (g cap : Nat) (w : World) (t : List UInt8) (ht : t = [105, 110, 102])
    (hc : ∀ i c, t[i]? = some c → w.cell? ⟨g, i, none⟩ = some (.int .u8 (c.toNat : Int))) :
    Calls Tryd.prog 8 #[.slice (some ⟨g, 0, none⟩) t.length cap] w fun e w' => e = .returned (.tuple #[.float .f64 9218868437227405312, .nilIface]) ∧ w = w' := by
  have hl : t.length = 3 := by rw [ht]; rfl
  rw [hl]
  rw [ht] at hc
  have c0 := hc 0 105 (by simp)
  have c1 := hc 1 110 (by simp)
  clear hc hl ht
  go_enter Tryd.func8, Tryd.ntmps8
  go_wp2_with (go_at_call 9; refine (inf_any _ _).mono ?_; rintro e w' ⟨rfl, rfl⟩)
  go_ret2
  exact ⟨rfl, rfl⟩

set_option maxHeartbeats 1000000 in
theorem nan_none (g cap : Nat) (w : World) (t : List UInt8) (ht : t = [110, 97, 110])
    (hc : ∀ i c, t[i]? = some c → w.cell? ⟨g, i, none⟩ = some (.int .u8 (c.toNat : Int))) :
    Calls Tryd.prog 8 #[.slice (some ⟨g, 0, none⟩) t.length cap] w fun e w' => e = .returned (.tuple #[.float .f64 9221120237041090561, .nilIface]) ∧ w = w' := by
  have hl : t.length = 3 := by rw [ht]; rfl
  rw [hl]
  rw [ht] at hc
  have c0 := hc 0 110 (by simp)
  have c1 := hc 1 97 (by simp)
  clear hc hl ht
  go_enter Tryd.func8, Tryd.ntmps8
  go_wp2_with (go_at_call 10; refine (nan_any _).mono ?_; rintro e w' ⟨rfl, rfl⟩)
  go_ret2
  exact ⟨rfl, rfl⟩

set_option maxHeartbeats 1000000 in
theorem inf_plus (g cap : Nat) (w : World) (t : List UInt8) (ht : t = [43, 105, 110, 102])
    (hc : ∀ i c, t[i]? = some c → w.cell? ⟨g, i, none⟩ = some (.int .u8 (c.toNat : Int))) :
    Calls Tryd.prog 8 #[.slice (some ⟨g, 0, none⟩) t.length cap] w fun e w' => e = .returned (.tuple #[.float .f64 9218868437227405312, .nilIface]) ∧ w = w' := by
  have hl : t.length = 4 := by rw [ht]; rfl
  rw [hl]
  rw [ht] at hc
  have c0 := hc 0 43 (by simp)
  have c1 := hc 1 105 (by simp)
  clear hc hl ht
  go_enter Tryd.func8, Tryd.ntmps8
  go_wp2_with (go_at_call 9; refine (inf_any _ _).mono ?_; rintro e w' ⟨rfl, rfl⟩)
  go_ret2
  exact ⟨rfl, rfl⟩

set_option maxHeartbeats 1000000 in
theorem nan_plus (g cap : Nat) (w : World) (t : List UInt8) (ht : t = [43, 110, 97, 110])
    (hc : ∀ i c, t[i]? = some c → w.cell? ⟨g, i, none⟩ = some (.int .u8 (c.toNat : Int))) :
    Calls Tryd.prog 8 #[.slice (some ⟨g, 0, none⟩) t.length cap] w fun e w' => e = .returned (.tuple #[.float .f64 9221120237041090561, .nilIface]) ∧ w = w' := by
  have hl : t.length = 4 := by rw [ht]; rfl
  rw [hl]
  rw [ht] at hc
  have c0 := hc 0 43 (by simp)
  have c1 := hc 1 110 (by simp)
  clear hc hl ht
  go_enter Tryd.func8, Tryd.ntmps8
  go_wp2_with (go_at_call 10; refine (nan_any _).mono ?_; rintro e w' ⟨rfl, rfl⟩)
  go_ret2
  exact ⟨rfl, rfl⟩

set_option maxHeartbeats 1000000 in
theorem inf_minus (g cap : Nat) (w : World) (t : List UInt8) (ht : t = [45, 105, 110, 102])
    (hc : ∀ i c, t[i]? = some c → w.cell? ⟨g, i, none⟩ = some (.int .u8 (c.toNat : Int))) :
    Calls Tryd.prog 8 #[.slice (some ⟨g, 0, none⟩) t.length cap] w fun e w' => e = .returned (.tuple #[.float .f64 18442240474082181120, .nilIface]) ∧ w = w' := by
  have hl : t.length = 4 := by rw [ht]; rfl
  rw [hl]
  rw [ht] at hc
  have c0 := hc 0 45 (by simp)
  have c1 := hc 1 105 (by simp)
  clear hc hl ht
  go_enter Tryd.func8, Tryd.ntmps8
  go_wp2_with (go_at_call 9; refine (inf_any _ _).mono ?_; rintro e w' ⟨rfl, rfl⟩)
  go_ret2
  exact ⟨rfl, rfl⟩

set_option maxHeartbeats 1000000 in
theorem nan_minus (g cap : Nat) (w : World) (t : List UInt8) (ht : t = [45, 110, 97, 110])
    (hc : ∀ i c, t[i]? = some c → w.cell? ⟨g, i, none⟩ = some (.int .u8 (c.toNat : Int))) :
    Calls Tryd.prog 8 #[.slice (some ⟨g, 0, none⟩) t.length cap] w fun e w' => e = .returned (.tuple #[.float .f64 9221120237041090561, .nilIface]) ∧ w = w' := by
  have hl : t.length = 4 := by rw [ht]; rfl
  rw [hl]
  rw [ht] at hc
  have c0 := hc 0 45 (by simp)
  have c1 := hc 1 110 (by simp)
  clear hc hl ht
  go_enter Tryd.func8, Tryd.ntmps8
  go_wp2_with (go_at_call 10; refine (nan_any _).mono ?_; rintro e w' ⟨rfl, rfl⟩)
  go_ret2
  exact ⟨rfl, rfl⟩

end Go.Proofs.YtalmpddmhakdmaaDoor
