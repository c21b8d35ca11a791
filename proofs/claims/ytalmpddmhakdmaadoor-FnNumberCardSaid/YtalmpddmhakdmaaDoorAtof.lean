/-
  The walk of the library's conversion of a text to a float, by the walks of its parts, up to the function that callers use. Conditions: what its parts tell; the library's own tables hold the powers of ten.
-/
import Derived.Test.YtalmpddmhakdmaaDoorExact
namespace Go.Proofs.YtalmpddmhakdmaaDoor
open Go.RowKit
attribute [local go_sem] unary_neg_float' jump_normal jump_exit jump_ret jump_panic jump_goto

set_option maxHeartbeats 1000000 in
set_option maxRecDepth 100000 in
theorem atof_any (s : ByteArray) (w : World) (m : Nat) (R : Int) (neg : Bool) (hm : m ≤ 4294967295) (hR : -22 ≤ R ∧ R ≤ 22) (hz : m = 0 → R = 0)
    (hsp : Calls Tryd.prog 29 #[.string s] w fun e w' => e = .returned (.tuple #[.float .f64 0, .int .i64 0, .bool false]) ∧ w = w')
    (hrd : Calls Tryd.prog 30 #[.string s] w fun e w' => e = .returned (.tuple #[.int .u64 m, .int .i64 R, .bool neg, .bool false, .bool false, .int .i64 s.size, .bool true]) ∧ w = w')
    (b : Addr) (cap : Nat) (hopt : w.cell? ⟨6, 0, none⟩ = some (.bool true))
    (hinfo : w.cell? ⟨7, 0, none⟩ = some (.int .u64 52)) (hp : w.cell? ⟨10, 0, none⟩ = some (.slice (some b) 23 cap)) (htab : ∀ i, i ≤ 22 → w.cell? (b.add i) = some (.float .f64 (Fl.ten i))) :
    Calls Tryd.prog 25 #[.string s] w fun e w' => e = .returned (.tuple #[.float .f64 (Fl.signed neg (Fl.told m R)), .int .i64 s.size, .nilIface]) ∧ w = w' := by
  have HS := Lib.hid hsp
  have HRD := Lib.hid hrd
  clear hsp hrd
  by_cases h0 : m = 0
  · have hR0 := hz h0
    subst hR0
    subst h0
    have hf := run_frombits39
    have hres : Fl.signed neg (Fl.told 0 0) = if neg = true then 9223372036854775808 else 0 := by
      rw [Fl.told_none (by omega) (by omega)]
      cases neg
      · rw [Fl.signed_false]; rfl
      · rw [Fl.signed_true]; rfl
    rw [hres]
    clear hres htab hp hinfo hz hm hR
    cases neg
    all_goals
      go_enter Tryd.func25, Tryd.ntmps25
      go_wp2_with first
        | (go_at_call 29; refine (HS.out).mono ?_; rintro e w' ⟨rfl, rfl⟩)
        | (go_at_call 30; refine (HRD.out).mono ?_; rintro e w' ⟨rfl, rfl⟩)
        | (go_at_call 38; refine (bool2_any _ _).mono ?_; rintro e w' ⟨rfl, rfl⟩)
      go_ret3
      exact ⟨rfl, rfl⟩
  · have HE := Lib.hid (exact_any m R neg w h0 hm hR.1 hR.2 b cap hinfo hp htab)
    clear hinfo hp htab
    obtain ⟨F, hF⟩ : ∃ F, F = Fl.signed neg (Fl.told m R) := ⟨_, rfl⟩
    rw [← hF] at HE ⊢
    clear hF
    have ez : ((m : Int) == 0) = false := by simp; omega
    have hR1 := hR.1
    have hR2 := hR.2
    clear hR hz
    go_enter Tryd.func25, Tryd.ntmps25
    go_wp2_with first
      | (go_at_call 29; refine (HS.out).mono ?_; rintro e w' ⟨rfl, rfl⟩)
      | (go_at_call 30; refine (HRD.out).mono ?_; rintro e w' ⟨rfl, rfl⟩)
      | (go_at_call 38; refine (bool2_any _ _).mono ?_; rintro e w' ⟨rfl, rfl⟩)
      | (go_at_call 40; refine (HE.out).mono ?_; rintro e w' ⟨rfl, rfl⟩)
    all_goals
      go_ret3
      exact ⟨rfl, rfl⟩

set_option maxHeartbeats 1000000 in
theorem prefix_any (s : ByteArray) (w : World) (F : Nat)
    (h : Calls Tryd.prog 25 #[.string s] w fun e w' => e = .returned (.tuple #[.float .f64 F, .int .i64 s.size, .nilIface]) ∧ w = w') :
    Calls Tryd.prog 13 #[.string s, .int .i64 64] w fun e w' => e = .returned (.tuple #[.float .f64 F, .nilIface]) ∧ w = w' := by
  have H := Lib.hid h
  clear h
  have h19 : Calls Tryd.prog 19 #[.string s, .int .i64 64] w fun e w' => e = .returned (.tuple #[.float .f64 F, .int .i64 s.size, .nilIface]) ∧ w = w' := by
    go_enter Tryd.func19, Tryd.ntmps19
    go_wp2_with (go_at_call 25; refine (H.out).mono ?_; rintro e w' ⟨rfl, rfl⟩)
    go_ret3
    exact ⟨rfl, rfl⟩
  have H19 := Lib.hid h19
  clear h19 H
  have h17 : Calls Tryd.prog 17 #[.string s, .int .i64 64] w fun e w' => e = .returned (.tuple #[.float .f64 F, .nilIface]) ∧ w = w' := by
    go_enter Tryd.func17, Tryd.ntmps17
    go_wp2_with (go_at_call 19; refine (H19.out).mono ?_; rintro e w' ⟨rfl, rfl⟩)
    go_ret2
    exact ⟨rfl, rfl⟩
  have H17 := Lib.hid h17
  clear h17 H19
  go_enter Tryd.func13, Tryd.ntmps13
  go_wp2_with (go_at_call 17; refine (H17.out).mono ?_; rintro e w' ⟨rfl, rfl⟩)
  go_ret2
  exact ⟨rfl, rfl⟩

end Go.Proofs.YtalmpddmhakdmaaDoor
