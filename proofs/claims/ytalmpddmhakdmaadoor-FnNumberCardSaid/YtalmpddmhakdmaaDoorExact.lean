/-
  The walks of the library's looks at named numbers and of its exact conversion to a float. Conditions: the text has the letters that its bounds say; the library's own tables hold the powers of ten.
-/
import Derived.Test.YtalmpddmhakdmaaDoorScope
import Derived.Test.YtalmpddmhakdmaaDoorSmall
namespace Go.Proofs.YtalmpddmhakdmaaDoor
open Go.RowKit
attribute [local go_sem] unary_neg_float' jump_normal jump_exit jump_ret jump_panic jump_goto

set_option maxHeartbeats 400000 in
theorem common_none (s : ByteArray) (w : World) (hs : 0 < s.size) (c : UInt8) (hc : s[0]'hs = c) (hd : 48 ≤ c.toNat ∧ c.toNat ≤ 57) :
    Calls Tryd.prog 43 #[.string s, .string ⟨#[105, 110, 102, 105, 110, 105, 116, 121]⟩] w fun e w' => e = .returned (.int .i64 0) ∧ w = w' := by
  have hne : ((c.toNat : Int) != (((⟨#[105, 110, 102, 105, 110, 105, 116, 121]⟩ : ByteArray)[0]'(by decide)).toNat : Int)) = true := by
    have h1 : ((⟨#[105, 110, 102, 105, 110, 105, 116, 121]⟩ : ByteArray)[0]'(by decide)).toNat = 105 := rfl
    rw [h1]
    simp
    omega
  have h65 : decide ((65 : Int) ≤ (c.toNat : Int)) = false := by simp; omega
  go_enter Tryd.func43, Tryd.ntmps43
  go_wp2_with fail
  all_goals
    refine wp_loop_rounds 1 ?_
    rw [rounds_succ]
    go_wp2_with fail
    go_ret
    exact ⟨rfl, rfl⟩

set_option maxHeartbeats 400000 in
theorem special_none (s : ByteArray) (w : World) (hs : 0 < s.size) (c : UInt8) (hc : s[0]'hs = c) (hd : 48 ≤ c.toNat ∧ c.toNat ≤ 57) :
    Calls Tryd.prog 29 #[.string s] w fun e w' => e = .returned (.tuple #[.float .f64 0, .int .i64 0, .bool false]) ∧ w = w' := by
  have hne : ¬ s = ByteArray.empty := by
    rintro rfl
    exact absurd hs (by decide)
  have e1 : ((c.toNat : Int) == 43) = false := by simp; omega
  have e2 : ((c.toNat : Int) == 45) = false := by simp; omega
  have e3 : ((c.toNat : Int) == 105) = false := by simp; omega
  have e4 : ((c.toNat : Int) == 73) = false := by simp; omega
  have e5 : ((c.toNat : Int) == 110) = false := by simp; omega
  have e6 : ((c.toNat : Int) == 78) = false := by simp; omega
  go_enter Tryd.func29, Tryd.ntmps29
  go_wp2_with fail
  go_ret3
  exact ⟨rfl, rfl⟩

set_option maxHeartbeats 400000 in
theorem special_minus (s : ByteArray) (w : World) (hs : 1 < s.size) (h18 : s.size ≤ 18) (h0 : s[0]'(by omega) = 45) (c : UInt8) (hc : s[1]'hs = c) (hd : 48 ≤ c.toNat ∧ c.toNat ≤ 57) :
    Calls Tryd.prog 29 #[.string s] w fun e w' => e = .returned (.tuple #[.float .f64 0, .int .i64 0, .bool false]) ∧ w = w' := by
  have hne : ¬ s = ByteArray.empty := by
    rintro rfl
    exact absurd hs (by decide)
  have hsz : (s.extract 1 s.size).size = s.size - 1 := by simp
  have HN := Lib.hid (common_none (s.extract 1 s.size) w (by omega) c (by rw [ByteArray.getElem_extract]; exact hc) hd)
  clear hsz
  go_enter Tryd.func29, Tryd.ntmps29
  go_wp2_with (go_at_call 43; refine (HN.out).mono ?_; rintro e w' ⟨rfl, rfl⟩)
  go_ret3
  exact ⟨rfl, rfl⟩

set_option maxHeartbeats 1000000 in
theorem exact_any (m : Nat) (e : Int) (neg : Bool) (w : World) (h0 : m ≠ 0) (hm : m ≤ 4294967295) (he0 : -22 ≤ e) (he1 : e ≤ 22) (b : Addr) (cap : Nat)
    (hinfo : w.cell? ⟨7, 0, none⟩ = some (.int .u64 52)) (hp : w.cell? ⟨10, 0, none⟩ = some (.slice (some b) 23 cap)) (htab : ∀ i, i ≤ 22 → w.cell? (b.add i) = some (.float .f64 (Fl.ten i))) :
    Calls Tryd.prog 40 #[.int .u64 m, .int .i64 e, .bool neg] w fun e' w' => e' = .returned (.tuple #[.float .f64 (Fl.signed neg (Fl.told m e)), .bool true]) ∧ w = w' := by
  have hof := float_ofNat' m
  have hdiv : ((m : Int) / 4503599627370496 != 0) = false := by simp; omega
  have HTAB := Lib.hid htab
  obtain ⟨w1, w2⟩ := Fl.within h0 (by omega : m < 4294967296) neg
  have o1 : (FloatKind.f64.format.order (Fl.signed neg (Fl.ofNat m)) 4831355200913801216 == some .gt) = false := w1
  have o2 : (FloatKind.f64.format.order (Fl.signed neg (Fl.ofNat m)) 14054727237768577024 == some .lt) = false := w2
  have o3 : ¬ FloatKind.f64.format.order (Fl.signed neg (Fl.ofNat m)) 4831355200913801216 = some .gt := by
    intro h
    rw [h] at o1
    cases o1
  clear w1 w2 htab h0
  obtain ⟨R, hR⟩ : ∃ R, R = Fl.signed neg (Fl.told m e) := ⟨_, rfl⟩
  rw [← hR]
  have HR := Lib.hid hR
  clear hR
  by_cases hz : e = 0
  · subst hz
    cases neg
    · have hrr := HR.out
      rw [Fl.signed_false, Fl.told_same (by omega)] at hrr
      subst hrr
      clear HR
      rw [Fl.signed_false] at o1 o2 o3
      go_enter Tryd.func40, Tryd.ntmps40
      go_wp2_with fail
      go_ret2
      exact ⟨rfl, rfl⟩
    · have hrr := HR.out
      rw [Fl.signed_true, Fl.told_same (by omega)] at hrr
      subst hrr
      clear HR
      rw [Fl.signed_true] at o1 o2 o3
      go_enter Tryd.func40, Tryd.ntmps40
      go_wp2_with fail
      go_ret2
      exact ⟨rfl, rfl⟩
  · have ez : (e == 0) = false := by simp; omega
    by_cases hpos : 0 < e
    · obtain ⟨hq1, _, hq2⟩ := Fl.told_mul (m := m) (e := e) (by omega) (by omega) (by omega)
      rw [show e.natAbs = e.toNat by omega] at hq1 hq2
      have ht := HTAB.out e.toNat (by omega)
      clear hz
      cases neg
      · have hrr := HR.out
        rw [Fl.signed_false] at hrr
        subst hrr
        clear HR
        rw [Fl.signed_false] at o1 o2 o3
        have hq := fun W : World => run_float_arith (P := Tryd.prog) W .mul 25 .f64 (Fl.ofNat m) (Fl.ten e.toNat) (Fl.told m e) hq1
        clear hq1 hq2
        go_enter Tryd.func40, Tryd.ntmps40
        go_wp2_with fail
        go_ret2
        exact ⟨rfl, rfl⟩
      · have hrr := HR.out
        rw [Fl.signed_true] at hrr
        subst hrr
        clear HR
        rw [Fl.signed_true] at o1 o2 o3
        have hq := fun W : World => run_float_arith (P := Tryd.prog) W .mul 25 .f64 (Fl.flip (Fl.ofNat m)) (Fl.ten e.toNat) (Fl.flip (Fl.told m e)) hq2
        clear hq1 hq2
        go_enter Tryd.func40, Tryd.ntmps40
        go_wp2_with fail
        go_ret2
        exact ⟨rfl, rfl⟩
    · obtain ⟨hq1, _, hq2⟩ := Fl.told_div (m := m) (e := e) (by omega) (by omega) (by omega)
      rw [show e.natAbs = (-e).toNat by omega] at hq1 hq2
      have ht := HTAB.out (-e).toNat (by omega)
      have hneg : e < 0 := by omega
      clear hz
      cases neg
      · have hrr := HR.out
        rw [Fl.signed_false] at hrr
        subst hrr
        clear HR
        rw [Fl.signed_false] at o1 o2 o3
        have hq := fun W : World => run_float_arith (P := Tryd.prog) W .quo 25 .f64 (Fl.ofNat m) (Fl.ten (-e).toNat) (Fl.told m e) hq1
        clear hq1 hq2
        go_enter Tryd.func40, Tryd.ntmps40
        go_wp2_with fail
        go_ret2
        exact ⟨rfl, rfl⟩
      · have hrr := HR.out
        rw [Fl.signed_true] at hrr
        subst hrr
        clear HR
        rw [Fl.signed_true] at o1 o2 o3
        have hq := fun W : World => run_float_arith (P := Tryd.prog) W .quo 25 .f64 (Fl.flip (Fl.ofNat m)) (Fl.ten (-e).toNat) (Fl.flip (Fl.told m e)) hq2
        clear hq1 hq2
        go_enter Tryd.func40, Tryd.ntmps40
        go_wp2_with fail
        go_ret2
        exact ⟨rfl, rfl⟩

end Go.Proofs.YtalmpddmhakdmaaDoor
