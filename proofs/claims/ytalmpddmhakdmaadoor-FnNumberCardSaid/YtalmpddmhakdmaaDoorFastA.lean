/-
  The walk of the short reader over a text without an exponent. Conditions: the text is a sign or none and figures with a point, as the bounds say.
-/
import Derived.Test.YtalmpddmhakdmaaDoorScope
namespace Go.Proofs.YtalmpddmhakdmaaDoor
open Go.RowKit
attribute [local go_sem] unary_neg_float' jump_normal jump_exit jump_ret jump_panic jump_goto

set_option maxRecDepth 100000 in
set_option maxHeartbeats 2000000 in
theorem fast_nil (g cap : Nat) (w : World) (neg : Bool) (t u : List UInt8) (ht : t = (if neg = true then [45] else []) ++ u) (hn : t.length ≤ 100) (_hcap : t.length ≤ cap)
    (hc : ∀ i c, t[i]? = some c → w.cell? ⟨g, i, none⟩ = some (.int .u8 (c.toNat : Int)))
    (hu : ∃ c r, u = c :: r ∧ Pl.isD c = true) (m d b : Nat) (ex : List UInt8) (hs : Pl.fscan u 0 0 0 false = some (m, d, b, ex)) (hm : m ≤ 100000000000) (hd : 0 < d)
    (r : Nat) (ok : Bool) (htab : ∀ i, i ≤ 22 → w.cell? ⟨1, i, none⟩ = some (.float .f64 (Fl.ten i)))
    (hx : ex = [] ∧ b ≤ 22 ∧ m ≤ 4294967295 ∧ ok = true ∧ r = Fl.signed neg (Fl.told m (-(b : Int)))) :
    Calls Tryd.prog 11 #[.slice (some ⟨g, 0, none⟩) t.length cap] w fun e w' => e = .returned (.tuple #[.float .f64 r, .bool ok]) ∧ w = w' := by
  obtain ⟨i0, hi0⟩ : ∃ i0, (if neg = true then 1 else 0) = i0 := ⟨_, rfl⟩
  have hi0' : t.drop i0 = u := by
    subst hi0
    cases neg
    · simpa using ht
    · rw [ht]; rfl
  have hi1 : i0 ≤ 1 := by subst hi0; split <;> omega
  have hlen : i0 + u.length = t.length := by
    rw [ht, ← hi0]
    cases neg
    · simp
    · simp; omega
  have HX := Lib.hid hx
  have HTAB := Lib.hid htab
  clear hx htab
  have HT := Lib.hid ht
  have HC := Lib.hid hc
  have HI := Lib.hid hi0
  have HI' := Lib.hid hi0'
  have HS := Lib.hid hs
  clear ht hc hi0 hi0' hs
  obtain ⟨c0, r0, hu0, hc0⟩ := hu
  have HU := Lib.hid hu0
  have hc0' := Pl.isD_iff.1 hc0
  have HC0 := Lib.hid hc0
  clear hu0 hc0
  have hulen : 0 < u.length := by rw [HU.out]; simp
  go_enter Tryd.func11, Tryd.ntmps11
  go_wp2_with fail
  refine wp_scope_ahead 0 (by rfl) ?_
  go_hide hQj
  have HQ := Lib.hid hQj
  clear hQj
  go_upto_region 3 with (fail)
  go_cut [34] (fun x wx => x = .bool neg ∧ w = wx)
  case first =>
    cases neg
    · have h0 : w.cell? ⟨g, 0, none⟩ = some (.int .u8 (c0.toNat : Int)) := HC.out 0 c0 (by rw [HT.out, HU.out]; rfl)
      have e1 : ((c0.toNat : Int) == 43) = false := by simp; omega
      have e2 : ((c0.toNat : Int) == 45) = false := by simp; omega
      go_wp2_with fail
      go_meet
      case rel => exact ⟨rfl, rfl⟩
    · have h0 : w.cell? ⟨g, 0, none⟩ = some (.int .u8 45) := HC.out 0 45 (by rw [HT.out]; rfl)
      go_wp2_with fail
      go_meet
      case rel => exact ⟨rfl, rfl⟩
  case rest =>
    obtain ⟨rfl, rfl⟩ := hcut
    go_upto_if 34 with (fail)
    go_cut [4, 5, 34] (fun i ng _ wx => i = .int .i64 i0 ∧ ng = .bool neg ∧ w = wx)
    case first =>
      cases neg
      · have e0 : i0 = 0 := HI.out.symm
        subst e0
        go_wp2_with fail
        go_meet
        case rel => exact ⟨rfl, rfl, rfl⟩
      · have e0 : i0 = 1 := HI.out.symm
        subst e0
        have h0 : w.cell? ⟨g, 0, none⟩ = some (.int .u8 45) := HC.out 0 45 (by rw [HT.out]; rfl)
        go_wp2_with fail
        go_meet
        case rel => exact ⟨rfl, rfl, rfl⟩
    case rest =>
      obtain ⟨rfl, rfl, rfl⟩ := hcut
      go_wp2_with fail
      go_loop [4, 6, 7, 8, 9, 10] (fun i mm dd ff dot sd => ∃ (k M D F : Nat) (dt sb : Bool), k ≤ t.length ∧ D ≤ k ∧ F ≤ k ∧ Hid (Pl.fscan (t.drop k) M D F dt = some (m, d, b, ex)) ∧ Hid (sb = decide (0 < D)) ∧
          i = .int .i64 k ∧ mm = .int .u64 M ∧ dd = .int .i64 D ∧ ff = .int .i64 F ∧ dot = .bool dt ∧ sd = .bool sb) (fun i _ _ _ _ _ => t.length - (intOf i).toNat)
      case atStart => exact ⟨i0, 0, 0, 0, false, false, by omega, by omega, by omega, by rw [HI'.out]; exact HS, by simp [Hid], rfl, rfl, rfl, rfl, rfl, rfl⟩
      case round =>
        obtain ⟨k, M, D, F, dt, sb, hk, hDk, hFk, hsc, hsb, rfl, rfl, rfl, rfl, rfl, rfl⟩ := hrel
        obtain ⟨hM, hD, _, _⟩ := Pl.fscan_grows _ _ _ _ _ _ _ _ _ hsc.out
        cases hr : t.drop k with
        | nil =>
          have hsc' := hsc.out
          rw [hr, Pl.fscan_nil] at hsc'
          have hk' : t.length ≤ k := by
            have := congrArg List.length hr
            rw [List.length_drop] at this
            simp at this
            omega
          obtain rfl : k = t.length := by omega
          simp only [Option.some.injEq, Prod.mk.injEq] at hsc'
          obtain ⟨rfl, rfl, rfl, rfl⟩ := hsc'
          clear hr hk'
          have hsb' : sb = true := by rw [hsb.out]; simp [hd]
          subst hsb'
          obtain ⟨_, hb22, hm32, rfl, hr⟩ := HX.out
          clear HX hsc hsb
          have hof := float_ofNat' M
          have hts := Fl.told_same (m := M) (by omega)
          by_cases hz : (-(F : Int)) = 0
          · rw [hz, hts] at hr
            have HR := Lib.hid hr
            clear hr hts
            go_wp2_with fail; go_step3; go_wp2_with fail
            all_goals (rw [← HQ.out, jump_ret]; go_ret2; have hrr := HR.out; clear HR; first | (rw [show neg = true by assumption, Fl.signed_true] at hrr; subst hrr; exact ⟨rfl, rfl⟩) | (rw [show neg = false by assumption, Fl.signed_false] at hrr; subst hrr; exact ⟨rfl, rfl⟩))
          · obtain ⟨hq1, _, _⟩ := Fl.told_div (m := M) (e := (-(F : Int))) (by omega) (by omega) (by omega)
            have hq := fun W : World => run_float_arith (P := Tryd.prog) W .quo 25 .f64 (Fl.ofNat M) (Fl.ten ((-(F : Int))).natAbs) (Fl.told M ((-(F : Int)))) hq1
            rw [show ((-(F : Int))).natAbs = F by omega] at hq
            have ht := HTAB.out F (by omega)
            have HR := Lib.hid hr
            clear hr hq1 hts
            go_wp2_with fail; go_step3; go_wp2_with fail
            all_goals (rw [← HQ.out, jump_ret]; go_ret2; have hrr := HR.out; clear HR; first | (rw [show neg = true by assumption, Fl.signed_true] at hrr; subst hrr; exact ⟨rfl, rfl⟩) | (rw [show neg = false by assumption, Fl.signed_false] at hrr; subst hrr; exact ⟨rfl, rfl⟩))
        | cons c rr =>
          obtain ⟨hlt, hget, hdrop⟩ := Pl.drop_cons hr
          have hcell := HC.out k c hget
          have HG := Lib.hid hget
          have HDR := Lib.hid hdrop
          have hsc' := hsc.out
          rw [hr] at hsc'
          clear hr hget hdrop hsc
          by_cases hcd : Pl.isD c = true
          · have hcb := Pl.isD_iff.1 hcd
            by_cases hD19 : D < 19
            · rw [Pl.fscan_digit hcd _ hD19] at hsc'
              have HSC := Lib.hid hsc'
              clear hsc' hcd
              cases dt
              · go_wp2_with fail
                go_round
                case rel => exact ⟨k + 1, M * 10 + (c.toNat - 48), D + 1, F, false, true, by omega, by omega, by omega, by rw [HDR.out]; exact HSC, by simp [Hid], by go_num, by go_num, by go_num, rfl, rfl, rfl⟩
                case measure => simp [intOf]; omega
              · go_wp2_with fail
                go_round
                case rel => exact ⟨k + 1, M * 10 + (c.toNat - 48), D + 1, F + 1, true, true, by omega, by omega, by omega, by rw [HDR.out]; exact HSC, by simp [Hid], by go_num, by go_num, by go_num, by go_num, rfl, rfl⟩
                case measure => simp [intOf]; omega
            · rw [Pl.fscan_full hcd _ (by omega)] at hsc'
              cases hsc'
          · by_cases hdot : c = 46
            · subst hdot
              rw [Pl.fscan_dot] at hsc'
              cases dt
              · have HSC := Lib.hid hsc'
                clear hsc' hcd
                have hcell' : w.cell? ⟨g, k, none⟩ = some (.int .u8 46) := hcell
                clear hcell
                go_wp2_with fail
                go_round
                case rel => exact ⟨k + 1, M, D, F, true, sb, by omega, by omega, by omega, by rw [HDR.out]; exact HSC, hsb, by go_num, rfl, rfl, rfl, rfl, rfl⟩
                case measure => simp [intOf]; omega
              · cases hsc'
            · have hcd' : Pl.isD c = false := by simpa using hcd
              rw [Pl.fscan_stop hcd' hdot] at hsc'
              simp only [Option.some.injEq, Prod.mk.injEq] at hsc'
              obtain ⟨rfl, rfl, rfl, he⟩ := hsc'
              have := HX.out.1
              rw [← he] at this
              cases this
end Go.Proofs.YtalmpddmhakdmaaDoor
