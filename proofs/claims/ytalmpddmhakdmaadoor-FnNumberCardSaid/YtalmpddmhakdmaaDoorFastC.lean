/-
  The walk of the short reader over a text with an exponent. Conditions: as the bounds say.
-/
import Derived.Test.YtalmpddmhakdmaaDoorScope
namespace Go.Proofs.YtalmpddmhakdmaaDoor
open Go.RowKit
attribute [local go_sem] unary_neg_float' jump_normal jump_exit jump_ret jump_panic jump_goto

set_option maxRecDepth 100000 in
set_option maxHeartbeats 2000000 in
theorem fast_expo (g cap : Nat) (w : World) (neg : Bool) (t u : List UInt8) (ht : t = (if neg = true then [45] else []) ++ u) (hn : t.length ≤ 100) (_hcap : t.length ≤ cap)
    (hc : ∀ i c, t[i]? = some c → w.cell? ⟨g, i, none⟩ = some (.int .u8 (c.toNat : Int)))
    (hu : ∃ c r, u = c :: r ∧ Pl.isD c = true) (m d b : Nat) (ex : List UInt8) (hs : Pl.fscan u 0 0 0 false = some (m, d, b, ex)) (hm : m ≤ 100000000000) (hd : 0 < d)
    (r : Nat) (ok : Bool) (htab : ∀ i, i ≤ 22 → w.cell? ⟨1, i, none⟩ = some (.float .f64 (Fl.ten i)))
    (hx : ∃ (sg ds : List UInt8) (minus : Bool) (X : Nat) (E : Int), ex = 101 :: (sg ++ ds) ∧ ((sg = [] ∧ minus = false) ∨ (sg = [43] ∧ minus = false) ∨ (sg = [45] ∧ minus = true)) ∧ ds ≠ [] ∧ (∀ c ∈ ds, Pl.isD c = true) ∧
        Pl.valL 0 ds = X ∧ X ≤ 1000 ∧ E = (if minus = true then -(X : Int) else X) - b ∧ -22 ≤ E ∧ E ≤ 22 ∧ m ≤ 4294967295 ∧ ok = true ∧ r = Fl.signed neg (Fl.told m E)) :
    Calls Tryd.prog 11 #[.slice (some ⟨g, 0, none⟩) t.length cap] w fun e w' => e = .returned (.tuple #[.float .f64 r, .bool ok]) ∧ w = w' := by
  obtain ⟨i0, hi0⟩ : ∃ i0, (if neg = true then 1 else 0) = i0 := ⟨_, rfl⟩
  have hi0' : t.drop i0 = u := by
    subst hi0
    cases neg
    · simpa using ht
    · rw [ht]; rfl
  have hi1 : i0 ≤ 1 := by subst hi0; split <;> omega
  have hlen : i0 + u.length = t.length := by
    rw [ht, ← hi0]
    cases neg
    · simp
    · simp; omega
  have HX := Lib.hid hx
  have HTAB := Lib.hid htab
  clear hx htab
  have HT := Lib.hid ht
  have HC := Lib.hid hc
  have HI := Lib.hid hi0
  have HI' := Lib.hid hi0'
  have HS := Lib.hid hs
  clear ht hc hi0 hi0' hs
  obtain ⟨c0, r0, hu0, hc0⟩ := hu
  have HU := Lib.hid hu0
  have hc0' := Pl.isD_iff.1 hc0
  have HC0 := Lib.hid hc0
  clear hu0 hc0
  have hulen : 0 < u.length := by rw [HU.out]; simp
  go_enter Tryd.func11, Tryd.ntmps11
  go_wp2_with fail
  refine wp_scope_ahead 0 (by rfl) ?_
  go_hide hQj
  have HQ := Lib.hid hQj
  clear hQj
  go_upto_region 3 with (fail)
  go_cut [34] (fun x wx => x = .bool neg ∧ w = wx)
  case first =>
    cases neg
    · have h0 : w.cell? ⟨g, 0, none⟩ = some (.int .u8 (c0.toNat : Int)) := HC.out 0 c0 (by rw [HT.out, HU.out]; rfl)
      have e1 : ((c0.toNat : Int) == 43) = false := by simp; omega
      have e2 : ((c0.toNat : Int) == 45) = false := by simp; omega
      go_wp2_with fail
      go_meet
      case rel => exact ⟨rfl, rfl⟩
    · have h0 : w.cell? ⟨g, 0, none⟩ = some (.int .u8 45) := HC.out 0 45 (by rw [HT.out]; rfl)
      go_wp2_with fail
      go_meet
      case rel => exact ⟨rfl, rfl⟩
  case rest =>
    obtain ⟨rfl, rfl⟩ := hcut
    go_upto_if 34 with (fail)
    go_cut [4, 5, 34] (fun i ng _ wx => i = .int .i64 i0 ∧ ng = .bool neg ∧ w = wx)
    case first =>
      cases neg
      · have e0 : i0 = 0 := HI.out.symm
        subst e0
        go_wp2_with fail
        go_meet
        case rel => exact ⟨rfl, rfl, rfl⟩
      · have e0 : i0 = 1 := HI.out.symm
        subst e0
        have h0 : w.cell? ⟨g, 0, none⟩ = some (.int .u8 45) := HC.out 0 45 (by rw [HT.out]; rfl)
        go_wp2_with fail
        go_meet
        case rel => exact ⟨rfl, rfl, rfl⟩
    case rest =>
      obtain ⟨rfl, rfl, rfl⟩ := hcut
      go_wp2_with fail
      go_loop [4, 6, 7, 8, 9, 10] (fun i mm dd ff dot sd => ∃ (k M D F : Nat) (dt sb : Bool), k ≤ t.length ∧ D ≤ k ∧ F ≤ k ∧ Hid (Pl.fscan (t.drop k) M D F dt = some (m, d, b, ex)) ∧ Hid (sb = decide (0 < D)) ∧
          i = .int .i64 k ∧ mm = .int .u64 M ∧ dd = .int .i64 D ∧ ff = .int .i64 F ∧ dot = .bool dt ∧ sd = .bool sb) (fun i _ _ _ _ _ => t.length - (intOf i).toNat)
      case atStart => exact ⟨i0, 0, 0, 0, false, false, by omega, by omega, by omega, by rw [HI'.out]; exact HS, by simp [Hid], rfl, rfl, rfl, rfl, rfl, rfl⟩
      case round =>
        obtain ⟨k, M, D, F, dt, sb, hk, hDk, hFk, hsc, hsb, rfl, rfl, rfl, rfl, rfl, rfl⟩ := hrel
        obtain ⟨hM, hD, _, _⟩ := Pl.fscan_grows _ _ _ _ _ _ _ _ _ hsc.out
        cases hr : t.drop k with
        | nil =>
          have hsc' := hsc.out
          rw [hr, Pl.fscan_nil] at hsc'
          have hk' : t.length ≤ k := by
            have := congrArg List.length hr
            rw [List.length_drop] at this
            simp at this
            omega
          obtain rfl : k = t.length := by omega
          simp only [Option.some.injEq, Prod.mk.injEq] at hsc'
          obtain ⟨rfl, rfl, rfl, rfl⟩ := hsc'
          obtain ⟨sg, ds, minus, X, E, he, _⟩ := HX.out
          cases he
        | cons c rr =>
          obtain ⟨hlt, hget, hdrop⟩ := Pl.drop_cons hr
          have hcell := HC.out k c hget
          have HG := Lib.hid hget
          have HDR := Lib.hid hdrop
          have hsc' := hsc.out
          rw [hr] at hsc'
          clear hr hget hdrop hsc
          by_cases hcd : Pl.isD c = true
          · have hcb := Pl.isD_iff.1 hcd
            by_cases hD19 : D < 19
            · rw [Pl.fscan_digit hcd _ hD19] at hsc'
              have HSC := Lib.hid hsc'
              clear hsc' hcd
              cases dt
              · go_wp2_with fail
                go_round
                case rel => exact ⟨k + 1, M * 10 + (c.toNat - 48), D + 1, F, false, true, by omega, by omega, by omega, by rw [HDR.out]; exact HSC, by simp [Hid], by go_num, by go_num, by go_num, rfl, rfl, rfl⟩
                case measure => simp [intOf]; omega
              · go_wp2_with fail
                go_round
                case rel => exact ⟨k + 1, M * 10 + (c.toNat - 48), D + 1, F + 1, true, true, by omega, by omega, by omega, by rw [HDR.out]; exact HSC, by simp [Hid], by go_num, by go_num, by go_num, by go_num, rfl, rfl⟩
                case measure => simp [intOf]; omega
            · rw [Pl.fscan_full hcd _ (by omega)] at hsc'
              cases hsc'
          · by_cases hdot : c = 46
            · subst hdot
              rw [Pl.fscan_dot] at hsc'
              cases dt
              · have HSC := Lib.hid hsc'
                clear hsc' hcd
                have hcell' : w.cell? ⟨g, k, none⟩ = some (.int .u8 46) := hcell
                clear hcell
                go_wp2_with fail
                go_round
                case rel => exact ⟨k + 1, M, D, F, true, sb, by omega, by omega, by omega, by rw [HDR.out]; exact HSC, hsb, by go_num, rfl, rfl, rfl, rfl, rfl⟩
                case measure => simp [intOf]; omega
              · cases hsc'
            · have hcd' : Pl.isD c = false := by simpa using hcd
              rw [Pl.fscan_stop hcd' hdot] at hsc'
              simp only [Option.some.injEq, Prod.mk.injEq] at hsc'
              obtain ⟨rfl, rfl, rfl, he⟩ := hsc'
              have hsb' : sb = true := by rw [hsb.out]; simp [hd]
              subst hsb'
              clear hcd hcd' hdot
              obtain ⟨sg, ds, minus, X, E, hv, hsg, hne, hds, hX, hX1, hE, hE0, hE1, hm32, rfl, hr⟩ := HX.out
              rw [← he] at hv
              injection hv with hv1 hv2
              subst hv1
              have hcell' : w.cell? ⟨g, k, none⟩ = some (.int .u8 101) := hcell
              clear hcell he HX hsb
              have hrest : t.drop (k + 1) = sg ++ ds := by rw [HDR.out, hv2]
              clear hv2 HDR
              obtain ⟨d1, ds', hds1⟩ := List.exists_cons_of_ne_nil hne
              have hd1 : Pl.isD d1 = true := hds d1 (by rw [hds1]; simp)
              have hd1b := Pl.isD_iff.1 hd1
              obtain ⟨k1, hk1, hdk⟩ : ∃ k1, k1 = k + 1 + sg.length ∧ t.drop k1 = ds := ⟨_, rfl, by rw [← List.drop_drop, hrest]; simp⟩
              have hk1len : k1 < t.length := (Pl.drop_cons (hdk.trans hds1)).1
              have hk1g : t[k1]? = some d1 := (Pl.drop_cons (hdk.trans hds1)).2.1
              have hk1k : k < k1 := by omega
              have hsg1 : sg ≠ [] → ∃ x, sg = [x] ∧ t[k + 1]? = some x := by
                intro hne
                rcases hsg with ⟨rfl, _⟩ | ⟨rfl, _⟩ | ⟨rfl, _⟩
                · exact absurd rfl hne
                · exact ⟨_, rfl, (Pl.drop_cons (hrest.trans rfl)).2.1⟩
                · exact ⟨_, rfl, (Pl.drop_cons (hrest.trans rfl)).2.1⟩
              have HE := Lib.hid hE
              have HSG := Lib.hid hsg
              have HSG1 := Lib.hid hsg1
              have HK1 := Lib.hid hk1
              have HK1G := Lib.hid hk1g
              have HDK := Lib.hid hdk
              have HX' := Lib.hid hX
              have HR := Lib.hid hr
              have HDS := Lib.hid hds
              clear hd1 hdk hX hrest hr hds hds1 hE hne hsg hsg1 hk1 hk1g
              go_wp2_with fail
              go_step3
              go_wp2_with fail
              rw [← HQ.out, jump_goto]
              go_upto_region 32 with (fail)
              go_cut [117] (fun x wx => ∃ q : Bool, x = .bool q ∧ Hid (q = decide (sg ≠ [])) ∧ w = wx)
              case first =>
                rcases HSG.out with ⟨rfl, rfl⟩ | ⟨rfl, rfl⟩ | ⟨rfl, rfl⟩
                · have hkk : k1 = k + 1 := HK1.out
                  subst hkk
                  have hcs := HC.out _ _ HK1G.out
                  have e1 : ((d1.toNat : Int) == 43) = false := by simp; omega
                  have e2 : ((d1.toNat : Int) == 45) = false := by simp; omega
                  go_wp2_with fail
                  go_meet
                  case rel => exact ⟨false, rfl, by simp [Hid], rfl⟩
                · obtain ⟨x, hx, hg⟩ := HSG1.out (by simp)
                  injection hx with hx
                  subst hx
                  have hcs : w.cell? ⟨g, k + 1, none⟩ = some (.int .u8 43) := HC.out _ _ hg
                  clear hg
                  go_wp2_with fail
                  go_meet
                  case rel => exact ⟨true, rfl, by simp [Hid], rfl⟩
                · obtain ⟨x, hx, hg⟩ := HSG1.out (by simp)
                  injection hx with hx
                  subst hx
                  have hcs : w.cell? ⟨g, k + 1, none⟩ = some (.int .u8 45) := HC.out _ _ hg
                  clear hg
                  go_wp2_with fail
                  go_meet
                  case rel => exact ⟨true, rfl, by simp [Hid], rfl⟩
              case rest =>
                obtain ⟨q, rfl, hq, rfl⟩ := hcut
                go_upto_if 117 with (fail)
                go_cut [4, 13, 117] (fun i es _ wx => i = .int .i64 k1 ∧ es = .int .i64 (if minus = true then -1 else 1) ∧ w = wx)
                case first =>
                  rcases HSG.out with ⟨rfl, rfl⟩ | ⟨rfl, rfl⟩ | ⟨rfl, rfl⟩
                  · obtain rfl : q = false := hq.out
                    have hkk : k1 = k + 1 := HK1.out
                    subst hkk
                    go_wp2_with fail
                    go_meet
                    case rel => exact ⟨by go_num, rfl, rfl⟩
                  · obtain rfl : q = true := hq.out
                    have hkk : k1 = k + 2 := HK1.out
                    subst hkk
                    obtain ⟨x, hx, hg⟩ := HSG1.out (by simp)
                    injection hx with hx
                    subst hx
                    have hcs : w.cell? ⟨g, k + 1, none⟩ = some (.int .u8 43) := HC.out _ _ hg
                    clear hg
                    go_wp2_with fail
                    go_meet
                    case rel => exact ⟨by go_num, rfl, rfl⟩
                  · obtain rfl : q = true := hq.out
                    have hkk : k1 = k + 2 := HK1.out
                    subst hkk
                    obtain ⟨x, hx, hg⟩ := HSG1.out (by simp)
                    injection hx with hx
                    subst hx
                    have hcs : w.cell? ⟨g, k + 1, none⟩ = some (.int .u8 45) := HC.out _ _ hg
                    clear hg
                    go_wp2_with fail
                    go_meet
                    case rel => exact ⟨by go_num, rfl, rfl⟩
                case rest =>
                  obtain ⟨rfl, rfl, rfl⟩ := hcut
                  cases minus
                  · have hE2 : E = -(F : Int) + X := by have := HE.out; rw [if_neg (by decide)] at this; omega
                    have HE2 := Lib.hid hE2
                    clear hE2 HE
                    go_wp2_with fail
                    go_loop [4, 14] (fun i ev => ∃ (j V : Nat), j ≤ t.length ∧ i = .int .i64 j ∧ ev = .int .i64 V ∧ k1 ≤ j ∧ Hid (Pl.valL V (t.drop j) = X) ∧ Hid (∀ c ∈ t.drop j, Pl.isD c = true)) (fun i _ => t.length - (intOf i).toNat)
                    case atStart => exact ⟨k1, 0, by omega, rfl, rfl, by omega, by rw [HDK.out]; exact HX', by rw [HDK.out]; exact HDS⟩
                    case round =>
                      obtain ⟨j, V, hj, rfl, rfl, hkj, hval, hdig⟩ := hrel
                      have hVX : V ≤ X := by rw [← hval.out]; exact Pl.valL_le _ _
                      cases hr : t.drop j with
                      | nil =>
                        have hj' : t.length ≤ j := by
                          have := congrArg List.length hr
                          rw [List.length_drop] at this
                          simp at this
                          omega
                        obtain rfl : j = t.length := by omega
                        have hV : V = X := by have := hval.out; rw [hr] at this; exact this
                        subst hV
                        clear hr hj' hval hdig HDK HX' HDS
                        have hE2 := HE2.out
                        subst hE2
                        clear HE2
                        have hr := HR.out
                        clear HR
                        have hof := float_ofNat' M
                        have hts := Fl.told_same (m := M) (by omega)
                        by_cases hz : (-(F : Int) + V) = 0
                        · rw [hz, hts] at hr
                          have HR := Lib.hid hr
                          clear hr hts
                          go_wp2_with fail
                          all_goals (go_ret2; have hrr := HR.out; clear HR; first | (rw [show neg = true by assumption, Fl.signed_true] at hrr; subst hrr; exact ⟨rfl, rfl⟩) | (rw [show neg = false by assumption, Fl.signed_false] at hrr; subst hrr; exact ⟨rfl, rfl⟩))
                        · by_cases hp : 0 < (-(F : Int) + V)
                          · obtain ⟨hq1, _, _⟩ := Fl.told_mul (m := M) (e := (-(F : Int) + V)) (by omega) (by omega) (by omega)
                            have hq := fun W : World => run_float_arith (P := Tryd.prog) W .mul 25 .f64 (Fl.ofNat M) (Fl.ten ((-(F : Int) + V)).natAbs) (Fl.told M ((-(F : Int) + V))) hq1
                            rw [show ((-(F : Int) + V)).natAbs = ((-(F : Int) + V)).toNat by omega] at hq
                            have ht := HTAB.out ((-(F : Int) + V)).toNat (by omega)
                            have HR := Lib.hid hr
                            clear hr hq1 hts
                            go_wp2_with fail
                            all_goals (go_ret2; have hrr := HR.out; clear HR; first | (rw [show neg = true by assumption, Fl.signed_true] at hrr; subst hrr; exact ⟨rfl, rfl⟩) | (rw [show neg = false by assumption, Fl.signed_false] at hrr; subst hrr; exact ⟨rfl, rfl⟩))
                          · obtain ⟨hq1, _, _⟩ := Fl.told_div (m := M) (e := (-(F : Int) + V)) (by omega) (by omega) (by omega)
                            have hq := fun W : World => run_float_arith (P := Tryd.prog) W .quo 25 .f64 (Fl.ofNat M) (Fl.ten ((-(F : Int) + V)).natAbs) (Fl.told M ((-(F : Int) + V))) hq1
                            rw [show ((-(F : Int) + V)).natAbs = (-((-(F : Int) + V))).toNat by omega] at hq
                            have ht := HTAB.out (-((-(F : Int) + V))).toNat (by omega)
                            have HR := Lib.hid hr
                            clear hr hq1 hts
                            go_wp2_with fail
                            all_goals (go_ret2; have hrr := HR.out; clear HR; first | (rw [show neg = true by assumption, Fl.signed_true] at hrr; subst hrr; exact ⟨rfl, rfl⟩) | (rw [show neg = false by assumption, Fl.signed_false] at hrr; subst hrr; exact ⟨rfl, rfl⟩))
                      | cons c rr =>
                        obtain ⟨hlt, hget, hdrop⟩ := Pl.drop_cons hr
                        have hcl := HC.out j c hget
                        have hcb := Pl.isD_iff.1 (hdig.out c (by rw [hr]; simp))
                        have hval' : Hid (Pl.valL (V * 10 + (c.toNat - 48)) (t.drop (j + 1)) = X) := by
                          have := hval.out
                          rw [hr, Pl.valL_cons] at this
                          show _ = _
                          rw [hdrop]
                          exact this
                        have hdig' : Hid (∀ c ∈ t.drop (j + 1), Pl.isD c = true) := by
                          intro x hx
                          exact hdig.out x (by rw [hr]; rw [hdrop] at hx; simp [hx])
                        have hV2 : V * 10 + (c.toNat - 48) ≤ X := by rw [← hval'.out]; exact Pl.valL_le _ _
                        clear hr hget hdrop hval hdig
                        go_wp2_with fail
                        go_round
                        case rel => exact ⟨j + 1, V * 10 + (c.toNat - 48), by omega, by go_num, by go_num, by omega, hval', hdig'⟩
                        case measure => simp [intOf]; omega
                  · have hE2 : E = -(F : Int) + -(X : Int) := by have := HE.out; rw [if_pos rfl] at this; omega
                    have HE2 := Lib.hid hE2
                    clear hE2 HE
                    go_wp2_with fail
                    go_loop [4, 14] (fun i ev => ∃ (j V : Nat), j ≤ t.length ∧ i = .int .i64 j ∧ ev = .int .i64 V ∧ k1 ≤ j ∧ Hid (Pl.valL V (t.drop j) = X) ∧ Hid (∀ c ∈ t.drop j, Pl.isD c = true)) (fun i _ => t.length - (intOf i).toNat)
                    case atStart => exact ⟨k1, 0, by omega, rfl, rfl, by omega, by rw [HDK.out]; exact HX', by rw [HDK.out]; exact HDS⟩
                    case round =>
                      obtain ⟨j, V, hj, rfl, rfl, hkj, hval, hdig⟩ := hrel
                      have hVX : V ≤ X := by rw [← hval.out]; exact Pl.valL_le _ _
                      cases hr : t.drop j with
                      | nil =>
                        have hj' : t.length ≤ j := by
                          have := congrArg List.length hr
                          rw [List.length_drop] at this
                          simp at this
                          omega
                        obtain rfl : j = t.length := by omega
                        have hV : V = X := by have := hval.out; rw [hr] at this; exact this
                        subst hV
                        clear hr hj' hval hdig HDK HX' HDS
                        have hE2 := HE2.out
                        subst hE2
                        clear HE2
                        have hr := HR.out
                        clear HR
                        have hof := float_ofNat' M
                        have hts := Fl.told_same (m := M) (by omega)
                        by_cases hz : (-(F : Int) + -(V : Int)) = 0
                        · rw [hz, hts] at hr
                          have HR := Lib.hid hr
                          clear hr hts
                          go_wp2_with fail
                          all_goals (go_ret2; have hrr := HR.out; clear HR; first | (rw [show neg = true by assumption, Fl.signed_true] at hrr; subst hrr; exact ⟨rfl, rfl⟩) | (rw [show neg = false by assumption, Fl.signed_false] at hrr; subst hrr; exact ⟨rfl, rfl⟩))
                        · by_cases hp : 0 < (-(F : Int) + -(V : Int))
                          · obtain ⟨hq1, _, _⟩ := Fl.told_mul (m := M) (e := (-(F : Int) + -(V : Int))) (by omega) (by omega) (by omega)
                            have hq := fun W : World => run_float_arith (P := Tryd.prog) W .mul 25 .f64 (Fl.ofNat M) (Fl.ten ((-(F : Int) + -(V : Int))).natAbs) (Fl.told M ((-(F : Int) + -(V : Int)))) hq1
                            rw [show ((-(F : Int) + -(V : Int))).natAbs = ((-(F : Int) + -(V : Int))).toNat by omega] at hq
                            have ht := HTAB.out ((-(F : Int) + -(V : Int))).toNat (by omega)
                            have HR := Lib.hid hr
                            clear hr hq1 hts
                            go_wp2_with fail
                            all_goals (go_ret2; have hrr := HR.out; clear HR; first | (rw [show neg = true by assumption, Fl.signed_true] at hrr; subst hrr; exact ⟨rfl, rfl⟩) | (rw [show neg = false by assumption, Fl.signed_false] at hrr; subst hrr; exact ⟨rfl, rfl⟩))
                          · obtain ⟨hq1, _, _⟩ := Fl.told_div (m := M) (e := (-(F : Int) + -(V : Int))) (by omega) (by omega) (by omega)
                            have hq := fun W : World => run_float_arith (P := Tryd.prog) W .quo 25 .f64 (Fl.ofNat M) (Fl.ten ((-(F : Int) + -(V : Int))).natAbs) (Fl.told M ((-(F : Int) + -(V : Int)))) hq1
                            rw [show ((-(F : Int) + -(V : Int))).natAbs = (-((-(F : Int) + -(V : Int)))).toNat by omega] at hq
                            have ht := HTAB.out (-((-(F : Int) + -(V : Int)))).toNat (by omega)
                            have HR := Lib.hid hr
                            clear hr hq1 hts
                            go_wp2_with fail
                            all_goals (go_ret2; have hrr := HR.out; clear HR; first | (rw [show neg = true by assumption, Fl.signed_true] at hrr; subst hrr; exact ⟨rfl, rfl⟩) | (rw [show neg = false by assumption, Fl.signed_false] at hrr; subst hrr; exact ⟨rfl, rfl⟩))
                      | cons c rr =>
                        obtain ⟨hlt, hget, hdrop⟩ := Pl.drop_cons hr
                        have hcl := HC.out j c hget
                        have hcb := Pl.isD_iff.1 (hdig.out c (by rw [hr]; simp))
                        have hval' : Hid (Pl.valL (V * 10 + (c.toNat - 48)) (t.drop (j + 1)) = X) := by
                          have := hval.out
                          rw [hr, Pl.valL_cons] at this
                          show _ = _
                          rw [hdrop]
                          exact this
                        have hdig' : Hid (∀ c ∈ t.drop (j + 1), Pl.isD c = true) := by
                          intro x hx
                          exact hdig.out x (by rw [hr]; rw [hdrop] at hx; simp [hx])
                        have hV2 : V * 10 + (c.toNat - 48) ≤ X := by rw [← hval'.out]; exact Pl.valL_le _ _
                        clear hr hget hdrop hval hdig
                        go_wp2_with fail
                        go_round
                        case rel => exact ⟨j + 1, V * 10 + (c.toNat - 48), by omega, by go_num, by go_num, by omega, hval', hdig'⟩
                        case measure => simp [intOf]; omega
end Go.Proofs.YtalmpddmhakdmaaDoor
