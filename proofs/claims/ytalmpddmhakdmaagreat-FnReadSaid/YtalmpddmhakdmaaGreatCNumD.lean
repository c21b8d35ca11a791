/-
  The walk of a function of the spec's parser: a number, a date or a time; its ways that read figures of ten. Conditions: the parser lies in memory as stated.
-/
import Derived.Test.YtalmpddmhakdmaaGreatCNumC
namespace Go.Proofs.YtalmpddmhakdmaaGreat
open Go.RowKit

set_option maxRecDepth 100000 in
set_option maxHeartbeats 4000000 in
theorem number_dec {w : World} {pb : Nat} {a : Addr} {C : Nat} {B : List UInt8} {k : Nat} {st : Int} (hS : SP w pb a C B k st) (hk : k ≤ B.length) (hB : B ≠ []) (hd : ¬ dayB B k) (hh : ¬ hourB B k) (hnr : ∀ d, radB d ≠ 0 → (pk B k == 48 && pk B (k + 1) == d) = false) (hnw : ∀ s, SgR B k s → ¬ (pk B (k + s) == 105 && pk B (k + s + 1) == 110 && pk B (k + s + 2) == 102) = true ∧ ¬ (pk B (k + s) == 110 && pk B (k + s + 1) == 97 && pk B (k + s + 2) == 110) = true) :
    Calls Tryz.prog 32 #[.pointer (some ⟨pb, 0, none⟩)] w (VPost pb a C B k st w (NumR B k)) := by
  have HB := hB
  have HNR := Lib.hid hnr
  have HNW := Lib.hid hnw
  clear hnr hnw
  have HD := Lib.hid hd
  have HH := Lib.hid hh
  clear hd hh
  have hin := hS.in_heap
  have hi0 : NI pb a C B k st w (w.alloc Z38) := ⟨hS.alloc _, Gr.refl _ _⟩
  have HI0 := Lib.hid hi0
  have hl := hS.len
  clear hS hi0
  go_enter Tryz.func32, Tryz.ntmps32
  go_upto_region 1 with fail
  go_cut [21] from 14 to 21 (fun b wx => b = .bool false ∧ NI pb a C B k st w wx)
  case first =>
    go_wp2_with fail
    refine (two_any (HI0.out.drewN 0).1 0 k 4 (by omega) (by omega) (by decide)).mono ?_
    rintro e w' ⟨y, rfl, ly, uy, iy, m1, rfl⟩
    have IY := Lib.hid iy
    clear iy
    by_cases hy : y < 0
    · go_wp2_with fail
      go_meet
      exact ⟨rfl, (HI0.out.drewN _)⟩
    · have hy0 : 0 ≤ y := by omega
      have tp := byte_ne (c := pk B (k + 4)) (d := 45) (n := 45) (fun h => HD.out ⟨IY.out.1 hy0, h⟩) rfl
      obtain ⟨c4, hc4⟩ : ∃ c, pk B (k + 4) = c := ⟨_, rfl⟩
      have HP4 := Lib.hid (fun (W : World) (hW : SP W pb a C B k st) => peek_any hW 4 (k + 4) (by omega) (by omega))
      rw [hc4] at HP4 tp
      clear hc4 hy
      go_wp2_with fail
      refine (HP4.out _ (HI0.out.drewN _).1).mono ?_
      rintro e w' ⟨rfl, m2, rfl⟩
      go_wp2_with fail
      go_meet
      exact ⟨rfl, (HI0.out.drewN _)⟩
  case rest =>
    as_aux_lemma =>
      obtain ⟨rfl, hI⟩ := hcut
      have HI1 := Lib.hid hI
      clear hI
      obtain ⟨wd, rfl⟩ : ∃ wd : World, wd = wc := ⟨_, rfl⟩
      go_upto_region 3 with fail
      clear HI0
      go_cut [31] from 24 to 31 (fun b wx => b = .bool false ∧ NI pb a C B k st w wx)
      case first =>
        go_wp2_with fail
        refine (two_any (HI1.out.drewN 0).1 0 k 2 (by omega) (by omega) (by decide)).mono ?_
        rintro e w' ⟨y, rfl, ly, uy, iy, m1, rfl⟩
        have IY := Lib.hid iy
        clear iy
        by_cases hy : y < 0
        · go_wp2_with fail
          go_meet
          exact ⟨rfl, (HI1.out.drewN _)⟩
        · have hy0 : 0 ≤ y := by omega
          have tp := byte_ne (c := pk B (k + 2)) (d := 58) (n := 58) (fun h => HH.out ⟨IY.out.1 hy0, h⟩) rfl
          obtain ⟨c4, hc4⟩ : ∃ c, pk B (k + 2) = c := ⟨_, rfl⟩
          have HP4 := Lib.hid (fun (W : World) (hW : SP W pb a C B k st) => peek_any hW 2 (k + 2) (by omega) (by omega))
          rw [hc4] at HP4 tp
          clear hc4 hy
          go_wp2_with fail
          refine (HP4.out _ (HI1.out.drewN _).1).mono ?_
          rintro e w' ⟨rfl, m2, rfl⟩
          go_wp2_with fail
          go_meet
          exact ⟨rfl, (HI1.out.drewN _)⟩
      case rest =>
        as_aux_lemma =>
          obtain ⟨rfl, hI⟩ := hcut
          have HI2 := Lib.hid hI
          clear hI HI1
          obtain ⟨we, rfl⟩ : ∃ we : World, we = wc := ⟨_, rfl⟩
          go_wp2_with fail
          refine wp_loop_rounds 4 ?_
          rw [rounds_succ]
          go_wp2_with fail
          refine (hasr (HI2.out.1.alloc _) 120 (by decide) false (HNR.out _ (by decide))).mono ?_
          rintro e w' ⟨rfl, m1, rfl⟩
          go_wp2_with fail
          rw [rounds_succ]
          go_wp2_with fail
          refine (hasr ((HI2.out.1.alloc _).drewN _) 111 (by decide) false (HNR.out _ (by decide))).mono ?_
          rintro e w' ⟨rfl, m2, rfl⟩
          go_wp2_with fail
          rw [rounds_succ]
          go_wp2_with fail
          refine (hasr ((HI2.out.1.alloc _).drewN _) 98 (by decide) false (HNR.out _ (by decide))).mono ?_
          rintro e w' ⟨rfl, m3, rfl⟩
          go_wp2_with fail
          rw [rounds_succ]
          go_upto_region 23 with fail
          have HI3 := Lib.hid (fun (o : Obj) (q : Nat) => (HI2.out.alloc o).drewN q)
          go_cut [85] from 78 to 85 (fun b wx => ∃ t : Bool, b = .bool t ∧ SgT B k t ∧ NI pb a C B k st w wx)
          case first =>
            obtain ⟨c0, hc0⟩ : ∃ c, pk B k = c := ⟨_, rfl⟩
            have HP0 := Lib.hid (fun (W : World) (hW : SP W pb a C B k st) => peek_any hW 0 k (by omega) (by omega))
            rw [hc0] at HP0
            by_cases h43 : c0 = 43
            · have t43 := byte_eq h43 (n := 43) rfl
              have HT := Lib.hid (hc0.trans h43)
              clear h43 hc0
              go_wp2_with fail
              with_reducible refine (HP0.out _ (HI3.out _ _).1).mono ?_
              rintro e w' ⟨rfl, q1, rfl⟩
              go_wp2_with fail
              go_meet
              exact ⟨true, rfl, ⟨fun _ => .inl HT.out, (fun h => by cases h)⟩, HI3.out _ _⟩
            · have t43 := byte_ne h43 (n := 43) rfl
              by_cases h45 : c0 = 45
              · have t45 := byte_eq h45 (n := 45) rfl
                have HT := Lib.hid (hc0.trans h45)
                clear h43 h45 hc0
                go_wp2_with fail
                with_reducible refine (HP0.out _ (HI3.out _ _).1).mono ?_
                rintro e w' ⟨rfl, q1, rfl⟩
                go_wp2_with fail
                with_reducible refine (HP0.out _ (HI3.out _ _).1).mono ?_
                rintro e w' ⟨rfl, q2, rfl⟩
                go_wp2_with fail
                go_meet
                exact ⟨true, rfl, ⟨fun _ => .inr HT.out, (fun h => by cases h)⟩, HI3.out _ _⟩
              · have t45 := byte_ne h45 (n := 45) rfl
                have HT := Lib.hid (show ¬ (pk B k = 43 ∨ pk B k = 45) by rw [hc0]; rintro (h | h); exact h43 h; exact h45 h)
                clear h43 h45 hc0
                go_wp2_with fail
                with_reducible refine (HP0.out _ (HI3.out _ _).1).mono ?_
                rintro e w' ⟨rfl, q1, rfl⟩
                go_wp2_with fail
                with_reducible refine (HP0.out _ (HI3.out _ _).1).mono ?_
                rintro e w' ⟨rfl, q2, rfl⟩
                go_wp2_with fail
                go_meet
                exact ⟨false, rfl, ⟨(fun h => by cases h), fun _ => HT.out⟩, HI3.out _ _⟩
          case rest =>
            as_aux_lemma =>
              obtain ⟨t, rfl, ht, hI⟩ := hcut
              have HI4 := Lib.hid hI
              have HT := Lib.hid ht
              clear hI ht HI2 HI3
              obtain ⟨wp, rfl⟩ : ∃ wp : World, wp = wc := ⟨_, rfl⟩
              go_upto_if 85 with fail
              go_cut [8] from 8 to 8 (fun v wx => ∃ s : Nat, v = .int .i64 s ∧ SgR B k s ∧ NI pb a C B k st w wx)
              case first =>
                cases t with
                | true =>
                  go_wp2_with fail
                  go_meet
                  exact ⟨1, rfl, .inl ⟨rfl, HT.out.1 rfl⟩, HI4.out⟩
                | false =>
                  go_wp2_with fail
                  go_meet
                  exact ⟨0, rfl, .inr ⟨rfl, fun h => HT.out.2 rfl (.inl h), fun h => HT.out.2 rfl (.inr h)⟩, HI4.out⟩
              case rest =>
                as_aux_lemma =>
                  obtain ⟨s, rfl, hsg, hI⟩ := hcut
                  have HI5 := Lib.hid hI
                  have HSG := Lib.hid hsg
                  have hks := sg_le hsg hk
                  clear hI hsg HI4 HT
                  obtain ⟨wf, rfl⟩ : ∃ wf : World, wf = wc := ⟨_, rfl⟩
                  go_wp2_with fail
                  refine wp_loop_rounds 3 ?_
                  rw [rounds_succ]
                  go_upto_region 28 with fail
                  by_cases hinf : (pk B (k + s) == 105 && pk B (k + s + 1) == 110 && pk B (k + s + 2) == 102) = true
                  · have hi3 : k + s + 2 < B.length := pk_in (by simp only [Bool.and_eq_true, beq_iff_eq] at hinf; rw [hinf.2]; decide)
                    have HINF := Lib.hid hinf
                    clear hinf
                    exact absurd HINF.out (HNW.out s HSG.out).1
                  · have hinf2 : (pk B (k + s) == 105 && pk B (k + s + 1) == 110 && pk B (k + s + 2) == 102) = false := by simpa using hinf
                    have HINF := Lib.hid hinf2
                    clear hinf hinf2
                    have hfit : decide ((k : Int) + (s : Int) ≤ (B.length : Int)) = true := by simp; omega
                    have hfit2 : decide (k + s ≤ B.length) = true := by simp; omega
                    have hw1 : IntKind.i64.wrap ((k : Int) + (s : Int)) = (k : Int) + (s : Int) := IntWalk.i64_in _ (by omega)
                    go_cut [119] from 92 to 119 (fun b wx => b = .bool false ∧ NI pb a C B k st w wx ∧ Gr (wf.alloc ZW) wx pb)
                    case first =>
                      have h1 := (HI5.out.alloc ZW).1.b
                      have h2 := (HI5.out.alloc ZW).1.at'
                      have hlt := (HI5.out.alloc ZW).1.in_heap
                      have hx : SP (((wf.alloc ZW).alloc (.cells #[.slice (some a) B.length C, .int .i64 ((k : Int) + (s : Int)), .int .i64 0] 33)).drew) (wf.heap.size + 1) a C B (k + s) 0 := ((HI5.out.alloc ZW).1.boxed HB (k + s) (by omega) (wf.heap.size + 1) (by simp) 33).drewN 1
                      have HCALL := Lib.hid (hasw hx 105 110 102 (by decide) false (HINF.out))
                      clear hx
                      go_region_held3 (fun w' => w'.cell? ⟨pb, 0, none⟩ = some (.slice (some a) B.length C) ∧ w'.cell? ⟨pb, 1, none⟩ = some (.int .i64 k)) (go_keep) (first | (go_at_call 10; refine (HCALL.out).mono ?_; rintro e w' ⟨rfl, q, rfl⟩))
                      all_goals
                        go_wp2_with fail
                        go_meet
                        exact ⟨rfl, ((HI5.out.alloc ZW).alloc _).drewN _, ((Gr.refl (wf.alloc ZW) pb).alloc _).drewN _⟩
                    case rest =>
                      as_aux_lemma =>
                        obtain ⟨rfl, hI, hG⟩ := hcut
                        have HI6 := Lib.hid (And.intro hI hG)
                        clear hI hG hfit hfit2 hw1
                        have hp4 := HI5.out.1.in_heap
                        have hnan := word_cell HI6.out.2 hp4.1
                        obtain ⟨wg, rfl⟩ : ∃ wg : World, wg = wc := ⟨_, rfl⟩
                        go_wp2_with fail
                        rw [rounds_succ]
                        go_upto_region 28 with fail
                        clear hnan
                        by_cases hnan : (pk B (k + s) == 110 && pk B (k + s + 1) == 97 && pk B (k + s + 2) == 110) = true
                        · have hi3 : k + s + 2 < B.length := pk_in (by simp only [Bool.and_eq_true, beq_iff_eq] at hnan; rw [hnan.2]; decide)
                          have HNAN := Lib.hid hnan
                          clear hnan
                          exact absurd HNAN.out (HNW.out s HSG.out).2
                        · have hnan2 : (pk B (k + s) == 110 && pk B (k + s + 1) == 97 && pk B (k + s + 2) == 110) = false := by simpa using hnan
                          have HNAN := Lib.hid hnan2
                          clear hnan hnan2
                          have hfit : decide ((k : Int) + (s : Int) ≤ (B.length : Int)) = true := by simp; omega
                          have hfit2 : decide (k + s ≤ B.length) = true := by simp; omega
                          have hw1 : IntKind.i64.wrap ((k : Int) + (s : Int)) = (k : Int) + (s : Int) := IntWalk.i64_in _ (by omega)
                          go_cut [119] from 92 to 119 (fun b wx => b = .bool false ∧ NI pb a C B k st w wx ∧ Gr (wf.alloc ZW) wx pb)
                          case first =>
                            have h1 := (HI6.out.1).1.b
                            have h2 := (HI6.out.1).1.at'
                            have hlt := (HI6.out.1).1.in_heap
                            have hx : SP (((wg).alloc (.cells #[.slice (some a) B.length C, .int .i64 ((k : Int) + (s : Int)), .int .i64 0] 33)).drew) (wg.heap.size) a C B (k + s) 0 := ((HI6.out.1).1.boxed HB (k + s) (by omega) (wg.heap.size) (by simp) 33).drewN 1
                            have HCALL := Lib.hid (hasw hx 110 97 110 (by decide) false (HNAN.out))
                            clear hx
                            go_region_held3 (fun w' => w'.cell? ⟨pb, 0, none⟩ = some (.slice (some a) B.length C) ∧ w'.cell? ⟨pb, 1, none⟩ = some (.int .i64 k)) (go_keep) (first | (go_at_call 10; refine (HCALL.out).mono ?_; rintro e w' ⟨rfl, q, rfl⟩))
                            all_goals
                              go_wp2_with fail
                              go_meet
                              exact ⟨rfl, ((HI6.out.1).alloc _).drewN _, ((HI6.out.2).alloc _).drewN _⟩
                          case rest =>
                            as_aux_lemma =>
                              obtain ⟨rfl, hI, hG⟩ := hcut
                              have HI7 := Lib.hid (And.intro hI hG)
                              clear hI hG hfit hfit2 hw1
                              obtain ⟨wh, rfl⟩ : ∃ wh : World, wh = wc := ⟨_, rfl⟩
                              go_wp2_with fail
                              rw [rounds_succ]
                              go_wp2_with fail
                              with_reducible refine (grouped_ten HI7.out.1.1 (s : Int) (k + s) (by omega) (by omega) (by omega)).mono ?_
                              rintro e w' ⟨g, rfl, hg7, hgr, m9, rfl⟩
                              have HGR := Lib.hid hgr
                              clear hgr
                              obtain ⟨c0, hc0⟩ : ∃ c, pk B (k + s) = c := ⟨_, rfl⟩
                              have HP0 := Lib.hid (fun (W : World) (hW : SP W pb a C B k st) => peek_any hW (s : Int) (k + s) (by omega) (by omega))
                              rw [hc0] at HP0
                              have HC0 := Lib.hid hc0
                              clear hc0
                              by_cases hg0 : g = 0
                              · have tg : ((g : Int) == 0) = true := by simp [hg0]
                                clear hg0
                                go_wp2_with fail
                                refine (fail_any ((HI7.out.1).drewN _).1).mono ?_
                                rintro e w3 ⟨rfl, hS3, hG3⟩
                                have HS3 := Lib.hid hS3
                                have hg := (((HI7.out.1).drewN _).2.trans hG3)
                                have HG3 := Lib.hid hg.fromAlloc
                                obtain ⟨⟨c0, hc0⟩, ⟨c1, hc1⟩, ⟨c2, hc2⟩, ⟨c3, hc3⟩, hcf⟩ := Res.of _ _ _ _ _ hg hin.1
                                clear hS3 hG3 hg
                                go_wp2_with fail
                                exact bodyPost_ret (v := ndv 0 []) (by simp [results, Tryz.results32, go_sem, ndv, hc0, hc1, hc2, hc3]) rfl (VPost.mk 0 [] rfl ((SPost.bad HS3.out HG3.out hk (bad_fail st)).res hin _ _ _ _))
                              · have tg : ((g : Int) == 0) = false := by simp; omega
                                have hgin := grp_in (HGR.out hg0)
                                have HG0 := Lib.hid hg0
                                clear hg0
                                go_upto_region 32 with fail
                                by_cases hbad : c0 = 48 ∧ 1 < g
                                · have t48 := byte_eq hbad.1 (n := 48) rfl
                                  have hg1 := hbad.2
                                  clear hbad
                                  go_wp2_with fail
                                  with_reducible refine (HP0.out _ (HI7.out.1.drewN _).1).mono ?_
                                  rintro e w' ⟨rfl, q1, rfl⟩
                                  go_wp2_with fail
                                  refine (fail_any ((HI7.out.1).drewN _).1).mono ?_
                                  rintro e w3 ⟨rfl, hS3, hG3⟩
                                  have HS3 := Lib.hid hS3
                                  have hg := (((HI7.out.1).drewN _).2.trans hG3)
                                  have HG3 := Lib.hid hg.fromAlloc
                                  obtain ⟨⟨c0, hc0⟩, ⟨c1, hc1⟩, ⟨c2, hc2⟩, ⟨c3, hc3⟩, hcf⟩ := Res.of _ _ _ _ _ hg hin.1
                                  clear hS3 hG3 hg
                                  go_wp2_with fail
                                  exact bodyPost_ret (v := ndv 0 []) (by simp [results, Tryz.results32, go_sem, ndv, hc0, hc1, hc2, hc3]) rfl (VPost.mk 0 [] rfl ((SPost.bad HS3.out HG3.out hk (bad_fail st)).res hin _ _ _ _))
                                · have h48 : c0 = 48 → g = 1 := by
                                    intro h
                                    have := HG0.out
                                    rcases Nat.lt_or_ge 1 g with h1 | h1
                                    · exact absurd ⟨h, h1⟩ hbad
                                    · omega
                                  have H48 := Lib.hid h48
                                  go_cut [139] from 128 to 139 (fun b wx => b = .bool false ∧ NI pb a C B k st w wx)
                                  case first =>
                                    by_cases hc : c0 = 48
                                    · have t48 := byte_eq hc (n := 48) rfl
                                      have hg1 : ¬ 1 < g := fun h => hbad ⟨hc, h⟩
                                      have hg2 : decide ((1 : Int) < (g : Int)) = false := by simp; omega
                                      have hg3 : decide (1 < g) = false := by simp; omega
                                      clear hbad hc h48
                                      go_wp2_with fail
                                      with_reducible refine (HP0.out _ (HI7.out.1.drewN _).1).mono ?_
                                      rintro e w' ⟨rfl, q1, rfl⟩
                                      go_wp2_with fail
                                      go_meet
                                      exact ⟨rfl, HI7.out.1.drewN _⟩
                                    · have t48 := byte_ne hc (n := 48) rfl
                                      clear hbad hc h48
                                      go_wp2_with fail
                                      with_reducible refine (HP0.out _ (HI7.out.1.drewN _).1).mono ?_
                                      rintro e w' ⟨rfl, q1, rfl⟩
                                      go_wp2_with fail
                                      go_meet
                                      exact ⟨rfl, HI7.out.1.drewN _⟩
                                  case rest =>
                                    as_aux_lemma =>
                                      clear hbad h48
                                      obtain ⟨rfl, hI⟩ := hcut
                                      have HI8 := Lib.hid hI
                                      clear hI HI5 HI6 HI7
                                      obtain ⟨wj, rfl⟩ : ∃ wj : World, wj = wc := ⟨_, rfl⟩
                                      obtain ⟨e1, he1⟩ : ∃ e1, k + s + g = e1 := ⟨_, rfl⟩
                                      have hgrp : GrpR B 10 (k + s) e1 := he1 ▸ HGR.out HG0.out
                                      have h48 : pk B (k + s) = 48 → e1 = k + s + 1 := fun h => by
                                        rw [HC0.out] at h
                                        have := H48.out h
                                        omega
                                      have HGRP := Lib.hid hgrp
                                      have H48' := Lib.hid h48
                                      obtain ⟨c1, hc1⟩ : ∃ c, pk B e1 = c := ⟨_, rfl⟩
                                      have HP1 := Lib.hid (fun (W : World) (hW : SP W pb a C B k st) => peek_any hW ((s : Int) + g) e1 (by omega) (by omega))
                                      rw [hc1] at HP1
                                      have HC1 := Lib.hid hc1
                                      clear hc1 hgrp h48
                                      go_wp2_with fail
                                      with_reducible refine (HP1.out _ HI8.out.1).mono ?_
                                      rintro e w' ⟨rfl, q1, rfl⟩
                                      go_upto_if 149 with fail
                                      go_cut [8, 12] (fun v8 v12 wx => ∃ (z kd : Int) (e2 : Nat), v8 = .int .i64 z ∧ v12 = .int .i64 kd ∧ (k : Int) + z = e2 ∧ e1 ≤ e2 ∧ e2 ≤ B.length ∧ FracR B e1 e2 kd ∧ NI pb a C B k st w wx)
                                      case first =>
                                        by_cases hx : c1 = 46
                                        · have t46 := byte_eq hx (n := 46) rfl
                                          have HX := Lib.hid hx
                                          have hin1 : e1 < B.length := pk_in (by rw [HC1.out, hx]; decide)
                                          clear hx
                                          go_wp2_with fail
                                          with_reducible refine (grouped_ten (HI8.out.drewN _).1 ((s : Int) + g + 1) (e1 + 1) (by omega) (by omega) (by omega)).mono ?_
                                          rintro e w' ⟨g2, rfl, hg27, hgr2, q2, rfl⟩
                                          have HGR2 := Lib.hid hgr2
                                          clear hgr2
                                          by_cases hg20 : g2 = 0
                                          · have tg2 : ((g2 : Int) == 0) = true := by simp [hg20]
                                            clear hg20
                                            go_wp2_with fail
                                            refine (fail_any ((HI8.out).drewN _).1).mono ?_
                                            rintro e w3 ⟨rfl, hS3, hG3⟩
                                            have HS3 := Lib.hid hS3
                                            have hg := (((HI8.out).drewN _).2.trans hG3)
                                            have HG3 := Lib.hid hg.fromAlloc
                                            obtain ⟨⟨c0, hc0⟩, ⟨c1, hc1⟩, ⟨c2, hc2⟩, ⟨c3, hc3⟩, hcf⟩ := Res.of _ _ _ _ _ hg hin.1
                                            clear hS3 hG3 hg
                                            go_wp2_with fail
                                            exact bodyPost_ret (v := ndv 0 []) (by simp [results, Tryz.results32, go_sem, ndv, hc0, hc1, hc2, hc3]) rfl (VPost.mk 0 [] rfl ((SPost.bad HS3.out HG3.out hk (bad_fail st)).res hin _ _ _ _))
                                          · have tg2 : ((g2 : Int) == 0) = false := by simp; omega
                                            have hgin2 := grp_in (HGR2.out hg20)
                                            have HG20 := Lib.hid hg20
                                            clear hg20
                                            go_wp2_with fail
                                            go_meet
                                            exact ⟨_, _, e1 + 1 + g2, rfl, rfl, by omega, by omega, by omega, .inr ⟨by rw [HC1.out]; exact HX.out, HGR2.out HG20.out, rfl⟩, HI8.out.drewN _⟩
                                        · have t46 := byte_ne hx (n := 46) rfl
                                          have HX := Lib.hid hx
                                          clear hx
                                          go_wp2_with fail
                                          go_meet
                                          exact ⟨_, _, e1, rfl, rfl, by omega, by omega, by omega, .inl ⟨by rw [HC1.out]; exact HX.out, rfl, rfl⟩, HI8.out.drewN _⟩
                                      case rest =>
                                        as_aux_lemma =>
                                          obtain ⟨z, kd, e2, rfl, rfl, hz, he12, he2, hfr, hI⟩ := hcut
                                          have HI9 := Lib.hid hI
                                          have HFR := Lib.hid hfr
                                          clear hI hfr HI8
                                          obtain ⟨wk, rfl⟩ : ∃ wk : World, wk = wc := ⟨_, rfl⟩
                                          obtain ⟨c2, hc2⟩ : ∃ c, pk B e2 = c := ⟨_, rfl⟩
                                          have HP2 := Lib.hid (fun (W : World) (hW : SP W pb a C B k st) => peek_any hW z e2 (by omega) (by omega))
                                          rw [hc2] at HP2
                                          have HC2 := Lib.hid hc2
                                          clear hc2
                                          by_cases hex : c2 = 101 ∨ c2 = 69
                                          · have hin2 : e2 < B.length := pk_in (by rw [HC2.out]; rcases hex with h | h <;> rw [h] <;> decide)
                                            have HE := Lib.hid (show ExpC B e2 by unfold ExpC; rw [HC2.out]; exact hex)
                                            go_upto_region 44 with fail
                                            go_cut [172] from 163 to 172 (fun b wx => b = .bool true ∧ NI pb a C B k st w wx)
                                            case first =>
                                              by_cases hc : c2 = 101
                                              · have t1 := byte_eq hc (n := 101) rfl
                                                clear hc hex
                                                go_wp2_with fail
                                                with_reducible refine (HP2.out _ HI9.out.1).mono ?_
                                                rintro e w' ⟨rfl, q3, rfl⟩
                                                go_wp2_with fail
                                                go_meet
                                                exact ⟨rfl, HI9.out.drewN _⟩
                                              · have t1 := byte_ne hc (n := 101) rfl
                                                have t2 := byte_eq (hex.resolve_left hc) (n := 69) rfl
                                                clear hc hex
                                                go_wp2_with fail
                                                with_reducible refine (HP2.out _ HI9.out.1).mono ?_
                                                rintro e w' ⟨rfl, q3, rfl⟩
                                                go_wp2_with fail
                                                with_reducible refine (HP2.out _ (HI9.out.drewN _).1).mono ?_
                                                rintro e w' ⟨rfl, q4, rfl⟩
                                                go_wp2_with fail
                                                go_meet
                                                exact ⟨rfl, HI9.out.drewN _⟩
                                            case rest =>
                                              as_aux_lemma =>
                                                obtain ⟨rfl, hI⟩ := hcut
                                                have HIa := Lib.hid hI
                                                clear hI HI9 hex
                                                obtain ⟨wl, rfl⟩ : ∃ wl : World, wl = wc := ⟨_, rfl⟩
                                                go_upto_region 46 with fail
                                                obtain ⟨c3, hc3⟩ : ∃ c, pk B (e2 + 1) = c := ⟨_, rfl⟩
                                                have HP3 := Lib.hid (fun (W : World) (hW : SP W pb a C B k st) => peek_any hW (z + 1) (e2 + 1) (by omega) (by omega))
                                                rw [hc3] at HP3
                                                have HC3 := Lib.hid hc3
                                                clear hc3
                                                go_cut [184] from 173 to 184 (fun b wx => ∃ t : Bool, b = .bool t ∧ SgT B (e2 + 1) t ∧ NI pb a C B k st w wx)
                                                case first =>
                                                  by_cases h43 : c3 = 43
                                                  · have t43 := byte_eq h43 (n := 43) rfl
                                                    have HT := Lib.hid (HC3.out.trans h43)
                                                    clear h43
                                                    go_wp2_with fail
                                                    with_reducible refine (HP3.out _ HIa.out.1).mono ?_
                                                    rintro e w' ⟨rfl, q1, rfl⟩
                                                    go_wp2_with fail
                                                    go_meet
                                                    exact ⟨true, rfl, ⟨fun _ => .inl HT.out, (fun h => by cases h)⟩, HIa.out.drewN _⟩
                                                  · have t43 := byte_ne h43 (n := 43) rfl
                                                    by_cases h45 : c3 = 45
                                                    · have t45 := byte_eq h45 (n := 45) rfl
                                                      have HT := Lib.hid (HC3.out.trans h45)
                                                      clear h43 h45
                                                      go_wp2_with fail
                                                      with_reducible refine (HP3.out _ HIa.out.1).mono ?_
                                                      rintro e w' ⟨rfl, q1, rfl⟩
                                                      go_wp2_with fail
                                                      with_reducible refine (HP3.out _ (HIa.out.drewN _).1).mono ?_
                                                      rintro e w' ⟨rfl, q2, rfl⟩
                                                      go_wp2_with fail
                                                      go_meet
                                                      exact ⟨true, rfl, ⟨fun _ => .inr HT.out, (fun h => by cases h)⟩, HIa.out.drewN _⟩
                                                    · have t45 := byte_ne h45 (n := 45) rfl
                                                      have HT := Lib.hid (show ¬ (pk B (e2 + 1) = 43 ∨ pk B (e2 + 1) = 45) by rw [HC3.out]; rintro (h | h); exact h43 h; exact h45 h)
                                                      clear h43 h45
                                                      go_wp2_with fail
                                                      with_reducible refine (HP3.out _ HIa.out.1).mono ?_
                                                      rintro e w' ⟨rfl, q1, rfl⟩
                                                      go_wp2_with fail
                                                      with_reducible refine (HP3.out _ (HIa.out.drewN _).1).mono ?_
                                                      rintro e w' ⟨rfl, q2, rfl⟩
                                                      go_wp2_with fail
                                                      go_meet
                                                      exact ⟨false, rfl, ⟨(fun h => by cases h), fun _ => HT.out⟩, HIa.out.drewN _⟩
                                                case rest =>
                                                  as_aux_lemma =>
                                                    obtain ⟨t, rfl, ht, hI⟩ := hcut
                                                    have HIb := Lib.hid hI
                                                    have HT := Lib.hid ht
                                                    clear hI ht HIa
                                                    obtain ⟨wm, rfl⟩ : ∃ wm : World, wm = wc := ⟨_, rfl⟩
                                                    go_upto_if 184 with fail
                                                    go_cut [13] from 13 to 13 (fun v wx => ∃ m : Nat, v = .int .i64 m ∧ 1 ≤ m ∧ m ≤ 2 ∧ e2 + m ≤ B.length ∧ ExpS B e2 m ∧ NI pb a C B k st w wx)
                                                    case first =>
                                                      cases t with
                                                      | true =>
                                                        have hin3 : e2 + 1 < B.length := pk_in (by rcases HT.out.1 rfl with h | h <;> rw [h] <;> decide)
                                                        go_wp2_with fail
                                                        go_meet
                                                        exact ⟨2, rfl, by omega, by omega, by omega, .inl ⟨rfl, HT.out.1 rfl⟩, HIb.out⟩
                                                      | false =>
                                                        go_wp2_with fail
                                                        go_meet
                                                        exact ⟨1, rfl, by omega, by omega, by omega, .inr ⟨rfl, fun h => HT.out.2 rfl (.inl h), fun h => HT.out.2 rfl (.inr h)⟩, HIb.out⟩
                                                    case rest =>
                                                      as_aux_lemma =>
                                                        obtain ⟨m, rfl, hm1, hm2, hm3, hes, hI⟩ := hcut
                                                        have HIc := Lib.hid hI
                                                        have HES := Lib.hid hes
                                                        clear hI hes HIb HT
                                                        obtain ⟨wn, rfl⟩ : ∃ wn : World, wn = wc := ⟨_, rfl⟩
                                                        go_wp2_with fail
                                                        with_reducible refine (grouped_ten HIc.out.1 (z + (m : Int)) (e2 + m) (by omega) (by omega) (by omega)).mono ?_
                                                        rintro e w' ⟨g3, rfl, hg37, hgr3, q5, rfl⟩
                                                        have HGR3 := Lib.hid hgr3
                                                        clear hgr3
                                                        by_cases hg30 : g3 = 0
                                                        · have tg3 : ((g3 : Int) == 0) = true := by simp [hg30]
                                                          clear hg30
                                                          go_wp2_with fail
                                                          refine (fail_any ((HIc.out).drewN _).1).mono ?_
                                                          rintro e w3 ⟨rfl, hS3, hG3⟩
                                                          have HS3 := Lib.hid hS3
                                                          have hg := (((HIc.out).drewN _).2.trans hG3)
                                                          have HG3 := Lib.hid hg.fromAlloc
                                                          obtain ⟨⟨c0, hc0⟩, ⟨c1, hc1⟩, ⟨c2, hc2⟩, ⟨c3, hc3⟩, hcf⟩ := Res.of _ _ _ _ _ hg hin.1
                                                          clear hS3 hG3 hg
                                                          go_wp2_with fail
                                                          exact bodyPost_ret (v := ndv 0 []) (by simp [results, Tryz.results32, go_sem, ndv, hc0, hc1, hc2, hc3]) rfl (VPost.mk 0 [] rfl ((SPost.bad HS3.out HG3.out hk (bad_fail st)).res hin _ _ _ _))
                                                        · have tg3 : ((g3 : Int) == 0) = false := by simp; omega
                                                          have hgin3 := grp_in (HGR3.out hg30)
                                                          have HG30 := Lib.hid hg30
                                                          clear hg30
                                                          obtain ⟨s5, hs⟩ : ∃ s5 : ByteArray, s5 = ⟨((B.drop k).take (e2 + m + g3 - k)).toArray⟩ := ⟨_, rfl⟩
                                                          have hrw := fun (W : World) (hW : SP W pb a C B k st) => raw_z hW 2 (z + ((m : Int) + (g3 : Int))) (e2 + m + g3 - k) (by omega) (by omega) (by omega) s5 hs
                                                          have HRW := Lib.hid hrw
                                                          have HSS := Lib.hid hs
                                                          have hres := num_dec HSG.out HGRP.out H48'.out HFR.out (e3 := e2 + m + g3) (kd3 := 2) (.inr ⟨HE.out, m, HES.out, HGR3.out HG30.out, rfl⟩)
                                                          have HRES := Lib.hid hres.1
                                                          clear hres
                                                          clear hs hrw
                                                          go_wp2_with fail
                                                          refine (HRW.out _ ((HIc.out).drewN _).1).mono ?_
                                                          rintro e w3 ⟨rfl, hS3, hG3⟩
                                                          have HS3 := Lib.hid hS3
                                                          have hg := (((HIc.out).drewN _).2.trans hG3)
                                                          have HG3 := Lib.hid hg.fromAlloc
                                                          obtain ⟨⟨c0, hc0⟩, ⟨c1, hc1⟩, ⟨c2, hc2⟩, ⟨c3, hc3⟩, hcf⟩ := Res.of _ _ _ _ _ hg hin.1
                                                          clear hS3 hG3 hg
                                                          go_wp2_with fail
                                                          exact bodyPost_ret (v := .agg #[.int .i64 2, .string s5, .slice none 0 0, .slice none 0 0]) (by simp [results, Tryz.results32, go_sem, hc0, hc1, hc2, hc3]) rfl (VPost.mk 2 ((B.drop k).take (e2 + m + g3 - k)) (by rw [HSS.out]; rfl) ((SPost.mk HS3.out HG3.out (by omega) (by omega) fun h => ⟨h, by rw [show k + (e2 + m + g3 - k) - k = e2 + m + g3 - k by omega]; exact ⟨HRES.out, rfl⟩⟩).res hin _ _ _ _))
                                          · have t1 := byte_ne (c := c2) (d := 101) (n := 101) (fun h => hex (.inl h)) rfl
                                            have t2 := byte_ne (c := c2) (d := 69) (n := 69) (fun h => hex (.inr h)) rfl
                                            have HE := Lib.hid (show ¬ ExpC B e2 by unfold ExpC; rw [HC2.out]; exact hex)
                                            clear hex
                                            go_wp2_with fail
                                            with_reducible refine (HP2.out _ HI9.out.1).mono ?_
                                            rintro e w' ⟨rfl, q3, rfl⟩
                                            go_wp2_with fail
                                            with_reducible refine (HP2.out _ (HI9.out.drewN _).1).mono ?_
                                            rintro e w' ⟨rfl, q4, rfl⟩
                                            obtain ⟨s5, hs⟩ : ∃ s5 : ByteArray, s5 = ⟨((B.drop k).take (e2 - k)).toArray⟩ := ⟨_, rfl⟩
                                            have hrw := fun (W : World) (hW : SP W pb a C B k st) => raw_z hW kd (z) (e2 - k) (by omega) (by omega) (by omega) s5 hs
                                            have HRW := Lib.hid hrw
                                            have HSS := Lib.hid hs
                                            have hres := num_dec HSG.out HGRP.out H48'.out HFR.out (e3 := e2) (kd3 := kd) (.inl ⟨HE.out, rfl, rfl⟩)
                                            have HRES := Lib.hid hres.1
                                            have hlt3 := hres.2
                                            clear hres
                                            clear hs hrw
                                            go_wp2_with fail
                                            refine (HRW.out _ ((HI9.out).drewN _).1).mono ?_
                                            rintro e w3 ⟨rfl, hS3, hG3⟩
                                            have HS3 := Lib.hid hS3
                                            have hg := (((HI9.out).drewN _).2.trans hG3)
                                            have HG3 := Lib.hid hg.fromAlloc
                                            obtain ⟨⟨c0, hc0⟩, ⟨c1, hc1⟩, ⟨c2, hc2⟩, ⟨c3, hc3⟩, hcf⟩ := Res.of _ _ _ _ _ hg hin.1
                                            clear hS3 hG3 hg
                                            go_wp2_with fail
                                            exact bodyPost_ret (v := .agg #[.int .i64 kd, .string s5, .slice none 0 0, .slice none 0 0]) (by simp [results, Tryz.results32, go_sem, hc0, hc1, hc2, hc3]) rfl (VPost.mk kd ((B.drop k).take (e2 - k)) (by rw [HSS.out]; rfl) ((SPost.mk HS3.out HG3.out (by omega) (by omega) fun h => ⟨h, by rw [show k + (e2 - k) - k = e2 - k by omega]; exact ⟨HRES.out, rfl⟩⟩).res hin _ _ _ _))
end Go.Proofs.YtalmpddmhakdmaaGreat
