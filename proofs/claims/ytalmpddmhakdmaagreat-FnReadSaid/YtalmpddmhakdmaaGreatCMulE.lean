/-
  The walk of a function of the parser: a text of several lines in double quotes, with strokes. Conditions: the text lies in memory as stated.
-/
import Derived.Test.YtalmpddmhakdmaaGreatCJ33
namespace Go.Proofs.YtalmpddmhakdmaaGreat
open Go.RowKit

theorem Tr.blank {B : List UInt8} {i m : Nat} (h : Tr B i m) (hb : bl (pk B i) = true) : Tr B (i + 1) m := by
  have hs := skp_more hb
  cases h with
  | stop h => rw [hs] at h ⊢; exact .stop h
  | more h h2 => rw [hs] at h h2; exact .more h h2
theorem Tr.line {B : List UInt8} {i m : Nat} (h : Tr B i m) (hb : bl (pk B i) = false) (hl : lnN B i ≠ 0) : Tr B (i + lnN B i) m := by
  have hs := skp_stop hb
  cases h with
  | stop h => rw [hs] at h; exact absurd h hl
  | more h h2 => rw [hs] at h2; exact h2
theorem Tr.fin {B : List UInt8} {i m : Nat} (h : Tr B i m) (hb : bl (pk B i) = false) (hl : lnN B i = 0) : i = m := by
  have hs := skp_stop hb
  cases h with
  | stop h => exact hs.symm
  | more h h2 => rw [hs] at h; exact absurd hl h
theorem lit_two (W : World) (n : Nat) (hW : W.heap.size = n) (v x : Value) : ∀ j u, [v, x][j]? = some u → (W.alloc (.cells #[v, x] 5)).cell? ((⟨n, 0, none⟩ : Addr).add j) = some u := by
  subst hW
  intro j u hj
  have e : (⟨W.heap.size, 0, none⟩ : Addr).add j = ⟨W.heap.size, j, none⟩ := by unfold Addr.add; split <;> simp_all
  rw [e, cell_marked]
  match j, hj with
  | 0, hj => cases hj; rfl
  | 1, hj => cases hj; rfl
/-- What holds at the head of the loop. -/
def MlInv (w : World) (B : List UInt8) (o j : Nat) (t : List UInt8) (i : Value) (bv : Value) (wr : World) : Prop :=
  ∃ (y : Nat) (acc u : List UInt8), i = .int .i64 y ∧ Own wr w.heap.size bv acc ∧ w.grownBy wr none ∧ acc.length ≤ 4 * y ∧ LnR 34 B (o + y) j u ∧ t = acc ++ u

set_option maxRecDepth 100000 in
set_option maxHeartbeats 8000000 in
theorem mlesc_any {w : World} {db C : Nat} {B : List UInt8} {o n m j x cs : Nat} {t : List UInt8} (pv : Value) (hD : Dt w db B) (h1 : o + n = B.length) (h2 : n ≤ m) (h3 : o + m = C) (hcx : cs ≤ x) (hxn : x < n) (hf : pk B j ≠ 34) (hr : Trk B (fun i u => LnR 34 B i j u) (o + cs) (o + x) t) :
    Calls Tryz.prog 84 #[pv, .slice (some ⟨db, o, none⟩) n m, .int .i64 cs, .int .i64 x] w (ScP db C B j t w) := by
  obtain ⟨i0, hi, hz0, hz1, hz2⟩ := info_parts Tryz.info5
  have HD := Lib.hid (fun (W : World) (hW : w.grownBy W none) => hD.grown hW)
  have HF := Lib.hid (findm_any (m := m) (x := x) hD h1 h2 (by omega))
  have HR := Lib.hid hr
  have HFO := Lib.hid hf
  have hl := hD.len
  clear hD hr hf
  go_enter Tryz.func84, Tryz.ntmps84
  go_wp2_with fail
  with_reducible refine HF.out.mono ?_
  rintro e w' ⟨⟨fy, rfl, hfy⟩, rfl⟩
  obtain ⟨w, rfl⟩ : ∃ w0 : World, w0 = w' := ⟨_, rfl⟩
  have HFY := Lib.hid hfy
  clear hfy
  go_upto_if 30 with fail
  go_cut [12] from 22 to 34 (fun v wx => ∃ cap : Nat, v = .int .i64 cap ∧ x ≤ cap + cs ∧ cap ≤ 70000 ∧ w = wx)
  case first =>
    rcases HFY.out with rfl | ⟨g1, g2⟩
    · go_wp2_with fail
      go_meet
      exact ⟨n - cs, by rw [show ((n - cs : Nat) : Int) = (n : Int) - cs by omega], by omega, by omega, rfl⟩
    · go_wp2_with fail
      go_meet
      exact ⟨(fy + 2 - cs).toNat, by rw [show (((fy + 2 - cs).toNat : Nat) : Int) = fy + 2 - cs by omega], by omega, by omega, rfl⟩
  case rest =>
    obtain ⟨cap, rfl, hcap1, hcap, hww⟩ := hcut
    subst hww
    clear HFY HF
    have hm1 : ¬ m = cs := by omega
    have hsz : (Tryz.prog.info? 5).map (·.size) = some 1 := by rw [hi, Option.map_some, hz1]
    go_upto_region 6 with (at_make; (refine wpList_make_part _ rfl (.tmp 37) (.tmp 38) 22 rfl 5 i0 (.int .u8 0) 1 Tryz.underlying22 hi hz0 hz1 .i64 .i64 _ _ (x - cs) cap rfl rfl (by omega) rfl (by omega) (by rw [hz2]; omega) (by unfold maxLen; omega) ?_); intro cur hcs)
    rw [Nat.mul_one] at hcs
    have HCUR := Lib.hid (heap_alloc_new w (.cells cur 5))
    have HNW := Lib.hid (byt_cells (w := w.alloc (.cells cur 5)) (a := ⟨db, o + cs, none⟩) (l := cutB B (o + cs) (x - cs)) fun j x hj => by
      have hg := cut_get hj
      have e : (⟨db, o + cs, none⟩ : Addr).add j = ⟨db, o + cs + j, none⟩ := by unfold Addr.add; split <;> simp_all
      rw [e]
      exact (HD.out _ (World.grownBy_alloc w _ none)).data _ _ hg.1)
    have hlen : (cutB B (o + cs) (x - cs)).length = x - cs := cut_len (by omega)
    have HLEN := Lib.hid hlen
    have hmin : ((cutB B (o + cs) (x - cs)).map byt).length = Nat.min (x - cs) (x - cs) := by rw [List.length_map, hlen]; exact (Nat.min_self _).symm
    have hfit : 0 + ((cutB B (o + cs) (x - cs)).map byt).length ≤ cur.size := by rw [List.length_map, hlen]; omega
    have HMF := Lib.hid (And.intro hmin hfit)
    have HOW := Lib.hid (Own.filled (w := w) (base := w.heap.size) (l := cutB B (o + cs) (x - cs)) (k := cap) (cur := cur) (Nat.le_refl _) (by omega) (by unfold maxLen; omega) hcs)
    clear hlen hmin hfit
    go_upto_region 7 with ((refine wpList_copy_fill rfl (.tmp 40) (.tmp 44) 22 22 rfl 5 Tryz.underlying22 hsz w.heap.size 0 (x - cs) cap ⟨db, o + cs, none⟩ (x - cs) (m - cs) (by simp [Act.eval]) (by simp [Act.eval]) cur 5 HCUR.out ((cutB B (o + cs) (x - cs)).map byt) HMF.out.1 HNW.out HMF.out.2 (byt_one _) (x - cs) (by rw [List.length_map, HLEN.out]) ?_))
    obtain ⟨wm, hwm⟩ : ∃ wm : World, (w.alloc (.cells cur 5)).setRow w.heap.size (cur.toList.take 0 ++ ((cutB B (o + cs) (x - cs)).map byt ++ cur.toList.drop (0 + ((cutB B (o + cs) (x - cs)).map byt).length))).toArray = wm := ⟨_, rfl⟩
    have hom := HOW.out
    rw [hwm, HLEN.out] at hom
    have hgm : w.grownBy wm none := by rw [← hwm]; exact grown_filled _ _ _
    rw [hwm]
    have HOM := Lib.hid hom
    have HGM := Lib.hid hgm
    clear hom hgm hwm HOW HCUR HNW HMF hcs
    go_simp
    go_wp2_with fail
    go_loopw [3, 14] (fun iv bv wr => MlInv w B o j t iv bv wr) (fun iv _ _ => B.length - (intOf iv).toNat)
    case atStart =>
      obtain ⟨_, u, hu, ht⟩ := HR.out
      exact ⟨x, cutB B (o + cs) (x - cs), u, rfl, HOM.out, HGM.out, by rw [HLEN.out]; omega, hu, by rw [ht]; congr 2; omega⟩
    case round =>
      obtain ⟨y, acc, u, rfl, hO, hG, hacc, hu, ht⟩ := hrel
      have hlen := hu.len (by decide)
      have hin : o + y < B.length := by omega
      have hyn : y < n := by omega
      have HO := Lib.hid hO
      have HG := Lib.hid hG
      have HU := Lib.hid hu
      have HT := Lib.hid ht
      have HDr := Lib.hid (HD.out _ hG)
      have hc := HDr.out.pk hin
      have hszr : w.heap.size ≤ wr.heap.size := hG.size
      have hjl : j ≤ B.length := hlen.2
      clear hO hG hu ht HOM HGM hlen
      by_cases hqq : pk B (o + y) = 34
      · as_aux_lemma =>
          have t1 := byte_eq hqq (n := 34) rfl
          have HQQ := Lib.hid hqq
          clear hqq
          go_upto_block 3 with fail
          go_cut [16] from 78 to 91 (fun v wx => ∃ y2 : Nat, v = .int .i64 y2 ∧ wr = wx ∧ y < y2 ∧ y2 ≤ n ∧ (∀ k, k < y2 - y → pk B (o + y + k) = 34) ∧ pk B (o + y + (y2 - y)) ≠ 34)
          case first =>
            obtain ⟨wo, rfl⟩ : ∃ wo : World, wo = wr := ⟨_, rfl⟩
            go_wp2_with fail
            go_loopw [16] (fun v wr => ∃ y2 : Nat, v = .int .i64 y2 ∧ wo = wr ∧ y ≤ y2 ∧ y2 ≤ n ∧ (∀ k, k < y2 - y → pk B (o + y + k) = 34)) (fun v _ => B.length - (intOf v).toNat)
            case atStart => exact ⟨y, rfl, rfl, Nat.le_refl _, by omega, fun k hk => by omega⟩
            case round =>
              obtain ⟨y2, rfl, hw2, hy2, hy2n, hall⟩ := hrel
              subst hw2
              have HA := Lib.hid hall
              clear hall hc
              by_cases hlt : y2 < n
              · have hc2 := HDr.out.pk (i := o + y2) (by omega)
                by_cases hq2 : pk B (o + y2) = 34
                · have t2 := byte_eq hq2 (n := 34) rfl
                  have HQ2 := Lib.hid hq2
                  clear hq2
                  go_wp2_with fail
                  exact ⟨⟨y2 + 1, rfl, by trivial, by omega, by omega, fun k hk => by
                    rcases Nat.lt_or_ge k (y2 - y) with h | h
                    · exact HA.out k h
                    · rw [show o + y + k = o + y2 by omega]
                      exact HQ2.out⟩, by show B.length - (intOf (.int .i64 ((y2 : Int) + 1))).toNat < B.length - (intOf (.int .i64 (y2 : Int))).toNat; simp only [intOf]; omega⟩
                · have t2 := byte_ne hq2 (n := 34) rfl
                  have hne : y ≠ y2 := fun e => hq2 (by rw [← e]; exact HQQ.out)
                  have HQ2 := Lib.hid hq2
                  clear hq2
                  go_wp2_with fail
                  go_meet
                  exact ⟨y2, rfl, rfl, by omega, hy2n, HA.out, by rw [show o + y + (y2 - y) = o + y2 by omega]; exact HQ2.out⟩
              · go_wp2_with fail
                go_meet
                exact ⟨y2, rfl, rfl, by omega, hy2n, HA.out, by rw [pk_out (by omega)]; decide⟩
          case rest =>
            obtain ⟨y2, rfl, hw2, hy2, hy2n, hall, hne⟩ := hcut
            subst hw2
            have HA := Lib.hid (And.intro hall hne)
            have hmy : ¬ m = y := by omega
            clear hall hne hc t1
            by_cases h3r : 3 ≤ y2 - y
            · obtain ⟨h5, rfl, ht⟩ : y2 - y ≤ 5 ∧ j = o + y2 ∧ t = acc ++ cutB B (o + y) (y + (y2 - y) - 3 - y) := by
                obtain ⟨e1, e2, e3⟩ := HU.out.many h3r HA.out.1 HA.out.2 HFO.out
                refine ⟨e1, by omega, ?_⟩
                rw [HT.out, e3, cut_same (B := B) (i := o + y) (n := y + (y2 - y) - 3 - y) (fun k hk => HA.out.1 k (by omega)) (by omega)]
                congr 2
                omega
              have HTT := Lib.hid ht
              clear ht HU HT
              have hcl : (cutB B (o + y) (y + (y2 - y) - 3 - y)).length = y + (y2 - y) - 3 - y := cut_len (by omega)
              have HCL := Lib.hid hcl
              have HNW := Lib.hid (byt_cells (w := wr) (a := ⟨db, o + y, none⟩) (l := cutB B (o + y) (y + (y2 - y) - 3 - y)) fun j x hj => by
                have hg := cut_get hj
                have e : (⟨db, o + y, none⟩ : Addr).add j = ⟨db, o + y + j, none⟩ := by unfold Addr.add; split <;> simp_all
                rw [e]
                exact HDr.out.data _ _ hg.1)
              clear hcl
              go_wp2_with (at_builtin; (refine wpList_append_own _ rfl (.tmp 104) (.tmp 111) 22 rfl w.heap.size 5 i0 (.int .u8 0) 1 1 Tryz.underlying22 hi hz0 hz1 hz2 rfl (by decide) u14 acc.length (acc.map byt) rfl HO.out.1 ⟨db, o + y, none⟩ _ _ ((cutB B (o + y) (y + (y2 - y) - 3 - y)).map byt) rfl (by have := HCL.out; simp only [List.length_map]; omega) HNW.out (byt_one _) (by unfold maxLen; omega) (by omega) hszr ?_); intro v' w3 hown3 hgrow3 hnil3; have HO3 := Lib.hid (HO.out.app2 (t := (cutB B (o + y) (y + (y2 - y) - 3 - y))) (by have := HCL.out; omega) hown3 hnil3); have HG3 := Lib.hid (grow HG.out hgrow3 HO.out.lt); clear hown3 hgrow3 hnil3)
              go_quiet (fail)
              all_goals go_wp2_with fail
              all_goals
                (try simp only [Exit.inBlock, Exit.then])
                refine bodyPost_ret (results_tmp4 rfl _ _ _) rfl ?_
                have htx := ((HO3.out.drewN nq).txt (db := db) (w0 := w) (Nat.le_refl _))
                rw [← HTT.out] at htx
                exact ScP.mk _ _ _ rfl ⟨_, _, _, o, rfl, by omega, by omega⟩ htx ⟨_, _, _, rfl, by omega, by omega, by omega, by omega⟩ (gtrans HG3.out (grown_drewN w3 nq))
            · obtain ⟨u', hu', hut⟩ := HU.out.few (.inl rfl) (r := y2 - y) (by omega) HA.out.1 HA.out.2
              have HUT := Lib.hid (And.intro hu' hut)
              clear hu' hut HU
              have hcl : (cutB B (o + y) (y2 - y)).length = y2 - y := cut_len (by omega)
              have HCL := Lib.hid hcl
              have HNW := Lib.hid (byt_cells (w := wr) (a := ⟨db, o + y, none⟩) (l := cutB B (o + y) (y2 - y)) fun j x hj => by
                have hg := cut_get hj
                have e : (⟨db, o + y, none⟩ : Addr).add j = ⟨db, o + y + j, none⟩ := by unfold Addr.add; split <;> simp_all
                rw [e]
                exact HDr.out.data _ _ hg.1)
              clear hcl
              go_wp2_with (at_builtin; (refine wpList_append_own _ rfl (.tmp 120) (.tmp 124) 22 rfl w.heap.size 5 i0 (.int .u8 0) 1 1 Tryz.underlying22 hi hz0 hz1 hz2 rfl (by decide) u14 acc.length (acc.map byt) rfl HO.out.1 ⟨db, o + y, none⟩ _ _ ((cutB B (o + y) (y2 - y)).map byt) rfl (by have := HCL.out; simp only [List.length_map]; omega) HNW.out (byt_one _) (by unfold maxLen; omega) (by omega) hszr ?_); intro v' w3 hown3 hgrow3 hnil3; have HO3 := Lib.hid (HO.out.app2 (t := (cutB B (o + y) (y2 - y))) (by have := HCL.out; omega) hown3 hnil3); have HG3 := Lib.hid (grow HG.out hgrow3 HO.out.lt); clear hown3 hgrow3 hnil3)
              exact ⟨⟨y2, acc ++ cutB B (o + y) (y2 - y), u', rfl, HO3.out, HG3.out, by rw [List.length_append, HCL.out]; omega, by have := HUT.out.2; rwa [show o + y + (y2 - y) = o + y2 by omega] at this, by rw [HT.out, HUT.out.1, List.append_assoc]⟩, by show B.length - (intOf (.int .i64 (y2 : Int))).toNat < B.length - (intOf (.int .i64 (y : Int))).toNat; simp only [intOf]; omega⟩
      · have t1 := byte_ne hqq (n := 34) rfl
        have h3q : ¬ three 34 B (o + y) := fun e => hqq e.1
        by_cases h92 : pk B (o + y) = 92
        · as_aux_lemma =>
            have t92 := byte_eq h92 (n := 92) rfl
            have hl92 : lnN B (o + y) = 0 := lnN_plain (by rw [h92]; decide) (by rw [h92]; decide)
            have hcs2 : (lnN B (skp B (o + (y + 1))) ≠ 0 ∧ ∃ m', Tr B (skp B (o + (y + 1)) + lnN B (skp B (o + (y + 1)))) m' ∧ LnR 34 B m' j u) ∨ (∃ m' t1' u', EscR B (o + (y + 1)) m' t1' ∧ LnR 34 B m' j u' ∧ u = t1' ++ u') := by
              cases HU.out with
              | stop h _ => exact absurd h h3q
              | cont _ _ _ _ h5 h6 h7 => exact .inl ⟨h5, _, h6, h7⟩
              | esc _ _ _ _ _ h6 h7 => exact .inr ⟨_, _, _, h6, h7, rfl⟩
              | nl _ _ h3 _ _ => exact absurd ⟨h92, rfl⟩ h3
              | sgn _ _ h3 _ _ _ => exact absurd ⟨h92, rfl⟩ h3
            clear h92 h3q hqq hl92
            rcases hcs2 with ⟨hnl, m', htr, hlr⟩ | ⟨m', t1', u', hes, hu', hut⟩
            · have hs1 : skp B (o + (y + 1)) < B.length := by
                rcases lnN_cases hnl with h | ⟨h, _⟩ <;> exact pk_in (by rw [h]; decide)
              have hsg := skp_ge B (o + (y + 1))
              have hyn1 : y + 1 < n := by omega
              have hmle : m' + 3 ≤ B.length := by have := hlr.len (by decide); omega
              have hws : pk B (o + (y + 1)) = 32 ∨ pk B (o + (y + 1)) = 9 ∨ pk B (o + (y + 1)) = 10 ∨ pk B (o + (y + 1)) = 13 := by
                by_cases hb : bl (pk B (o + (y + 1))) = true
                · unfold bl at hb
                  simp at hb
                  rcases hb with h | h
                  · exact .inl h
                  · exact .inr (.inl h)
                · have := skp_stop (by simpa using hb : bl (pk B (o + (y + 1))) = false)
                  rw [this] at hnl
                  rcases lnN_cases hnl with h | ⟨h, _⟩
                  · exact .inr (.inr (.inl h))
                  · exact .inr (.inr (.inr h))
              have HWS := Lib.hid hws
              have HTR := Lib.hid (And.intro htr hlr)
              have HNL := Lib.hid hnl
              have hc1 := HDr.out.pk (i := o + (y + 1)) (by omega)
              clear hws htr hlr hnl HU
              go_upto_region 30 with fail
              go_cut [166] from 141 to 166 (fun v wx => v = .bool true ∧ wr = wx)
              case first =>
                rcases HWS.out with h | h | h | h
                · rw [h] at hc1
                  go_wp2_with fail
                  go_meet
                  exact ⟨rfl, rfl⟩
                · rw [h] at hc1
                  go_wp2_with fail
                  go_meet
                  exact ⟨rfl, rfl⟩
                · rw [h] at hc1
                  go_wp2_with fail
                  go_meet
                  exact ⟨rfl, rfl⟩
                · rw [h] at hc1
                  go_wp2_with fail
                  go_meet
                  exact ⟨rfl, rfl⟩
              case rest =>
                obtain ⟨rfl, hw2⟩ := hcut
                subst hw2
                clear hc1 hc t1 t92
                obtain ⟨s, hs⟩ : ∃ s, skp B (o + (y + 1)) = s := ⟨_, rfl⟩
                rw [hs] at hs1 hsg HTR HNL
                have HS := Lib.hid hs
                clear hs
                go_upto_block 5 with fail
                go_cut [18] from 167 to 187 (fun v wx => v = .int .i64 ((s - o : Nat) : Int) ∧ wr = wx)
                case first =>
                  as_aux_lemma =>
                    obtain ⟨wo, rfl⟩ : ∃ wo : World, wo = wr := ⟨_, rfl⟩
                    go_wp2_with fail
                    go_loopw [18] (fun v wr => ∃ y2 : Nat, v = .int .i64 y2 ∧ wo = wr ∧ skp B (o + y2) = s ∧ y2 ≤ s - o) (fun v _ => B.length - (intOf v).toNat)
                    case atStart => exact ⟨y + 1, rfl, rfl, HS.out, by omega⟩
                    case round =>
                      obtain ⟨y2, rfl, hw2, hy2, hy2n⟩ := hrel
                      subst hw2
                      have hlt : y2 < n := by omega
                      have hc2 := HDr.out.pk (i := o + y2) (by omega)
                      by_cases hb : bl (pk B (o + y2)) = true
                      · have hsk := skp_more hb
                        have hb2 : pk B (o + y2) = 32 ∨ pk B (o + y2) = 9 := by
                          unfold bl at hb
                          simpa using hb
                        have HSK := Lib.hid (hsk.symm.trans hy2)
                        have hyl : y2 + 1 ≤ s - o := by
                          have h1 := skp_ge B (o + y2 + 1)
                          have h2 := HSK.out
                          omega
                        clear hb hsk hy2
                        rcases hb2 with h | h
                        · rw [h] at hc2
                          go_wp2_with fail
                          exact ⟨⟨y2 + 1, rfl, by trivial, HSK.out, hyl⟩, by show B.length - (intOf (.int .i64 ((y2 : Int) + 1))).toNat < B.length - (intOf (.int .i64 (y2 : Int))).toNat; simp only [intOf]; omega⟩
                        · rw [h] at hc2
                          go_wp2_with fail
                          exact ⟨⟨y2 + 1, rfl, by trivial, HSK.out, hyl⟩, by show B.length - (intOf (.int .i64 ((y2 : Int) + 1))).toNat < B.length - (intOf (.int .i64 (y2 : Int))).toNat; simp only [intOf]; omega⟩
                      · have hbf : bl (pk B (o + y2)) = false := by simpa using hb
                        have hsk := skp_stop hbf
                        have hys : y2 = s - o := by omega
                        have HYS := Lib.hid hys
                        have h32 : pk B (o + y2) ≠ 32 := fun e => hb (by rw [e]; rfl)
                        have h9 : pk B (o + y2) ≠ 9 := fun e => hb (by rw [e]; rfl)
                        have t3 := byte_ne h32 (n := 32) rfl
                        have t4 := byte_ne h9 (n := 9) rfl
                        clear hb hbf hsk h32 h9 hy2 hys
                        generalize pk B (o + y2) = d at *
                        go_wp2_with fail
                        go_meet
                        exact ⟨by rw [HYS.out], rfl⟩
                case rest =>
                  as_aux_lemma =>
                    obtain ⟨rfl, hw2⟩ := hcut
                    subst hw2
                    have hsn : s - o < n := by omega
                    have hso : o + (s - o) = s := by omega
                    have hcs3 := HDr.out.pk (i := o + (s - o)) (by omega)
                    rw [hso] at hcs3
                    clear HWS
                    obtain ⟨q, hq⟩ : ∃ q, lnN B s = q := ⟨_, rfl⟩
                    rw [hq] at HTR
                    have hnl := HNL.out
                    have hln := lnN_cases hnl
                    rw [hq] at hnl
                    have hqe : (pk B s = 10 ∧ q = 1) ∨ (pk B s = 13 ∧ pk B (s + 1) = 10 ∧ q = 2) := by
                      rcases hln with h | ⟨h, h2⟩
                      · exact .inl ⟨h, by rw [← hq]; unfold lnN; rw [if_pos h]⟩
                      · exact .inr ⟨h, h2, by rw [← hq]; unfold lnN; rw [if_neg (by rw [h]; decide), if_pos ⟨h, h2⟩]⟩
                    have HQE := Lib.hid hqe
                    clear hnl hln hq hqe HNL
                    go_upto_if 198 with fail
                    go_cut [18] from 188 to 200 (fun v wx => v = .int .i64 ((s + q - 1 - o : Nat) : Int) ∧ wr = wx)
                    case first =>
                      rcases HQE.out with ⟨h10, rfl⟩ | ⟨h13, h10, rfl⟩
                      · have t7 : (((pk B s).toNat : Int) == 13) = false := by rw [h10]; decide
                        clear h10
                        go_wp2_with fail
                        go_meet
                        exact ⟨congrArg (Value.int .i64) (by omega), rfl⟩
                      · have t7 := byte_eq h13 (n := 13) rfl
                        clear h10 h13
                        go_wp2_with fail
                        go_meet
                        exact ⟨congrArg (Value.int .i64) (by omega), rfl⟩
                    case rest =>
                      obtain ⟨rfl, hw2⟩ := hcut
                      subst hw2
                      have he : pk B (s + q - 1) = 10 ∧ s + q - 1 < B.length ∧ 1 ≤ q := by
                        rcases HQE.out with ⟨h10, rfl⟩ | ⟨h13, h10, rfl⟩
                        · exact ⟨h10, hs1, Nat.le_refl _⟩
                        · have : s + 2 - 1 = s + 1 := by omega
                          rw [this]
                          exact ⟨h10, pk_in (by rw [h10]; decide), by decide⟩
                      have hen : s + q - 1 - o < n := by omega
                      have hce := HDr.out.pk (i := o + (s + q - 1 - o)) (by omega)
                      rw [show o + (s + q - 1 - o) = s + q - 1 by omega, he.1] at hce
                      rw [show s + q - 1 = o + (s + q - 1 - o) by omega] at hce
                      have hq1 := he.2.2
                      clear hcs3 HQE he
                      obtain ⟨e1, he1⟩ : ∃ e1, s + q - 1 - o = e1 := ⟨_, rfl⟩
                      rw [he1] at hce hen ⊢
                      have htr := HTR.out.1
                      rw [show s + q = o + (e1 + 1) by omega] at htr
                      have HTR2 := Lib.hid htr
                      have HLR := Lib.hid HTR.out.2
                      have hye : y + 1 ≤ e1 := by omega
                      have hen2 : ¬ n ≤ e1 := by omega
                      clear htr HTR he1 hq1
                      go_upto_block 7 with fail
                      go_cut [18] from 201 to 274 (fun v wx => v = .int .i64 ((m' - o : Nat) : Int) ∧ wr = wx ∧ e1 + 1 ≤ m' - o ∧ o ≤ m')
                      case first =>
                        as_aux_lemma =>
                          obtain ⟨wo, rfl⟩ : ∃ wo : World, wo = wr := ⟨_, rfl⟩
                          clear hce
                          go_wp2_with fail
                          go_loopw [18] (fun v wr => ∃ y2 : Nat, v = .int .i64 y2 ∧ wo = wr ∧ Tr B (o + y2) m' ∧ e1 + 1 ≤ y2 ∧ y2 ≤ n) (fun v _ => B.length - (intOf v).toNat)
                          case atStart => exact ⟨e1 + 1, rfl, rfl, HTR2.out, Nat.le_refl _, by omega⟩
                          case round =>
                            obtain ⟨y2, rfl, hw2, htr2, hy2, hy2n⟩ := hrel
                            subst hw2
                            clear HTR2
                            by_cases hlt : y2 < n
                            · have hc2 := HDr.out.pk (i := o + y2) (by omega)
                              by_cases hb : bl (pk B (o + y2)) = true
                              · have HT2 := Lib.hid (htr2.blank hb)
                                have hb2 : pk B (o + y2) = 32 ∨ pk B (o + y2) = 9 := by
                                  unfold bl at hb
                                  simpa using hb
                                clear hb htr2
                                rcases hb2 with h | h
                                · rw [h] at hc2
                                  go_wp2_with fail
                                  exact ⟨⟨y2 + 1, rfl, by trivial, HT2.out, by omega, by omega⟩, by show B.length - (intOf (.int .i64 ((y2 : Int) + 1))).toNat < B.length - (intOf (.int .i64 (y2 : Int))).toNat; simp only [intOf]; omega⟩
                                · rw [h] at hc2
                                  go_wp2_with fail
                                  exact ⟨⟨y2 + 1, rfl, by trivial, HT2.out, by omega, by omega⟩, by show B.length - (intOf (.int .i64 ((y2 : Int) + 1))).toNat < B.length - (intOf (.int .i64 (y2 : Int))).toNat; simp only [intOf]; omega⟩
                              · have hbf : bl (pk B (o + y2)) = false := by simpa using hb
                                by_cases hl2 : lnN B (o + y2) = 0
                                · have hfin := htr2.fin hbf hl2
                                  have HME := Lib.hid (show m' - o = y2 by omega)
                                  have hom : o ≤ m' := by omega
                                  have h32 : pk B (o + y2) ≠ 32 := fun e => hb (by rw [e]; rfl)
                                  have h9 : pk B (o + y2) ≠ 9 := fun e => hb (by rw [e]; rfl)
                                  have h10 : pk B (o + y2) ≠ 10 := fun e => by unfold lnN at hl2; rw [if_pos e] at hl2; omega
                                  by_cases h13 : pk B (o + y2) = 13
                                  · have h10b : pk B (o + y2 + 1) ≠ 10 := fun e => by unfold lnN at hl2; rw [if_neg h10, if_pos ⟨h13, e⟩] at hl2; omega
                                    have h10c : o + (y2 + 1) < B.length → pk B (o + (y2 + 1)) ≠ 10 := fun _ => h10b
                                    rw [h13] at hc2
                                    clear hb hbf hl2 h32 h9 h10 htr2 hfin h13 h10b
                                    by_cases hlt2 : y2 + 1 < n
                                    · have hc3 := HDr.out.pk (i := o + (y2 + 1)) (by omega)
                                      have t5 := byte_ne' (h10c (by omega)) (n := 10) rfl
                                      clear h10c
                                      generalize pk B (o + (y2 + 1)) = d at *
                                      go_wp2_with fail
                                      go_meet
                                      exact ⟨congrArg (Value.int .i64) (by have := HME.out; omega), rfl, by have := HME.out; omega, hom⟩
                                    · clear h10c
                                      go_wp2_with fail
                                      go_meet
                                      exact ⟨congrArg (Value.int .i64) (by have := HME.out; omega), rfl, by have := HME.out; omega, hom⟩
                                  · have t3 := byte_ne h32 (n := 32) rfl
                                    have t4 := byte_ne h9 (n := 9) rfl
                                    have t5 := byte_ne h10 (n := 10) rfl
                                    have t6 := byte_ne h13 (n := 13) rfl
                                    clear hb hbf hl2 h32 h9 h10 h13 htr2 hfin
                                    generalize pk B (o + y2) = d at *
                                    go_wp2_with fail
                                    go_meet
                                    exact ⟨congrArg (Value.int .i64) (by have := HME.out; omega), rfl, by have := HME.out; omega, hom⟩
                                · have HT2 := Lib.hid (htr2.line hbf hl2)
                                  have hcs4 : (pk B (o + y2) = 10 ∧ lnN B (o + y2) = 1) ∨ (pk B (o + y2) = 13 ∧ pk B (o + y2 + 1) = 10 ∧ lnN B (o + y2) = 2) := by
                                    rcases lnN_cases hl2 with h | ⟨h, h2⟩
                                    · exact .inl ⟨h, by unfold lnN; rw [if_pos h]⟩
                                    · exact .inr ⟨h, h2, by unfold lnN; rw [if_neg (by rw [h]; decide), if_pos ⟨h, h2⟩]⟩
                                  clear hb hbf hl2 htr2
                                  rcases hcs4 with ⟨h, h1'⟩ | ⟨h, h2', h1'⟩
                                  · rw [h] at hc2
                                    have HL1 := Lib.hid h1'
                                    clear h1' h
                                    go_wp2_with fail
                                    exact ⟨⟨y2 + 1, rfl, by trivial, by have := HT2.out; rwa [HL1.out] at this, by omega, by omega⟩, by show B.length - (intOf (.int .i64 ((y2 : Int) + 1))).toNat < B.length - (intOf (.int .i64 (y2 : Int))).toNat; simp only [intOf]; omega⟩
                                  · have hin2 : o + y2 + 1 < B.length := pk_in (by rw [h2']; decide)
                                    have hc3 := HDr.out.pk (i := o + (y2 + 1)) (by omega)
                                    rw [show pk B (o + (y2 + 1)) = 10 from h2'] at hc3
                                    rw [h] at hc2
                                    have HL1 := Lib.hid h1'
                                    have hlt2 : y2 + 1 < n := by omega
                                    clear h1' h h2'
                                    go_wp2_with fail
                                    exact ⟨⟨y2 + 2, congrArg (Value.int .i64) (by omega), by trivial, by have := HT2.out; rwa [HL1.out] at this, by omega, by omega⟩, by show B.length - (intOf (.int .i64 ((y2 : Int) + 1 + 1))).toNat < B.length - (intOf (.int .i64 (y2 : Int))).toNat; simp only [intOf]; omega⟩
                            · have hbf : bl (pk B (o + y2)) = false := by rw [pk_out (by omega)]; rfl
                              have hl2 : lnN B (o + y2) = 0 := by unfold lnN; rw [pk_out (by omega)]; simp
                              have hfin := htr2.fin hbf hl2
                              have HME := Lib.hid (show m' - o = y2 by omega)
                              have hom : o ≤ m' := by omega
                              clear hbf hl2 htr2 hfin
                              go_wp2_with fail
                              go_meet
                              exact ⟨congrArg (Value.int .i64) (by have := HME.out; omega), rfl, by have := HME.out; omega, hom⟩
                      case rest =>
                        obtain ⟨rfl, hw2, hem, hom⟩ := hcut
                        subst hw2
                        clear hce HTR2
                        go_wp2_with fail
                        exact ⟨⟨m' - o, acc, u, rfl, HO.out, HG.out, by omega, by rw [show o + (m' - o) = m' by omega]; exact HLR.out, HT.out⟩, by show B.length - (intOf (.int .i64 ((m' - o : Nat) : Int))).toNat < B.length - (intOf (.int .i64 (y : Int))).toNat; simp only [intOf]; omega⟩
            · as_aux_lemma =>
                have hel := esc_len hes
                have hin1 : o + (y + 1) < B.length := by
                  cases hes with
                  | one hk hc' => exact pk_in (by rw [hc']; unfold escS; rename_i k; match k, hk with
                      | 0, _ | 1, _ | 2, _ | 3, _ | 4, _ | 5, _ | 6, _ => decide)
                  | uni hk _ _ _ => exact pk_in (by rcases hk with ⟨h, _⟩ | ⟨h, _⟩ <;> rw [h] <;> decide)
                have hnb : pk B (o + (y + 1)) ≠ 32 ∧ pk B (o + (y + 1)) ≠ 9 ∧ pk B (o + (y + 1)) ≠ 10 ∧ pk B (o + (y + 1)) ≠ 13 := by
                  cases hes with
                  | one hk hc' =>
                    rw [hc']
                    unfold escS
                    rename_i k
                    match k, hk with
                    | 0, _ | 1, _ | 2, _ | 3, _ | 4, _ | 5, _ | 6, _ => decide
                  | uni hk _ _ _ => rcases hk with ⟨h, _⟩ | ⟨h, _⟩ <;> rw [h] <;> decide
                have hyn1 : y + 1 < n := by omega
                have hc1 := HDr.out.pk hin1
                have t3 := byte_ne hnb.1 (n := 32) rfl
                have t4 := byte_ne hnb.2.1 (n := 9) rfl
                have t5 := byte_ne hnb.2.2.1 (n := 10) rfl
                have t6 := byte_ne hnb.2.2.2 (n := 13) rfl
                have HUN := Lib.hid (show Calls Tryz.prog 94 #[u14, .slice (some ⟨db, o, none⟩) n m, .int .i64 ((y : Int) + 1)] wr (UnP w.heap.size o m' u14 acc t1' wr) from unescape_any (m := m) HDr.out h1 hes HO.out (by omega) hszr)
                have HUT := Lib.hid (And.intro hu' hut)
                clear hes hu' hut HU hnb
                generalize pk B (o + (y + 1)) = d at *
                generalize pk B (o + y) = c at *
                go_wp2_with fail
                with_reducible refine HUN.out.mono ?_
                rintro e w3 ⟨v', y3, rfl, hy3, hv', o', hg'⟩
                have HO3 := Lib.hid hv'
                have HG3 := Lib.hid (grow (gtrans HG.out (World.grownBy_alloc wr o' none)) hg' HO.out.lt)
                clear hv' hg'
                subst hy3
                go_wp2_with fail
                exact ⟨⟨y3, acc ++ t1', u', rfl, HO3.out, HG3.out, by rw [List.length_append]; omega, HUT.out.1, by rw [HT.out, HUT.out.2, List.append_assoc]⟩, by show B.length - (intOf (.int .i64 (y3 : Int))).toNat < B.length - (intOf (.int .i64 (y : Int))).toNat; simp only [intOf]; omega⟩
        · have t92 := byte_ne h92 (n := 92) rfl
          have hst := HU.out.step h3q (fun e => h92 e.1)
          rcases hst with ⟨hln, u', hu', hut⟩ | ⟨hln, hsg, u', hu', hut⟩
          · rcases lnN_cases hln with h10 | ⟨h13, h10⟩
            · as_aux_lemma =>
                have hl1 : lnN B (o + y) = 1 := by unfold lnN; rw [if_pos h10]
                rw [hl1] at hu' hut
                have hone : cutB B (o + y) 1 = [pk B (o + y)] := by
                  unfold cutB
                  rw [drop_pk hin]
                  rfl
                rw [hone] at hu'
                have HUT := Lib.hid (And.intro hu' hut)
                have t10 := byte_eq h10 (n := 10) rfl
                have t9 : (((pk B (o + y)).toNat : Int) == 9) = false := by rw [h10]; decide
                have l32 : ¬ 32 ≤ ((pk B (o + y)).toNat : Int) := by rw [h10]; decide
                clear hu' hut hone hl1 hln h10 h3q hqq h92 HU
                generalize pk B (o + y) = c at *
                go_wp2_with (at_builtin; (refine wpList_append_own _ rfl (.tmp 307) (.tmp 309) 22 rfl w.heap.size 5 i0 (.int .u8 0) 1 1 Tryz.underlying22 hi hz0 hz1 hz2 rfl (by decide) u14 acc.length (acc.map byt) rfl (HO.out.1.alloc _) ⟨wr.heap.size, 0, none⟩ 1 1 [.int .u8 (c.toNat : Int)] rfl rfl (lit_cell5 _ _ rfl _) (one_byte _) (by unfold maxLen; omega) (by omega) (by simp; omega) ?_); intro v' w3 hown3 hgrow3 hnil3; have HO3 := Lib.hid ((HO.out.alloc (.cells #[.int .u8 (c.toNat : Int)] 5)).one c hown3 hnil3); have HG3 := Lib.hid (grow (gtrans HG.out (World.grownBy_alloc wr (.cells #[.int .u8 (c.toNat : Int)] 5) none)) hgrow3 HO.out.lt); clear hown3 hgrow3 hnil3)
                exact ⟨⟨y + 1, acc ++ [c], u', rfl, HO3.out, HG3.out, by rw [List.length_append, List.length_singleton]; omega, HUT.out.2, by rw [HT.out, HUT.out.1, List.append_assoc]⟩, by show B.length - (intOf (.int .i64 ((y : Int) + 1 : Int))).toNat < B.length - (intOf (.int .i64 (y : Int))).toNat; simp only [intOf]; omega⟩
            · as_aux_lemma =>
                have hl1 : lnN B (o + y) = 2 := by unfold lnN; rw [if_neg (by rw [h13]; decide), if_pos ⟨h13, h10⟩]
                rw [hl1] at hu' hut
                have hin2 : o + y + 1 < B.length := pk_in (by rw [h10]; decide)
                have hone : cutB B (o + y) 2 = [13, 10] := by
                  unfold cutB
                  rw [drop_pk hin, drop_pk hin2, h13, h10]
                  rfl
                rw [hone] at hu'
                have HUT := Lib.hid (And.intro hu' hut)
                have t13 := byte_eq h13 (n := 13) rfl
                have t10 : (((pk B (o + y)).toNat : Int) == 10) = false := by rw [h13]; decide
                have t9 : (((pk B (o + y)).toNat : Int) == 9) = false := by rw [h13]; decide
                have l32 : ¬ 32 ≤ ((pk B (o + y)).toNat : Int) := by rw [h13]; decide
                have hc2 := HDr.out.pk (i := o + (y + 1)) (by omega)
                rw [show pk B (o + (y + 1)) = 10 from h10] at hc2
                have hyn1 : y + 1 < n := by omega
                clear hu' hut hone hl1 hln h10 h13 h3q hqq h92 HU
                generalize pk B (o + y) = c at *
                go_wp2_with (at_builtin; (refine wpList_append_own _ rfl (.tmp 329) (.tmp 330) 22 rfl w.heap.size 5 i0 (.int .u8 0) 1 1 Tryz.underlying22 hi hz0 hz1 hz2 rfl (by decide) u14 acc.length (acc.map byt) rfl (HO.out.1.alloc _) ⟨wr.heap.size, 0, none⟩ 2 2 [.int .u8 13, .int .u8 10] rfl rfl (lit_two _ _ rfl _ _) (by intro u hu; simp at hu; rcases hu with rfl | rfl <;> rfl) (by unfold maxLen; omega) (by omega) (by simp; omega) ?_); intro v' w3 hown3 hgrow3 hnil3; have HO3 := Lib.hid ((HO.out.alloc (.cells #[.int .u8 13, .int .u8 10] 5)).app2 (t := [13, 10]) rfl hown3 hnil3); have HG3 := Lib.hid (grow (gtrans HG.out (World.grownBy_alloc wr (.cells #[.int .u8 13, .int .u8 10] 5) none)) hgrow3 HO.out.lt); clear hown3 hgrow3 hnil3)
                exact ⟨⟨y + 2, acc ++ [13, 10], u', rfl, HO3.out, HG3.out, by rw [List.length_append]; simp; omega, HUT.out.2, by rw [HT.out, HUT.out.1, List.append_assoc]⟩, by show B.length - (intOf (.int .i64 ((y : Int) + 2 : Int))).toNat < B.length - (intOf (.int .i64 (y : Int))).toNat; simp only [intOf]; omega⟩
          · by_cases hhi : 128 ≤ (pk B (o + y)).toNat
            · as_aux_lemma =>
                clear hu' hut
                obtain ⟨k, hk1, u', hu', hut⟩ := HU.out.run (.inl rfl)
                have hk5 := hk1.lt.2.2 hin hhi
                have hk4 := hk1.lt.2.1
                have HRUN := Lib.hid (run_any (m := m) HDr.out h1 hk1)
                have HUT := Lib.hid (And.intro hu' hut)
                clear hk1 hu' hut HU hsg hqq h92 h3q hln
                have t9 : (((pk B (o + y)).toNat : Int) == 9) = false := by simp; omega
                have t10 : (((pk B (o + y)).toNat : Int) == 10) = false := by simp; omega
                have t13 : (((pk B (o + y)).toNat : Int) == 13) = false := by simp; omega
                generalize pk B (o + y) = c at *
                go_wp2_with fail
                with_reducible refine HRUN.out.mono ?_
                rintro e w' ⟨⟨y3, rfl, hy3⟩, rfl⟩
                obtain ⟨wr, rfl⟩ : ∃ w0 : World, w0 = w' := ⟨_, rfl⟩
                subst hy3
                have hmy : ¬ m = y := by omega
                have hyy : y ≤ y3 := by omega
                have hy3n : y3 ≤ n := by omega
                have hcl : (cutB B (o + y) (y3 - y)).length = y3 - y := cut_len (by omega)
                have HCL := Lib.hid hcl
                have HNW := Lib.hid (byt_cells (w := wr) (a := ⟨db, o + y, none⟩) (l := cutB B (o + y) (y3 - y)) fun j x hj => by
                  have hg := cut_get hj
                  have e : (⟨db, o + y, none⟩ : Addr).add j = ⟨db, o + y + j, none⟩ := by unfold Addr.add; split <;> simp_all
                  rw [e]
                  exact HDr.out.data _ _ hg.1)
                clear hcl
                go_wp2_with (at_builtin; (refine wpList_append_own _ rfl (.tmp 68) (.tmp 72) 22 rfl w.heap.size 5 i0 (.int .u8 0) 1 1 Tryz.underlying22 hi hz0 hz1 hz2 rfl (by decide) u14 acc.length (acc.map byt) rfl HO.out.1 ⟨db, o + y, none⟩ _ _ ((cutB B (o + y) (y3 - y)).map byt) rfl (by have := HCL.out; simp only [List.length_map]; omega) HNW.out (byt_one _) (by unfold maxLen; omega) (by omega) hszr ?_); intro v' w3 hown3 hgrow3 hnil3; have HO3 := Lib.hid (HO.out.app2 (t := (cutB B (o + y) (y3 - y))) (by have := HCL.out; omega) hown3 hnil3); have HG3 := Lib.hid (grow HG.out hgrow3 HO.out.lt); clear hown3 hgrow3 hnil3)
                exact ⟨⟨y3, acc ++ cutB B (o + y) (y3 - y), u', rfl, HO3.out, HG3.out, by rw [List.length_append, HCL.out]; omega, HUT.out.2, by rw [HT.out, HUT.out.1, List.append_assoc, show o + y3 - (o + y) = y3 - y by omega]⟩, by show B.length - (intOf (.int .i64 (y3 : Int))).toNat < B.length - (intOf (.int .i64 (y : Int))).toNat; simp only [intOf]; omega⟩
            · have hpl := (sgN_cases hsg).resolve_right hhi
              rw [sgN_plain hpl] at hu' hut
              have hone : cutB B (o + y) 1 = [pk B (o + y)] := by
                unfold cutB
                rw [drop_pk hin]
                rfl
              rw [hone] at hu'
              have HUT := Lib.hid (And.intro hu' hut)
              clear hu' hut hone HU hsg hln h3q
              by_cases h9 : pk B (o + y) = 9
              · as_aux_lemma =>
                  have t9 := byte_eq h9 (n := 9) rfl
                  have l32 : ¬ 32 ≤ ((pk B (o + y)).toNat : Int) := by rw [h9]; decide
                  clear h9 hpl hhi hqq h92
                  generalize pk B (o + y) = c at *
                  go_wp2_with (at_builtin; (refine wpList_append_own _ rfl (.tmp 307) (.tmp 309) 22 rfl w.heap.size 5 i0 (.int .u8 0) 1 1 Tryz.underlying22 hi hz0 hz1 hz2 rfl (by decide) u14 acc.length (acc.map byt) rfl (HO.out.1.alloc _) ⟨wr.heap.size, 0, none⟩ 1 1 [.int .u8 (c.toNat : Int)] rfl rfl (lit_cell5 _ _ rfl _) (one_byte _) (by unfold maxLen; omega) (by omega) (by simp; omega) ?_); intro v' w3 hown3 hgrow3 hnil3; have HO3 := Lib.hid ((HO.out.alloc (.cells #[.int .u8 (c.toNat : Int)] 5)).one c hown3 hnil3); have HG3 := Lib.hid (grow (gtrans HG.out (World.grownBy_alloc wr (.cells #[.int .u8 (c.toNat : Int)] 5) none)) hgrow3 HO.out.lt); clear hown3 hgrow3 hnil3)
                  exact ⟨⟨y + 1, acc ++ [c], u', rfl, HO3.out, HG3.out, by rw [List.length_append, List.length_singleton]; omega, HUT.out.2, by rw [HT.out, HUT.out.1, List.append_assoc]⟩, by show B.length - (intOf (.int .i64 ((y : Int) + 1 : Int))).toNat < B.length - (intOf (.int .i64 (y : Int))).toNat; simp only [intOf]; omega⟩
              · as_aux_lemma =>
                  have hb := hpl.resolve_left h9
                  clear h9 hpl hhi hqq h92
                  generalize pk B (o + y) = c at *
                  go_wp2_with (at_builtin; (refine wpList_append_own _ rfl (.tmp 294) (.tmp 296) 22 rfl w.heap.size 5 i0 (.int .u8 0) 1 1 Tryz.underlying22 hi hz0 hz1 hz2 rfl (by decide) u14 acc.length (acc.map byt) rfl (HO.out.1.alloc _) ⟨wr.heap.size, 0, none⟩ 1 1 [.int .u8 (c.toNat : Int)] rfl rfl (lit_cell5 _ _ rfl _) (one_byte _) (by unfold maxLen; omega) (by omega) (by simp; omega) ?_); intro v' w3 hown3 hgrow3 hnil3; have HO3 := Lib.hid ((HO.out.alloc (.cells #[.int .u8 (c.toNat : Int)] 5)).one c hown3 hnil3); have HG3 := Lib.hid (grow (gtrans HG.out (World.grownBy_alloc wr (.cells #[.int .u8 (c.toNat : Int)] 5) none)) hgrow3 HO.out.lt); clear hown3 hgrow3 hnil3)
                  exact ⟨⟨y + 1, acc ++ [c], u', rfl, HO3.out, HG3.out, by rw [List.length_append, List.length_singleton]; omega, HUT.out.2, by rw [HT.out, HUT.out.1, List.append_assoc]⟩, by show B.length - (intOf (.int .i64 ((y : Int) + 1 : Int))).toNat < B.length - (intOf (.int .i64 (y : Int))).toNat; simp only [intOf]; omega⟩
end Go.Proofs.YtalmpddmhakdmaaGreat
