/-
  The walk of a function of the parser: a table between braces (79), by the contract of a value. Conditions: the parser lies in memory as stated.
-/
import Derived.Test.YtalmpddmhakdmaaGreatCJ26
import Derived.Deep.RegionHeld3
namespace Go.Proofs.YtalmpddmhakdmaaGreat
open Go.RowKit

theorem skp_skp (B : List UInt8) (i : Nat) : skp B (skp B i) = skp B i := by
  refine skp_stop ?_
  unfold skp
  cases hb : bl (pk B (i + ((B.drop i).takeWhile bl).length)) with
  | false => rfl
  | true =>
    exfalso
    have key : ∀ l : List UInt8, ∀ c, (l.drop (l.takeWhile bl).length).head? = some c → bl c = false := fun l => by
      induction l with
      | nil => intro c h; cases h
      | cons x l ih =>
        intro c h
        by_cases hx : bl x = true
        · rw [List.takeWhile_cons_of_pos hx] at h
          exact ih c h
        · rw [List.takeWhile_cons_of_neg hx] at h
          simp at h
          rw [← h]
          simpa using hx
    have hin : i + ((B.drop i).takeWhile bl).length < B.length := pk_in (by intro e; rw [e] at hb; revert hb; decide)
    have := key (B.drop i) (pk B (i + ((B.drop i).takeWhile bl).length)) (by
      rw [List.drop_drop, List.head?_drop, List.getElem?_eq_getElem hin]
      unfold pk
      rw [List.getD, List.getElem?_eq_getElem hin]
      rfl)
    rw [this] at hb
    cases hb
theorem KyR.skp {B : List UInt8} {i m : Nat} {ks : List (List UInt8)} (h : KyR B (skp B i) m ks) : KyR B i m ks := by
  cases h with
  | last h1 h2 => rw [skp_skp] at h1; exact .last h1 h2
  | more h1 h2 h3 => rw [skp_skp] at h1; exact .more h1 h2 h3
theorem PrR.skp {B : List UInt8} {V : Nat → Nat → Nd → Prop} {i j : Nat} {vs : List Nd} (h : PrR B V (skp B i) j vs) : PrR B V i j vs := by
  cases h with
  | last h1 h2 h3 h4 => exact .last h1.skp h2 h3 h4
  | comma h1 h2 h3 h4 h5 => exact .comma h1.skp h2 h3 h4 h5
theorem PrR.at {B : List UInt8} {V : Nat → Nat → Nd → Prop} {i j : Nat} {vs : List Nd} (h : PrR B V i j vs) : ∃ k n ks v v2, KyR B i k ks ∧ pk B k = 61 ∧ V (YtalmpddmhakdmaaGreat.skp B (k + 1)) n v ∧ vs = v.wk ks :: v2 ∧
    ((pk B (YtalmpddmhakdmaaGreat.skp B n) = 125 ∧ j = YtalmpddmhakdmaaGreat.skp B n + 1 ∧ v2 = []) ∨ (pk B (YtalmpddmhakdmaaGreat.skp B n) = 44 ∧ PrR B V (YtalmpddmhakdmaaGreat.skp B n + 1) j v2)) := by
  cases h with
  | last h1 h2 h3 h4 => exact ⟨_, _, _, _, [], h1, h2, h3, rfl, .inl ⟨h4, rfl, rfl⟩⟩
  | comma h1 h2 h3 h4 h5 => exact ⟨_, _, _, _, _, h1, h2, h3, rfl, .inr ⟨h4, h5⟩⟩
/-- What is left of a table: from a place on, behind a value or not; the values so far, all of them. -/
def TbR (B : List UInt8) (V : Nat → Nat → Nd → Prop) (i j : Nat) (av : Bool) (v1 vs : List Nd) : Prop :=
  (pk B (skp B i) = 125 ∧ j = skp B i + 1 ∧ vs = v1) ∨ (av = true ∧ pk B (skp B i) = 44 ∧ ∃ v2, PrR B V (skp B i + 1) j v2 ∧ vs = v1 ++ v2) ∨ (av = false ∧ ∃ v2, PrR B V i j v2 ∧ vs = v1 ++ v2)
theorem KpR.byte_ne {B : List UInt8} {i j : Nat} {t : List UInt8} (h : KpR B i j t) : pk B i ≠ 125 ∧ pk B i ≠ 10 ∧ pk B i ≠ 13 ∧ pk B i ≠ 35 ∧ pk B i ≠ 44 ∧ pk B i ≠ 91 := by
  have key : pk B i = 34 ∨ pk B i = 39 ∨ bareB (pk B i) = true := by
    rcases h with ⟨q, rfl | rfl, h, _⟩ | ⟨h, _⟩
    · exact .inl h
    · exact .inr (.inl h)
    · refine .inr (.inr ?_)
      cases hb : bareB (pk B i) with
      | true => rfl
      | false => have := bareN_stop hb; omega
  refine ⟨?_, ?_, ?_, ?_, ?_, ?_⟩ <;> intro e <;> rw [e] at key <;> revert key <;> decide
theorem KyR.byte_ne {B : List UInt8} {i m : Nat} {ks : List (List UInt8)} (h : KyR B i m ks) : pk B (YtalmpddmhakdmaaGreat.skp B i) ≠ 125 ∧ pk B (YtalmpddmhakdmaaGreat.skp B i) ≠ 10 ∧ pk B (YtalmpddmhakdmaaGreat.skp B i) ≠ 13 ∧ pk B (YtalmpddmhakdmaaGreat.skp B i) ≠ 35 ∧ pk B (YtalmpddmhakdmaaGreat.skp B i) ≠ 44 ∧ pk B (YtalmpddmhakdmaaGreat.skp B i) ≠ 91 := by
  cases h with
  | last h1 _ => exact h1.byte_ne
  | more h1 _ _ => exact h1.byte_ne
theorem Bx.nel {w : World} {pp db b : Nat} {nv v : Value} (h : Bx w pp db nv b v) : ¬ w.heap.size = b := Nat.ne_of_gt h.sf.1
theorem Bx.ner {w : World} {pp db b : Nat} {nv v : Value} (h : Bx w pp db nv b v) : ¬ b = w.heap.size := Nat.ne_of_lt h.sf.1
theorem grown_drew (w : World) : w.grownBy w.drew none := ⟨rfl, rfl, rfl, Nat.le_refl _, fun _ _ _ => rfl⟩

set_option maxRecDepth 100000 in
set_option maxHeartbeats 8000000 in
theorem tbl_any {d : Nat} (HV : ValC d) {w : World} {pp db C : Nat} {B : List UInt8} {nv : Value} {ns : List PN} {g : Int} {o n m j : Nat} {vs : List Nd} (hP : PS w pp db C B nv ns g) (h1 : o + n = B.length) (h3 : n ≤ m) (h2 : o + m = C) (h123 : pk B o = 123) (hr : TbR B (ValR B d) (o + 1) j false [] vs) (hn : ns.length ≤ o + 100) (hg : 0 ≤ g ∧ g + d ≤ 1000) :
    Calls Tryz.prog 79 #[.pointer (some ⟨pp, 0, none⟩), .slice (some ⟨db, o, none⟩) n m] w (VlQ pp db C B nv ns g o j (d + 1) (.mk 9 [] vs []) w) := by
  have hB := hP.dt.len
  have hin := pk_in (B := B) (k := o) (by rw [h123]; decide)
  have hin0 := hP.in_heap.1
  have HG := Lib.hid hg
  have HRR := Lib.hid hr
  have hin2 : o + 1 < B.length := by
    have hge := skp_ge B (o + 1)
    rcases hr with ⟨h, _⟩ | ⟨h, _⟩ | ⟨_, v2, h, _⟩
    · have := pk_in (B := B) (k := skp B (o + 1)) (by rw [h]; decide)
      omega
    · cases h
    · obtain ⟨_, _, _, _, _, h, _⟩ := h.at
      have := h.in
      omega
  have hb0 := Bx.made hP (.pointer (some ⟨pp, 0, none⟩)) 58
  have hPa := hP.grown (World.grownBy_alloc w (.cells #[.pointer (some ⟨pp, 0, none⟩)] 58) none)
  have hFa := Fr.grown pp nv (World.grownBy_alloc w (.cells #[.pointer (some ⟨pp, 0, none⟩)] 58) none)
  have HB0 := Lib.hid hb0
  have HFA := Lib.hid hFa
  have HPA := Lib.hid hPa
  have hm1 : ¬ m = 1 := by omega
  have hn1 : 1 ≤ n := by omega
  have cb1 := hb0.cell
  have hsza : (w.alloc (.cells #[.pointer (some ⟨pp, 0, none⟩)] 58)).heap.size = w.heap.size + 1 := World.size_alloc _ _
  have HRAW := Lib.hid (show RawAt C B (.slice (some ⟨db, o, none⟩) 1 m) from ⟨_, _, _, o, rfl, h2, hin⟩)
  obtain ⟨wa, hwa⟩ : ∃ wa : World, w.alloc (.cells #[.pointer (some ⟨pp, 0, none⟩)] 58) = wa := ⟨_, rfl⟩
  rw [hwa] at HB0 HFA HPA cb1 hsza
  obtain ⟨b1, hb1⟩ : ∃ b1, w.heap.size = b1 := ⟨_, rfl⟩
  rw [hb1] at HB0 hsza cb1
  have HPD := Lib.hid (HPA.out.grown (grown_drew wa))
  have HNL := Lib.hid (show ns.length ≤ 300000 by omega)
  clear hP hPa hFa hb0 hr hg
  go_enter Tryz.func79, Tryz.ntmps79
  go_upto_region 1 with fail
  go_cut [7] from 20 to 26 (fun v wx => ∃ (b2 : Nat) (h0 : Int) (nv1 : Value) (ox lx : Int), v = .pointer (some ⟨b2, 0, none⟩) ∧ h0 = (ns.length : Int) + 1 ∧ PS wx pp db C B nv1 (ns ++ [⟨7, ox, lx, .slice none 0 0, 0, 0⟩]) g ∧ Fr wa wx pp nv nv1 ∧ Bx wx pp db nv1 b1 (.pointer (some ⟨pp, 0, none⟩)) ∧ Bx wx pp db nv1 b2 (.int .i32 h0) ∧ b1 < b2)
  case first =>
    have HBD := Lib.hid (HB0.out.fr (Fr.grown pp nv (grown_drew wa)))
    have hgw : wa.grownBy (wa.alloc (.cells #[.int .i32 0] 21)).drew none := gtrans (World.grownBy_alloc wa _ none) (grown_drew _)
    have HPW := Lib.hid (HPA.out.grown hgw)
    have HFW := Lib.hid (Fr.grown pp nv hgw)
    have HBW := Lib.hid (HB0.out.fr (Fr.grown pp nv hgw))
    have HMW := Lib.hid ((Bx.made HPA.out (.int .i32 0) 21).fr (Fr.grown pp nv (grown_drew _)))
    clear hgw
    have hxa : ¬ wa.heap.size = b1 := by omega
    have hya : ¬ b1 = wa.heap.size := by omega
    have hmI : (1 : Int) ≤ (m : Int) := by omega
    have HSZA := Lib.hid hsza
    clear hsza
    have hnn : ((ns.length + 1 : Nat) : Int) = (ns.length : Int) + 1 := rfl
    go_region_held3 (fun w' => w'.cell? ⟨b1, 0, none⟩ = some (.pointer (some ⟨pp, 0, none⟩))) (go_keep) (first | (go_at_call 39; first | (with_reducible refine (range_any HPD.out HRAW.out).mono ?_; rintro e w5 ⟨⟨ox, lx, rfl⟩, hg5⟩; have HP5 := Lib.hid (HPD.out.grown hg5); have HF5 := Lib.hid ((Fr.grown pp nv (grown_drew wa)).trans (Fr.grown pp nv hg5)); have HB5 := Lib.hid (HBD.out.fr (Fr.grown pp nv hg5)); have cb5 := HB5.out.cell; have hx5 := HB5.out.nel; have hy5 := HB5.out.ner; have HM5 := Lib.hid (Bx.made HP5.out (.int .i32 0) 21); clear hg5) | (with_reducible refine (range_any HPW.out HRAW.out).mono ?_; rintro e w5 ⟨⟨ox, lx, rfl⟩, hg5⟩; have HP5 := Lib.hid (HPW.out.grown hg5); have HF5 := Lib.hid (HFW.out.trans (Fr.grown pp nv hg5)); have HB5 := Lib.hid (HBW.out.fr (Fr.grown pp nv hg5)); have cb5 := HB5.out.cell; have HM5 := Lib.hid (HMW.out.fr (Fr.grown pp nv hg5)); clear hg5)) | (go_at_call 38; first | (with_reducible refine (push_to HP5.out HNL.out 7 ox lx (.slice none 0 0) rfl).mono ?_; rintro e w6 ⟨nv6, rfl, hP6, hF6⟩; have HP6 := Lib.hid hP6; have HF6 := Lib.hid (HF5.out.trans hF6); have HB6 := Lib.hid (HB5.out.fr hF6); (try have cm6 := (HM5.out.fr hF6).cell); (try have fm6 := (HM5.out.fr hF6).fz); (try have HM6 := Lib.hid (HM5.out.fr hF6)); have cb6 := HB6.out.cell; have hx6 := HB6.out.nel; have hy6 := HB6.out.ner; clear hP6 hF6) | (with_reducible refine (push_to (HP5.out.grown (World.grownBy_alloc w5 _ none)) HNL.out 7 ox lx (.slice none 0 0) rfl).mono ?_; rintro e w6 ⟨nv6, rfl, hP6, hF6⟩; have HP6 := Lib.hid hP6; have HF6 := Lib.hid ((HF5.out.trans (Fr.grown pp nv (World.grownBy_alloc w5 (.cells #[.int .i32 0] 21) none))).trans hF6); have HB6 := Lib.hid ((HB5.out.fr (Fr.grown pp nv (World.grownBy_alloc w5 (.cells #[.int .i32 0] 21) none))).fr hF6); have HM6 := Lib.hid (HM5.out.fr hF6); have cb6 := HB6.out.cell; have hx6 := HB6.out.nel; have hy6 := HB6.out.ner; have cm6 := HM6.out.cell; have fm6 := HM6.out.fz; clear hP6 hF6)))
    · go_wp2_with fail
      go_meet
      exact ⟨w6.heap.size, _, nv6, ox, lx, rfl, rfl, HP6.out.grown (World.grownBy_alloc w6 _ none), HF6.out.trans (Fr.grown pp nv6 (World.grownBy_alloc w6 _ none)), HB6.out.fr (Fr.grown pp nv6 (World.grownBy_alloc w6 _ none)), Bx.made HP6.out _ 21, HB6.out.sf.1⟩
    · go_wp2_with fail
      go_meet
      exact ⟨w5.heap.size, _, nv6, ox, lx, rfl, rfl, HP6.out.box HM6.out _, HF6.out.new HF5.out.size _, HB6.out.other hy5 0 _, HM6.out.set _, HB5.out.sf.1⟩
    · go_wp2_with fail
      go_meet
      exact ⟨wa.heap.size, _, nv6, ox, lx, rfl, rfl, HP6.out.box HM6.out _, HF6.out.new (Nat.le_refl _) _, HB6.out.other hya 0 _, HM6.out.set _, HB0.out.sf.1⟩
  case rest =>
    obtain ⟨b2, h0, nv1, ox, lx, rfl, hh0, hP1, hF1, hB1, hB2, hb12⟩ := hcut
    obtain ⟨w1, hw1⟩ : ∃ w1 : World, w1 = wc := ⟨_, rfl⟩
    rw [← hw1] at hP1 hF1 hB1 hB2 ⊢
    clear hw1 HRAW HPA HPD HNL
    have HH0 := Lib.hid hh0
    have hsz1 := hF1.size
    have hb2w := hB2.sf.1
    have hF3 := Fr.grown pp nv1 (World.grownBy_alloc w1 (.cells #[.int .i32 0] 21) none)
    have hP3 := hP1.grown (World.grownBy_alloc w1 (.cells #[.int .i32 0] 21) none)
    have hsz3 : (w1.alloc (.cells #[.int .i32 0] 21)).heap.size = w1.heap.size + 1 := World.size_alloc _ _
    have HST := Lib.hid (show ArL (fun M ns a b v => KvN M (VlN M ns d) ns a b v) 7 (fun i av v1 => TbR B (ValR B d) i j av v1 vs) w pp db C B nv ns g o b1 b2 w1.heap.size (w1.heap.size + 1) h0 (.slice (some ⟨db, o + 1, none⟩) (n - 1) (m - 1)) (.bool false) (w1.alloc (.cells #[.int .i32 0] 21)) from
      ⟨o + 1, false, nv1, _, [], 0, ⟨7, ox, lx, .slice none 0 0, 0, 0⟩, rfl, ⟨_, _, _, rfl, by omega, by omega, by omega, fun _ => rfl⟩, hP3, HFA.out.trans (hF1.trans hF3), Nat.le_of_eq hsz3.symm, Pre.app ns _, hB1.fr hF3, hB2.fr hF3, Bx.made hP1 (.int .i32 0) 21, ⟨by simp, rfl, rfl, rfl⟩, .inl ⟨rfl, rfl, by simp⟩, by simp; omega, HRR.out⟩)
    have hbw : w.heap.size ≤ w1.heap.size := by omega
    have hbw2 : w.heap.size ≤ w1.heap.size + 1 := by omega
    clear hh0 hP1 hF1 hB1 hB2 hF3 hP3 hsz3 hsz1 hsza hb1 hwa HB0 HFA cb1
    go_wp2_with fail
    go_loopw [1, 12] (fun u1 u12 wr => ArL (fun M ns a b v => KvN M (VlN M ns d) ns a b v) 7 (fun i av v1 => TbR B (ValR B d) i j av v1 vs) w pp db C B nv ns g o b1 b2 w1.heap.size (w1.heap.size + 1) h0 u1 u12 wr) (fun u1 _ _ => lenOf u1)
    case atStart => exact HST.out
    case round =>
      obtain ⟨i, av, nvr, nsr, v1, la, r, rfl, hv1, hPr, hFr, hbr, hpre, hx1, hx2, hx3, hroot, hA, hlen, hL⟩ := hrel
      have hcs := hL
      have hv1l := hv1.lenOf
      have hsk := skp_ge B i
      obtain ⟨s, hs⟩ : ∃ s, skp B i = s := ⟨_, rfl⟩
      have HSK := Lib.hid (skip_any hPr.dt hv1)
      rw [hs] at HSK hsk
      have hsl2 : s < B.length := by
        rw [← hs]
        rcases hcs with ⟨h, _⟩ | ⟨_, h, _⟩ | ⟨_, v2, h, _⟩
        · exact pk_in (by rw [h]; decide)
        · exact pk_in (by rw [h]; decide)
        · obtain ⟨_, _, _, _, _, h, _⟩ := h.at
          exact h.in
      have HIS := Lib.hid hs
      unfold TbR at hcs
      rw [hs] at hcs
      have HCS := Lib.hid hcs
      have HPR := Lib.hid hPr
      have HFR := Lib.hid hFr
      have HPRE := Lib.hid hpre
      have HX1 := Lib.hid hx1
      have HX2 := Lib.hid hx2
      have HX3 := Lib.hid hx3
      have HROOT := Lib.hid hroot
      have HAI := Lib.hid hA
      have HV1L := Lib.hid hv1l
      have c1 := hx1.cell
      have c2 := hx2.cell
      clear hL hcs hPr hFr hpre hx1 hx2 hx3 hroot hA hv1l hv1 hs HST
      go_wp2_with fail
      with_reducible refine HSK.out.mono ?_
      rintro e w' ⟨⟨v2, rfl, hv2⟩, hw'⟩
      rw [hw']
      clear hw' w' HSK
      obtain ⟨o2, n2, m2, rfl, g1, g2, g3, g4⟩ := hv2
      have hn2 : 0 < n2 := by omega
      have ho := (g4 hn2).symm
      subst ho
      have hc := HPR.out.dt.pk (i := s) hsl2
      clear g4
      rcases HCS.out with ⟨h125, rfl, rfl⟩ | ⟨rfl, h44, v2, hit, hvs⟩ | ⟨rfl, v2, hpr, hvs⟩
      · rw [h125] at hc
        clear h125
        go_wp2_with fail
        go_quiet (fail)
        all_goals go_wp2_with fail
        all_goals
          go_ret3
          have hFq : Fr wr (wr.drewN nq) pp nvr nvr := Fr.grown pp nvr (grown_drewN wr nq)
          have hPq := HPR.out.grown (grown_drewN wr nq)
          have hAq := (HAI.out.same (itp_kv d) (M' := DtN w.heap.size db (wr.drewN nq) pp nvr) fun v t hm => hFq.dtn (hm.weak (by omega)))
          refine VlQ.mk h0 _ r hPq HH0.out rfl (At.mk _ _ _ rfl (by omega) (by omega) (by omega) (by omega)) (HFR.out.trans hFq) HPRE.out ⟨r, HROOT.out.1, HROOT.out.2.1, .inr (.inr ⟨rfl, hAq.part HROOT.out.2.2.2⟩)⟩ HROOT.out.1 HROOT.out.2.2.1 (by omega)
      · rw [h44] at hc
        have HIT := Lib.hid hit
        have HVS := Lib.hid hvs
        have hm1 : ¬ m2 = 1 := by
          intro e
          obtain ⟨_, _, _, _, _, h, _⟩ := hit.at
          have := h.in
          have := skp_ge B (s + 1)
          omega
        clear h44 hit hvs
        go_wp2_with fail
        refine ⟨⟨s + 1, false, nvr, nsr, v1, la, r, rfl, At.mk _ _ _ rfl (by omega) (by omega) (by omega) (fun _ => rfl), HPR.out, HFR.out, hbr, HPRE.out, HX1.out, HX2.out, HX3.out, HROOT.out, HAI.out, by omega, .inr (.inr ⟨rfl, v2, HIT.out, HVS.out⟩)⟩, ?_⟩
        have := HV1L.out
        show n2 - 1 < _
        omega
      · obtain ⟨k3, n3, ks, v, v3, hky, h61, hval, hv2, hnext⟩ := hpr.at
        have hbn := hky.byte_ne
        rw [HIS.out] at hbn
        have t1 := byte_ne hbn.1 (n := 125) rfl
        have t2 := byte_ne hbn.2.1 (n := 10) rfl
        have t3 := byte_ne hbn.2.2.1 (n := 13) rfl
        have t4 := byte_ne hbn.2.2.2.1 (n := 35) rfl
        have t5 := byte_ne hbn.2.2.2.2.1 (n := 44) rfl
        have hfol : Fol B n3 := by
          rcases hnext with ⟨h, _⟩ | ⟨h, _⟩
          · exact .inr (.inr (.inr (.inr (.inr (.inr h)))))
          · exact .inr (.inr (.inr (.inr (.inl h))))
        have HVC := Lib.hid (keyval_any HV (w := wr) (v := .slice (some ⟨db, s, none⟩) n2 m2) HPR.out (by rw [HIS.out]; exact ⟨_, _, _, rfl, g1, g2, g3, fun _ => rfl⟩) hky h61 hval hfol (by omega) HG.out)
        have HNX := Lib.hid (show TbR B (ValR B d) n3 j true (v1 ++ [v.wk ks]) vs by
          rw [hvs, hv2]
          rcases hnext with ⟨h, rfl, rfl⟩ | ⟨h, h2⟩
          · exact .inl ⟨h, rfl, rfl⟩
          · exact .inr (.inl ⟨rfl, h, v3, h2, by simp⟩))
        clear hpr hky h61 hval hv2 hnext hbn hfol hvs
        generalize pk B s = c at *
        go_wp2_with fail
        with_reducible refine HVC.out.mono ?_
        rintro e w2 ⟨hh, nv2, ns2, rest, y, hhh, rfl, hrest, hP2, hF2, hpre2, hvl, hy, hy0, hl2⟩
        have hlt2 := (KvN.lt hvl)
        obtain ⟨gb, cap, hnv2, _⟩ := hP2.lt (by omega)
        subst hnv2
        have hsw := HFR.out.size
        have hN := (List.getElem?_eq_some_iff.1 HROOT.out.1).1
        have hadd := ArL.add (itp_kv d) (kd := 7) (o := o) (L := fun i av v1 => TbR B (ValR B d) i j av v1 vs) (n := n3) HFR.out hbr HPRE.out HX1.out HX2.out HX3.out (by omega) (by omega) (by omega) (by omega) HROOT.out HAI.out (i := i) (by omega) hhh hrest hP2 hF2 hpre2 hvl hy hy0 hl2 HNX.out
        obtain ⟨p, q, x, k, hx, rfl, hk, hpk, harl⟩ := hadd
        have HARL := Lib.hid harl
        have hrl := hrest.lenOf
        have hB1 := HX1.out.fr hF2
        have hB2 := HX2.out.fr hF2
        have hB3 := HX3.out.fr hF2
        have hns2 : ns2.length ≤ 200000 := by omega
        have hsn3 : i < n3 := by omega
        rcases hpk with ⟨rfl, rfl, rfl⟩ | ⟨hla, rfl⟩
        · have HAPP := Lib.hid (app88_first (h := hh) hP2 hB1 hB2 hB3 HH0.out hx (by omega))
          clear harl hB1 hB2 hB3 hP2 hF2 hpre2 hvl hy hy0 hl2 hrest hhh HVC hx
          go_wp2_with fail
          with_reducible refine HAPP.out.mono ?_
          rintro e w' ⟨rfl, hw'⟩
          rw [hw']
          clear hw' w'
          go_wp2_with fail
          refine ⟨HARL.out, ?_⟩
          have := HV1L.out
          show lenOf rest < _
          omega
        · have HAPP := Lib.hid (app88_next (h := hh) (b2 := b2) hP2 hB1 hB3 hla hx (by have := (List.getElem?_eq_some_iff.1 hx).1; omega))
          clear harl hB1 hB2 hB3 hP2 hF2 hpre2 hvl hy hy0 hl2 hrest hhh HVC hx hla
          go_wp2_with fail
          with_reducible refine HAPP.out.mono ?_
          rintro e w' ⟨rfl, hw'⟩
          rw [hw']
          clear hw' w'
          go_wp2_with fail
          refine ⟨HARL.out, ?_⟩
          have := HV1L.out
          show lenOf rest < _
          omega
end Go.Proofs.YtalmpddmhakdmaaGreat

/-
  The walk of a function of the parser: a value (70), by the contracts of lists and tables; every value at each depth. Conditions: the parser lies in memory as stated; behind the value stands what may.
-/
namespace Go.Proofs.YtalmpddmhakdmaaGreat
open Go.RowKit

theorem PS.setNest {w : World} {pp db C : Nat} {B : List UInt8} {nv : Value} {ns : List PN} {g : Int} (h : PS w pp db C B nv ns g) (g' : Int) : PS (w.setCell ⟨pp, 5, none⟩ (.int .i64 g')) pp db C B nv ns g' ∧ Fr w (w.setCell ⟨pp, 5, none⟩ (.int .i64 g')) pp nv nv := by
  have hb : ∀ b, b ≠ pp → (w.setCell ⟨pp, 5, none⟩ (.int .i64 g')).heap[b]? = w.heap[b]? := fun b hb => Below.heap_setCell w _ _ b hb
  have hc : ∀ j v, j ≠ 5 → w.cell? ⟨pp, j, none⟩ = some v → (w.setCell ⟨pp, 5, none⟩ (.int .i64 g')).cell? ⟨pp, j, none⟩ = some v := fun j v hj hv => (World.cell?_setCell_other w _ _ _ (by simp; try omega)).trans hv
  have hf : ∀ j, w.frozen? ⟨pp, j, none⟩ = false → (w.setCell ⟨pp, 5, none⟩ (.int .i64 g')).frozen? ⟨pp, j, none⟩ = false := fun j hv => by rw [World.frozen?_setCell]; exact hv
  refine ⟨⟨h.dt.of fun _ => hb db h.ne1, hc _ _ (by decide) h.keep, hc _ _ (by decide) h.data, hc _ _ (by decide) h.nodes, World.cell?_setCell_same w _ _ h.nest, hf _ h.f3, hf _ h.f5, ?_, h.ne1, h.ne2, h.ne3, h.cap, h.capm, by rw [World.size_setCell]; exact h.dbh, h.one, h.lf.elim fun v hv => ⟨v, hc _ _ (by decide) hv⟩, hf _ h.f2, hc _ _ (by decide) h.er⟩,
    ⟨rfl, rfl, rfl, by rw [World.size_setCell]; exact Nat.le_refl _, fun b _ h1 _ => hb b h1, .inl rfl⟩⟩
  exact World.ownsRow.kept h.own (row := some pp) ⟨rfl, rfl, rfl, by simp [World.setCell], fun k _ hne => hb k (fun e => hne (by rw [e]))⟩ (.inr h.ne2)

set_option maxRecDepth 100000 in
set_option maxHeartbeats 4000000 in
theorem val_arr {w : World} {pp db C : Nat} {B : List UInt8} {nv : Value} {ns : List PN} {g : Int} {o n m j d : Nat} {x : Nd} (hP : PS w pp db C B nv ns g) (h1 : o + n = B.length) (hc : pk B o = 91) (hg : 0 ≤ g ∧ g + d ≤ 1000)
    (hS : ∀ w1 : World, PS w1 pp db C B nv ns (g + 1) → Calls Tryz.prog 78 #[.pointer (some ⟨pp, 0, none⟩), .slice (some ⟨db, o, none⟩) n m] w1 (VlQ pp db C B nv ns (g + 1) o j d x w1)) :
    Calls Tryz.prog 70 #[.pointer (some ⟨pp, 0, none⟩), .slice (some ⟨db, o, none⟩) n m] w (VlQ pp db C B nv ns g o j d x w) := by
  have hin := pk_in (B := B) (k := o) (by rw [hc]; decide)
  have hl := hP.dt.len
  have hc0 := hP.dt.pk (i := o) hin
  rw [hc] at hc0
  have hn0 : 0 < n := by omega
  have hnest := hP.nest
  have hf5 := hP.f5
  have H1 := Lib.hid (hP.setNest (g + 1))
  have HS := Lib.hid (hS _ H1.out.1)
  have hg1 : g < 10000 := by omega
  have hg0 : 0 ≤ g := hg.1
  clear hP hS hc
  go_enter Tryz.func70, Tryz.ntmps70
  go_wp2_with fail
  with_reducible refine HS.out.mono ?_
  rintro e w2 ⟨h, nv', ns', rest, y, hh, rfl, hrest, hP2, hF2, hpre, hvl, hy, hy0, hl2⟩
  have hnest2 := hP2.nest
  have hf52 := hP2.f5
  have HH := Lib.hid hh
  have H3 := Lib.hid (hP2.setNest g)
  have H2 := Lib.hid (And.intro hrest (And.intro hF2 (And.intro hpre (And.intro hvl (And.intro hy (And.intro hy0 hl2))))))
  clear hh hrest hP2 hF2 hpre hvl hy hy0 hl2 HS hnest hf5
  go_wp2_with fail
  go_ret3
  refine VlQ.mk h rest y H3.out.1 HH.out rfl H2.out.1 (H1.out.2.trans (H2.out.2.1.trans H3.out.2)) H2.out.2.2.1 (H2.out.2.2.2.1.same (fun v t hm => H3.out.2.dtn (hm.weak ?_)) (.of rfl) fun _ _ _ => rfl) H2.out.2.2.2.2.1 H2.out.2.2.2.2.2.1 H2.out.2.2.2.2.2.2
  rw [World.size_setCell]
  exact Nat.le_refl _
set_option maxRecDepth 100000 in
set_option maxHeartbeats 4000000 in
theorem val_tbl {w : World} {pp db C : Nat} {B : List UInt8} {nv : Value} {ns : List PN} {g : Int} {o n m j d : Nat} {x : Nd} (hP : PS w pp db C B nv ns g) (h1 : o + n = B.length) (hc : pk B o = 123) (hg : 0 ≤ g ∧ g + d ≤ 1000)
    (hS : ∀ w1 : World, PS w1 pp db C B nv ns (g + 1) → Calls Tryz.prog 79 #[.pointer (some ⟨pp, 0, none⟩), .slice (some ⟨db, o, none⟩) n m] w1 (VlQ pp db C B nv ns (g + 1) o j d x w1)) :
    Calls Tryz.prog 70 #[.pointer (some ⟨pp, 0, none⟩), .slice (some ⟨db, o, none⟩) n m] w (VlQ pp db C B nv ns g o j d x w) := by
  have hin := pk_in (B := B) (k := o) (by rw [hc]; decide)
  have hl := hP.dt.len
  have hc0 := hP.dt.pk (i := o) hin
  rw [hc] at hc0
  have hn0 : 0 < n := by omega
  have hnest := hP.nest
  have hf5 := hP.f5
  have H1 := Lib.hid (hP.setNest (g + 1))
  have HS := Lib.hid (hS _ H1.out.1)
  have hg1 : g < 10000 := by omega
  have hg0 : 0 ≤ g := hg.1
  clear hP hS hc
  go_enter Tryz.func70, Tryz.ntmps70
  go_wp2_with fail
  with_reducible refine HS.out.mono ?_
  rintro e w2 ⟨h, nv', ns', rest, y, hh, rfl, hrest, hP2, hF2, hpre, hvl, hy, hy0, hl2⟩
  have hnest2 := hP2.nest
  have hf52 := hP2.f5
  have HH := Lib.hid hh
  have H3 := Lib.hid (hP2.setNest g)
  have H2 := Lib.hid (And.intro hrest (And.intro hF2 (And.intro hpre (And.intro hvl (And.intro hy (And.intro hy0 hl2))))))
  clear hh hrest hP2 hF2 hpre hvl hy hy0 hl2 HS hnest hf5
  go_wp2_with fail
  go_ret3
  refine VlQ.mk h rest y H3.out.1 HH.out rfl H2.out.1 (H1.out.2.trans (H2.out.2.1.trans H3.out.2)) H2.out.2.2.1 (H2.out.2.2.2.1.same (fun v t hm => H3.out.2.dtn (hm.weak ?_)) (.of rfl) fun _ _ _ => rfl) H2.out.2.2.2.2.1 H2.out.2.2.2.2.2.1 H2.out.2.2.2.2.2.2
  rw [World.size_setCell]
  exact Nat.le_refl _

/-- The contract of a text of several lines in double quotes, as a value. -/
def L34 : Prop := ∀ (w : World) (pp db C : Nat) (B : List UInt8) (nv : Value) (ns : List PN) (g : Int) (o n m j : Nat) (t : List UInt8), PS w pp db C B nv ns g → o + n = B.length → n ≤ m → o + m = C → ns.length ≤ 300000 → three 34 B o → LnR 34 B (o + 3 + lnN B (o + 3)) j t → pk B j ≠ 34 →
  Calls Tryz.prog 70 #[.pointer (some ⟨pp, 0, none⟩), .slice (some ⟨db, o, none⟩) n m] w (OnP pp db C B nv ns g j 8 t w)
theorem val_sc (HL : L34) {w : World} {pp db C : Nat} {B : List UInt8} {nv : Value} {ns : List PN} {g : Int} {o n m j : Nat} {x : Nd} (hP : PS w pp db C B nv ns g) (h1 : o + n = B.length) (h3 : n ≤ m) (h2 : o + m = C) (hn : ns.length ≤ 300000) (hr : ScR B o j x) (hf : Fol B j) (d : Nat) :
    Calls Tryz.prog 70 #[.pointer (some ⟨pp, 0, none⟩), .slice (some ⟨db, o, none⟩) n m] w (VlQ pp db C B nv ns g o j (d + 1) x w) := by
  cases hr with
  | lines hq h3q hr =>
    have hlen := hr.len (by rcases hq with rfl | rfl <;> decide)
    rcases hq with rfl | rfl
    · exact (HL w pp db C B nv ns g o n m j _ hP h1 h3 h2 hn h3q hr (hf.ne (by decide))).mono fun e w' h => h.vl (kind := 0) rfl (by decide) (by decide) (by omega)
    · exact (val_lines39 hP h1 h3 h2 hn h3q hr (hf.ne (by decide))).mono fun e w' h => h.vl (kind := 0) rfl (by decide) (by decide) (by omega)
  | text hq hpq h3q hr =>
    have hlen := hr.len
    rcases hq with rfl | rfl
    · exact (val_text34 hP h1 h3 h2 hn hpq h3q hr).mono fun e w' h => h.vl (kind := 0) rfl (by decide) (by decide) (by omega)
    · exact (val_text39 hP h1 h3 h2 hn hpq h3q hr).mono fun e w' h => h.vl (kind := 0) rfl (by decide) (by decide) (by omega)
  | yes g0 g1 g2 g3 => exact (val_true hP h1 h3 h2 hn g0 g1 g2 g3).mono fun e w' h => h.vl (kind := 3) rfl (by decide) (by decide) (by omega)
  | no g0 g1 g2 g3 g4 => exact (val_false hP h1 h3 h2 hn g0 g1 g2 g3 g4).mono fun e w' h => h.vl (kind := 3) rfl (by decide) (by decide) (by omega)
  | num hr => exact val_num hP h1 h3 h2 hn hr hf d
theorem val_all (HL : L34) : ∀ d, ValC d := fun d => by
  induction d with
  | zero => exact fun w pp db C B nv ns g i j x v _ _ h _ _ _ => h.elim
  | succ d ih =>
    intro w pp db C B nv ns g i j x v hP hv hr hf hn hg
    have hb := hr.byte.1
    have hlB := hP.dt.len
    obtain ⟨o, n, m, rfl, h1, h2, h3, h4⟩ := hv
    have ho := (h4 (by omega)).symm
    subst ho
    have hg' : 0 ≤ g + 1 ∧ (g + 1) + (d : Int) ≤ 1000 := by have := hg.1; have := hg.2; omega
    rcases hr with hr | ⟨h91, vs, hr, rfl⟩ | ⟨h123, h125, rfl, rfl⟩ | ⟨h123, h125, vs, hr, rfl⟩
    · exact val_sc HL hP h1 h3 h2 (by omega) hr hf d
    · exact val_arr hP h1 h91 (d := d + 1) (by exact hg) fun w1 hP1 => arr_any ih hP1 h1 h3 h2 h91 hr hn hg'
    · exact val_tbl hP h1 h123 (d := d + 1) (by exact hg) fun w1 hP1 => tbl_any ih hP1 h1 h3 h2 h123 (.inl ⟨h125, rfl, rfl⟩) hn hg'
    · exact val_tbl hP h1 h123 (d := d + 1) (by exact hg) fun w1 hP1 => tbl_any ih hP1 h1 h3 h2 h123 (.inr (.inr ⟨rfl, vs, hr.skp, rfl⟩)) hn hg'
end Go.Proofs.YtalmpddmhakdmaaGreat

/-
  The walks of functions of the parser: the end of a line (61), heads of tables (59, 60), expressions (40, 41). Conditions: the parser lies in memory as stated.
-/
namespace Go.Proofs.YtalmpddmhakdmaaGreat
open Go.RowKit

theorem lnN_out {B : List UInt8} {i : Nat} (h : B.length ≤ i) : lnN B i = 0 := by
  unfold lnN
  rw [pk_out h]
  simp

set_option maxRecDepth 100000 in
set_option maxHeartbeats 4000000 in
theorem fin_any {w : World} {pp db C : Nat} {B : List UInt8} {nv : Value} {ns : List PN} {g : Int} {i j : Nat} {v : Value} (r : Int) (hP : PS w pp db C B nv ns g) (hv : At db C B i v) (hr : EndR B i j) :
    Calls Tryz.prog 61 #[.pointer (some ⟨pp, 0, none⟩), .int .i32 r, v] w fun e w' => (∃ v', e = .returned (.tuple #[v', .nilIface]) ∧ At db C B j v') ∧ ∃ q, w' = w.drewN q := by
  obtain ⟨m0, hcm, hend⟩ := hr
  have hj : (B.length ≤ m0 ∨ lnN B m0 ≠ 0) ∧ m0 + lnN B m0 = j := by
    rcases hend with ⟨h, rfl⟩ | ⟨_, h, rfl⟩
    · exact ⟨.inl h, by rw [lnN_out h]; rfl⟩
    · exact ⟨.inr h, rfl⟩
  have hl := hP.dt.len
  have HP := Lib.hid hP
  have HJ := Lib.hid hj
  have HSK := Lib.hid (skip_any hP.dt hv)
  have hk := hP.keep
  obtain ⟨s, hs⟩ : ∃ s, skp B i = s := ⟨_, rfl⟩
  rw [hs] at HSK hcm
  have HCM := Lib.hid hcm
  clear hP hj hend hv hs hcm
  go_enter Tryz.func61, Tryz.ntmps61
  go_wp2_with fail
  with_reducible refine HSK.out.mono ?_
  rintro e w' ⟨⟨v2, rfl, hv2⟩, hw'⟩
  rw [hw']
  clear hw' w' HSK
  obtain ⟨o2, n2, m2, rfl, g1, g2, g3, g4⟩ := hv2
  by_cases hn2 : 0 < n2
  · have ho := (g4 hn2).symm
    subst ho
    have hc := HP.out.dt.pk (i := s) (by omega)
    rcases HCM.out with ⟨h35, hcm⟩ | ⟨h35, hm0⟩
    · have HRM := Lib.hid (remark_any (m := m2) HP.out.dt g1 g3 g2 h35 hcm)
      rw [h35] at hc
      clear h35 hcm g4
      go_wp2_with fail
      with_reducible refine HRM.out.mono ?_
      rintro e w2 ⟨⟨cv, v3, rfl, hv3⟩, nq, rfl⟩
      have HEOL := Lib.hid (eol_any (HP.out.dt.drewN nq) hv3 HJ.out.1)
      rw [HJ.out.2] at HEOL
      clear hv3 HRM
      go_wp2_with fail
      with_reducible refine HEOL.out.mono ?_
      rintro e w' ⟨⟨v4, rfl, hv4⟩, hw'⟩
      rw [hw']
      clear hw' w'
      have HV4 := Lib.hid hv4
      clear hv4
      go_wp2_with fail
      go_ret2
      exact ⟨⟨_, rfl, HV4.out⟩, nq, rfl⟩
    · subst hm0
      have t35 := byte_ne h35 (n := 35) rfl
      have HEOL := Lib.hid (eol_any (v := .slice (some ⟨db, m0, none⟩) n2 m2) HP.out.dt ⟨_, _, _, rfl, g1, g2, g3, fun _ => rfl⟩ HJ.out.1)
      rw [HJ.out.2] at HEOL
      clear h35 g4
      generalize pk B m0 = c at *
      go_wp2_with fail
      with_reducible refine HEOL.out.mono ?_
      rintro e w' ⟨⟨v4, rfl, hv4⟩, hw'⟩
      rw [hw']
      clear hw' w'
      have HV4 := Lib.hid hv4
      clear hv4
      go_wp2_with fail
      go_ret2
      exact ⟨⟨_, rfl, HV4.out⟩, 0, rfl⟩
  · have hn0 : n2 = 0 := by omega
    subst hn0
    have hm0 : m0 = s := by
      rcases HCM.out with ⟨h35, _⟩ | ⟨_, h⟩
      · have := pk_in (B := B) (k := s) (by rw [h35]; decide)
        omega
      · exact h
    subst hm0
    have HEOL := Lib.hid (eol_any (v := .slice (some ⟨db, o2, none⟩) 0 m2) HP.out.dt ⟨_, _, _, rfl, g1, g2, g3, g4⟩ HJ.out.1)
    rw [HJ.out.2] at HEOL
    clear g4
    go_wp2_with fail
    with_reducible refine HEOL.out.mono ?_
    rintro e w' ⟨⟨v4, rfl, hv4⟩, hw'⟩
    rw [hw']
    clear hw' w'
    have HV4 := Lib.hid hv4
    clear hv4
    go_wp2_with fail
    go_ret2
    exact ⟨⟨_, rfl, HV4.out⟩, 0, rfl⟩

/-- A head has been read. -/
def HdQ (pp db C : Nat) (B : List UInt8) (nv : Value) (ns : List PN) (g : Int) (j : Nat) (kd : Int) (ks : List (List UInt8)) (w : World) (e : Ending) (w' : World) : Prop :=
  ∃ (h : Int) (nv' : Value) (ns' : List PN) (rest : Value) (r : PN), h = (ns.length : Int) + 1 ∧ e = .returned (.tuple #[.int .i32 h, rest, .nilIface]) ∧ At db C B j rest ∧ PS w' pp db C B nv' ns' g ∧ Fr w w' pp nv nv' ∧
    ns'[ns.length]? = some r ∧ r.kind = kd ∧ r.child = ((ns.length + 2 : Nat) : Int) ∧ KyN (DtN w.heap.size db w' pp nv') ns' (ns.length + 1) ks ∧ ns'.length ≤ 300000

set_option maxRecDepth 100000 in
set_option maxHeartbeats 4000000 in
theorem hd_any {w : World} {pp db C : Nat} {B : List UInt8} {nv : Value} {ns : List PN} {g : Int} {o n m k : Nat} {ks : List (List UInt8)} (hP : PS w pp db C B nv ns g) (h1 : o + n = B.length) (h3 : n ≤ m) (h2 : o + m = C) (hk : KyR B (o + 1) k ks) (h93 : pk B k = 93) (hn : ns.length ≤ 100000) :
    Calls Tryz.prog 60 #[.pointer (some ⟨pp, 0, none⟩), .slice (some ⟨db, o, none⟩) n m] w (HdQ pp db C B nv ns g (k + 1) 3 ks w) := by
  have hlk := hk.len
  have hki := hk.in
  have hkg := skp_ge B (o + 1)
  have hB := hP.dt.len
  have hkin := pk_in (B := B) (k := k) (by rw [h93]; decide)
  have HK := Lib.hid hk
  have HP := Lib.hid hP
  have H93 := Lib.hid h93
  obtain ⟨N, hN⟩ : ∃ N, ns.length = N := ⟨_, rfl⟩
  have HN := Lib.hid hN
  have HPU := Lib.hid (push_to hP (by omega) 3 0 0 (.slice none 0 0) rfl)
  have hm1 : ¬ m = 1 := by omega
  have hn1 : 1 ≤ n := by omega
  rw [hN] at hn
  clear hP hk h93 hN 
  go_enter Tryz.func60, Tryz.ntmps60
  go_wp2_with fail
  with_reducible refine HPU.out.mono ?_
  rintro e w1 ⟨nv1, rfl, hP1, hF1⟩
  obtain ⟨h0, hh0⟩ : ∃ h0 : Int, ((ns.length + 1 : Nat) : Int) = h0 := ⟨_, rfl⟩
  rw [hh0]
  have HH0 := Lib.hid (show h0 = (N : Int) + 1 by rw [← hh0, HN.out]; rfl)
  have hl1 : (ns ++ [⟨3, 0, 0, .slice none 0 0, 0, 0⟩] : List PN).length = N + 1 := by simp [HN.out]
  have HL1 := Lib.hid hl1
  have HSK := Lib.hid (skip_any (C := C) (i := o + 1) (v := .slice (some ⟨db, o + 1, none⟩) (n - 1) (m - 1)) hP1.dt ⟨_, _, _, rfl, by omega, by omega, by omega, fun _ => rfl⟩)
  have HKY := Lib.hid (fun (v : Value) (hv : At db C B (skp B (o + 1)) v) => pkey_any hP1 hv HK.out (by omega))
  have HF1 := Lib.hid hF1
  have HP1 := Lib.hid hP1
  clear hP1 hF1 HPU hl1 hh0
  go_wp2_with fail
  with_reducible refine HSK.out.mono ?_
  rintro e w' ⟨⟨v3, rfl, hv3⟩, hw'⟩
  rw [hw']
  clear hw' w'
  have HKY2 := Lib.hid (HKY.out v3 hv3)
  clear hv3 HKY HSK
  go_wp2_with fail
  with_reducible refine HKY2.out.mono ?_
  rintro e w2 ⟨h1', nv2, ns2, rest2, hh1, rfl, hrest2, hP2, hF2, hl2, hpre2, hky2⟩
  obtain ⟨o2, n2, m2, rfl, g1, g2, g3, g4⟩ := hrest2
  have hn2 : 0 < n2 := by omega
  have ho := (g4 hn2).symm
  subst ho
  have hc := hP2.dt.pk (i := k) hkin
  rw [H93.out] at hc
  have hlk2 : ns2.length = N + 1 + ks.length := by rw [hl2, HL1.out]
  obtain ⟨gb, cap, hnv2, _⟩ := hP2.lt (by omega)
  subst hnv2
  have hN2 : N < ns2.length := by omega
  have HLB := Lib.hid (show ns2.length ≤ 300000 by omega)
  obtain ⟨r, hr⟩ : ∃ r, ns2[N]? = some r := ⟨_, List.getElem?_eq_getElem hN2⟩
  have hr0 : r = ⟨3, 0, 0, .slice none 0 0, 0, 0⟩ := by
    have e2 := (hpre2 N (by rw [HL1.out]; omega)).symm.trans hr
    rw [List.getElem?_append_right (by have := HN.out; omega), HN.out, Nat.sub_self] at e2
    simpa using e2.symm
  have HA0 := Lib.hid (at_any hP2 (h := h0) N HH0.out hN2 (by omega))
  have c1 := hP2.node hr (k := 6) (by decide) (v := .int .i32 r.child) rfl
  have f1 := hP2.nodeFz (7 * N + 6)
  have HS4 := Lib.hid (hP2.setChild hr h1')
  have HR := Lib.hid (And.intro hr hr0)
  have HKN := Lib.hid (And.intro hh1 (And.intro hpre2 hky2))
  have HF2 := Lib.hid hF2
  clear hr hr0 hh1 hpre2 hky2 hF2 hP2 hl2 g4 HKY2
  go_wp2_with fail
  with_reducible refine HA0.out.mono ?_
  rintro e w' ⟨rfl, hw'⟩
  rw [hw']
  clear hw' w'
  obtain ⟨w4, hw4⟩ : ∃ w4 : World, w2.setCell ⟨gb, 7 * N + 6, none⟩ (.int .i32 h1') = w4 := ⟨_, rfl⟩
  rw [hw4] at HS4
  have hc' := HS4.out.1.dt.pk (i := k) hkin
  rw [H93.out] at hc'
  clear HA0
  go_wp2_with fail
  go_quiet (fail)
  all_goals go_wp2_with fail
  all_goals
    go_ret3
    have hF4 := HS4.out.2.trans (Fr.grown pp _ (grown_drewN w4 nq))
    have hP4 := HS4.out.1.grown (grown_drewN w4 nq)
    have hnl := HN.out
    subst hnl
    refine ⟨h0, _, _, _, { r with child := h1' }, HH0.out, rfl, At.mk _ _ _ rfl (by omega) (by omega) (by omega) (by omega), hP4, HF1.out.trans (HF2.out.trans hF4), List.getElem?_set_self (by omega), by rw [HR.out.2], ?_, ?_, by rw [List.length_set]; exact HLB.out⟩
    · have e1 := HKN.out.1
      have e2 := HL1.out
      rw [e2] at e1
      show h1' = _
      omega
    · have e2 := HL1.out
      have hky := HKN.out.2.2
      rw [e2] at hky
      exact hky.same (fun v t hm => hF4.dtn (hm.weak HF1.out.size)) fun q hq1 hq2 => List.getElem?_set_ne (by omega)

set_option maxRecDepth 100000 in
set_option maxHeartbeats 4000000 in
theorem hds_any {w : World} {pp db C : Nat} {B : List UInt8} {nv : Value} {ns : List PN} {g : Int} {o n m k : Nat} {ks : List (List UInt8)} (hP : PS w pp db C B nv ns g) (h1 : o + n = B.length) (h3 : n ≤ m) (h2 : o + m = C) (hk : KyR B (o + 2) k ks) (h93 : pk B k = 93) (h93b : pk B (k + 1) = 93) (hn : ns.length ≤ 100000) :
    Calls Tryz.prog 59 #[.pointer (some ⟨pp, 0, none⟩), .slice (some ⟨db, o, none⟩) n m] w (HdQ pp db C B nv ns g (k + 2) 4 ks w) := by
  have hlk := hk.len
  have hki := hk.in
  have hkg := skp_ge B (o + 2)
  have hB := hP.dt.len
  have hkin := pk_in (B := B) (k := k) (by rw [h93]; decide)
  have hkin2 := pk_in (B := B) (k := k + 1) (by rw [h93b]; decide)
  have HK := Lib.hid hk
  have HP := Lib.hid hP
  have H93 := Lib.hid h93
  have H93B := Lib.hid h93b
  obtain ⟨N, hN⟩ : ∃ N, ns.length = N := ⟨_, rfl⟩
  have HN := Lib.hid hN
  have HPU := Lib.hid (push_to hP (by omega) 4 0 0 (.slice none 0 0) rfl)
  have hm1 : ¬ m = 2 := by omega
  have hn1 : 2 ≤ n := by omega
  rw [hN] at hn
  clear hP hk h93 hN h93b
  go_enter Tryz.func59, Tryz.ntmps59
  go_wp2_with fail
  with_reducible refine HPU.out.mono ?_
  rintro e w1 ⟨nv1, rfl, hP1, hF1⟩
  obtain ⟨h0, hh0⟩ : ∃ h0 : Int, ((ns.length + 1 : Nat) : Int) = h0 := ⟨_, rfl⟩
  rw [hh0]
  have HH0 := Lib.hid (show h0 = (N : Int) + 1 by rw [← hh0, HN.out]; rfl)
  have hl1 : (ns ++ [⟨4, 0, 0, .slice none 0 0, 0, 0⟩] : List PN).length = N + 1 := by simp [HN.out]
  have HL1 := Lib.hid hl1
  have HSK := Lib.hid (skip_any (C := C) (i := o + 2) (v := .slice (some ⟨db, o + 2, none⟩) (n - 2) (m - 2)) hP1.dt ⟨_, _, _, rfl, by omega, by omega, by omega, fun _ => rfl⟩)
  have HKY := Lib.hid (fun (v : Value) (hv : At db C B (skp B (o + 2)) v) => pkey_any hP1 hv HK.out (by omega))
  have HF1 := Lib.hid hF1
  have HP1 := Lib.hid hP1
  clear hP1 hF1 HPU hl1 hh0
  go_wp2_with fail
  with_reducible refine HSK.out.mono ?_
  rintro e w' ⟨⟨v3, rfl, hv3⟩, hw'⟩
  rw [hw']
  clear hw' w'
  have HKY2 := Lib.hid (HKY.out v3 hv3)
  clear hv3 HKY HSK
  go_wp2_with fail
  with_reducible refine HKY2.out.mono ?_
  rintro e w2 ⟨h1', nv2, ns2, rest2, hh1, rfl, hrest2, hP2, hF2, hl2, hpre2, hky2⟩
  obtain ⟨o2, n2, m2, rfl, g1, g2, g3, g4⟩ := hrest2
  have hn2 : 0 < n2 := by omega
  have ho := (g4 hn2).symm
  subst ho
  have hc := hP2.dt.pk (i := k) hkin
  rw [H93.out] at hc
  have hcb := hP2.dt.pk (i := k + 1) hkin2
  rw [H93B.out] at hcb
  have hn22 : 2 ≤ n2 := by omega
  have hlk2 : ns2.length = N + 1 + ks.length := by rw [hl2, HL1.out]
  obtain ⟨gb, cap, hnv2, _⟩ := hP2.lt (by omega)
  subst hnv2
  have hN2 : N < ns2.length := by omega
  have HLB := Lib.hid (show ns2.length ≤ 300000 by omega)
  obtain ⟨r, hr⟩ : ∃ r, ns2[N]? = some r := ⟨_, List.getElem?_eq_getElem hN2⟩
  have hr0 : r = ⟨4, 0, 0, .slice none 0 0, 0, 0⟩ := by
    have e2 := (hpre2 N (by rw [HL1.out]; omega)).symm.trans hr
    rw [List.getElem?_append_right (by have := HN.out; omega), HN.out, Nat.sub_self] at e2
    simpa using e2.symm
  have HA0 := Lib.hid (at_any hP2 (h := h0) N HH0.out hN2 (by omega))
  have c1 := hP2.node hr (k := 6) (by decide) (v := .int .i32 r.child) rfl
  have f1 := hP2.nodeFz (7 * N + 6)
  have HS4 := Lib.hid (hP2.setChild hr h1')
  have HR := Lib.hid (And.intro hr hr0)
  have HKN := Lib.hid (And.intro hh1 (And.intro hpre2 hky2))
  have HF2 := Lib.hid hF2
  clear hr hr0 hh1 hpre2 hky2 hF2 hP2 hl2 g4 HKY2
  go_wp2_with fail
  with_reducible refine HA0.out.mono ?_
  rintro e w' ⟨rfl, hw'⟩
  rw [hw']
  clear hw' w'
  obtain ⟨w4, hw4⟩ : ∃ w4 : World, w2.setCell ⟨gb, 7 * N + 6, none⟩ (.int .i32 h1') = w4 := ⟨_, rfl⟩
  rw [hw4] at HS4
  have hc' := HS4.out.1.dt.pk (i := k) hkin
  rw [H93.out] at hc'
  have hcb' := HS4.out.1.dt.pk (i := k + 1) hkin2
  rw [H93B.out] at hcb'
  clear HA0
  go_wp2_with fail
  go_quiet (fail)
  all_goals go_wp2_with fail
  all_goals
    go_ret3
    have hF4 := HS4.out.2.trans (Fr.grown pp _ (grown_drewN w4 nq))
    have hP4 := HS4.out.1.grown (grown_drewN w4 nq)
    have hnl := HN.out
    subst hnl
    refine ⟨h0, _, _, _, { r with child := h1' }, HH0.out, rfl, At.mk _ _ _ rfl (by omega) (by omega) (by omega) (by omega), hP4, HF1.out.trans (HF2.out.trans hF4), List.getElem?_set_self (by omega), by rw [HR.out.2], ?_, ?_, by rw [List.length_set]; exact HLB.out⟩
    · have e1 := HKN.out.1
      have e2 := HL1.out
      rw [e2] at e1
      show h1' = _
      omega
    · have e2 := HL1.out
      have hky := HKN.out.2.2
      rw [e2] at hky
      exact hky.same (fun v t hm => hF4.dtn (hm.weak HF1.out.size)) fun q hq1 hq2 => List.getElem?_set_ne (by omega)

/-- An expression's nodes. -/
def ExN (M : Value → List UInt8 → Prop) (ns : List PN) (x : Ex) : Prop :=
  ns.length ≤ 300000 ∧ ((x.kind = 0 ∧ KvN M (VlN M ns 51) ns 0 ns.length (x.val.wk x.keys)) ∨ ((x.kind = 1 ∨ x.kind = 2) ∧ ∃ r, ns[0]? = some r ∧ r.kind = 2 + x.kind ∧ r.child = 2 ∧ KyN M ns 1 x.keys))
/-- An expression has been read. -/
def ExQ (pp db C : Nat) (B : List UInt8) (nv : Value) (g : Int) (j : Nat) (x : Ex) (w : World) (e : Ending) (w' : World) : Prop :=
  ∃ (nv' : Value) (ns' : List PN) (rest : Value), e = .returned (.tuple #[rest, .nilIface]) ∧ At db C B j rest ∧ PS w' pp db C B nv' ns' g ∧ Fr w w' pp nv nv' ∧ ns' ≠ [] ∧ ExN (DtN w.heap.size db w' pp nv') ns' x
theorem ExN.same {M M' : Value → List UInt8 → Prop} {ns : List PN} {x : Ex} (h : ExN M ns x) (hM : ∀ v t, M v t → M' v t) : ExN M' ns x := by
  rcases h with ⟨hl, ⟨h1, h2⟩ | ⟨h1, r, h2, h3, h4, h5⟩⟩
  · exact ⟨hl, .inl ⟨h1, (itp_kv 51).same _ _ _ _ _ _ _ hM h2 (.of rfl) fun _ _ _ => rfl⟩⟩
  · exact ⟨hl, .inr ⟨h1, r, h2, h3, h4, h5.same hM fun _ _ _ => rfl⟩⟩

set_option maxRecDepth 100000 in
set_option maxHeartbeats 4000000 in
theorem ekv_any (HV : ValC 51) {w : World} {pp db C : Nat} {B : List UInt8} {nv : Value} {g : Int} {i k m j : Nat} {x : Nd} {v : Value} {ks : List (List UInt8)} (hP : PS w pp db C B nv [] g) (hv : At db C B (skp B i) v) (hk : KyR B i k ks) (h61 : pk B k = 61) (hx : ValR B 51 (skp B (k + 1)) m x) (he : EndR B m j) (hg : 0 ≤ g ∧ g ≤ 100) :
    Calls Tryz.prog 41 #[.pointer (some ⟨pp, 0, none⟩), v] w (ExQ pp db C B nv g j ⟨0, ks, x⟩ w) := by
  have HKV := Lib.hid (keyval_any HV hP hv hk h61 hx he.fol (by simp) ⟨hg.1, by have := hg.2; omega⟩)
  have HE := Lib.hid he
  clear hP hv hk h61 hx he hg
  go_enter Tryz.func41, Tryz.ntmps41
  go_wp2_with fail
  with_reducible refine HKV.out.mono ?_
  rintro e w2 ⟨h, nv2, ns2, rest, y, hh, rfl, hrest, hP2, hF2, hpre2, hkv, hy, hy0, hl2⟩
  have HLB := Lib.hid (show ns2.length ≤ 300000 by
    have q1 := hP2.dt.len
    obtain ⟨_, _, _, _, q2, _⟩ := hrest
    have q3 : ns2.length + i ≤ 0 + m := hl2
    omega)
  have HFI := Lib.hid (fin_any h hP2 hrest HE.out)
  have HP2 := Lib.hid hP2
  have HF2 := Lib.hid hF2
  have H2 := Lib.hid (And.intro hkv hy)
  clear hh hrest hP2 hF2 hpre2 hkv hy hy0 hl2 HKV
  go_wp2_with fail
  with_reducible refine HFI.out.mono ?_
  rintro e w3 ⟨⟨v', rfl, hv'⟩, nq, rfl⟩
  have HV' := Lib.hid hv'
  clear hv' HFI
  go_wp2_with fail
  go_ret2
  have hF3 := Fr.grown pp nv2 (grown_drewN w2 nq)
  exact ⟨nv2, ns2, _, rfl, HV'.out, HP2.out.grown (grown_drewN w2 nq), HF2.out.trans hF3, (fun e => by have := H2.out.2; rw [e] at this; cases this), HLB.out, .inl ⟨rfl, (itp_kv 51).same _ _ _ _ _ _ _ (fun v t hm => hF3.dtn hm) H2.out.1 (.of rfl) fun _ _ _ => rfl⟩⟩

set_option maxRecDepth 100000 in
set_option maxHeartbeats 4000000 in
theorem etb_any {w : World} {pp db C : Nat} {B : List UInt8} {nv : Value} {g : Int} {o n m k j : Nat} {ks : List (List UInt8)} (hP : PS w pp db C B nv [] g) (h1 : o + n = B.length) (h3 : n ≤ m) (h2 : o + m = C) (h91b : pk B (o + 1) ≠ 91) (hk : KyR B (o + 1) k ks) (h93 : pk B k = 93) (he : EndR B (k + 1) j) :
    Calls Tryz.prog 40 #[.pointer (some ⟨pp, 0, none⟩), .slice (some ⟨db, o, none⟩) n m] w (ExQ pp db C B nv g j ⟨1, ks, Nd.none⟩ w) := by
  have HHD := Lib.hid (hd_any hP h1 h3 h2 hk h93 (by simp))
  have HE := Lib.hid he
  have hki := hk.in
  have hkg := skp_ge B (o + 1)
  have hB := hP.dt.len
  have hc := hP.dt.pk (i := o + 1) (by omega)
  have t91 := byte_ne h91b (n := 91) rfl
  have hn2 : 1 < n := by omega
  clear hP hk h93  he h91b
  generalize pk B (o + 1) = c at *
  go_enter Tryz.func40, Tryz.ntmps40
  go_wp2_with fail
  with_reducible refine HHD.out.mono ?_
  rintro e w2 ⟨h, nv2, ns2, rest, r, hh, rfl, hrest, hP2, hF2, hr, hr1, hr2, hky, hlb⟩
  have HLB := Lib.hid hlb
  clear hlb
  have HFI := Lib.hid (fin_any h hP2 hrest HE.out)
  have HP2 := Lib.hid hP2
  have HF2 := Lib.hid hF2
  have H2 := Lib.hid (And.intro hr (And.intro hr1 (And.intro hr2 hky)))
  clear hh hrest hP2 hF2 hr hr1 hr2 hky HHD
  go_wp2_with fail
  with_reducible refine HFI.out.mono ?_
  rintro e w3 ⟨⟨v', rfl, hv'⟩, nq, rfl⟩
  have HV' := Lib.hid hv'
  clear hv' HFI
  go_wp2_with fail
  go_ret2
  have hF3 := Fr.grown pp nv2 (grown_drewN w2 nq)
  exact ⟨nv2, ns2, _, rfl, HV'.out, HP2.out.grown (grown_drewN w2 nq), HF2.out.trans hF3, (fun e => by have := H2.out.1; rw [e] at this; cases this), HLB.out, .inr ⟨by simp, r, H2.out.1, H2.out.2.1, H2.out.2.2.1, H2.out.2.2.2.same (fun v t hm => hF3.dtn hm) fun _ _ _ => rfl⟩⟩

set_option maxRecDepth 100000 in
set_option maxHeartbeats 4000000 in
theorem etbs_any {w : World} {pp db C : Nat} {B : List UInt8} {nv : Value} {g : Int} {o n m k j : Nat} {ks : List (List UInt8)} (hP : PS w pp db C B nv [] g) (h1 : o + n = B.length) (h3 : n ≤ m) (h2 : o + m = C) (h91b : pk B (o + 1) = 91) (hk : KyR B (o + 2) k ks) (h93 : pk B k = 93) (h93b : pk B (k + 1) = 93) (he : EndR B (k + 2) j) :
    Calls Tryz.prog 40 #[.pointer (some ⟨pp, 0, none⟩), .slice (some ⟨db, o, none⟩) n m] w (ExQ pp db C B nv g j ⟨2, ks, Nd.none⟩ w) := by
  have HHD := Lib.hid (hds_any hP h1 h3 h2 hk h93 h93b (by simp))
  have HE := Lib.hid he
  have hki := hk.in
  have hkg := skp_ge B (o + 2)
  have hB := hP.dt.len
  have hc := hP.dt.pk (i := o + 1) (by omega)
  have t91 := byte_eq h91b (n := 91) rfl
  have hn2 : 1 < n := by omega
  clear hP hk h93 h93b he h91b
  generalize pk B (o + 1) = c at *
  go_enter Tryz.func40, Tryz.ntmps40
  go_wp2_with fail
  with_reducible refine HHD.out.mono ?_
  rintro e w2 ⟨h, nv2, ns2, rest, r, hh, rfl, hrest, hP2, hF2, hr, hr1, hr2, hky, hlb⟩
  have HLB := Lib.hid hlb
  clear hlb
  have HFI := Lib.hid (fin_any h hP2 hrest HE.out)
  have HP2 := Lib.hid hP2
  have HF2 := Lib.hid hF2
  have H2 := Lib.hid (And.intro hr (And.intro hr1 (And.intro hr2 hky)))
  clear hh hrest hP2 hF2 hr hr1 hr2 hky HHD
  go_wp2_with fail
  with_reducible refine HFI.out.mono ?_
  rintro e w3 ⟨⟨v', rfl, hv'⟩, nq, rfl⟩
  have HV' := Lib.hid hv'
  clear hv' HFI
  go_wp2_with fail
  go_ret2
  have hF3 := Fr.grown pp nv2 (grown_drewN w2 nq)
  exact ⟨nv2, ns2, _, rfl, HV'.out, HP2.out.grown (grown_drewN w2 nq), HF2.out.trans hF3, (fun e => by have := H2.out.1; rw [e] at this; cases this), HLB.out, .inr ⟨by simp, r, H2.out.1, H2.out.2.1, H2.out.2.2.1, H2.out.2.2.2.same (fun v t hm => hF3.dtn hm) fun _ _ _ => rfl⟩⟩
end Go.Proofs.YtalmpddmhakdmaaGreat

/-
  The walk of a function of the parser: the next expression (17). Conditions: the parser lies in memory as stated; the text is right.
-/
namespace Go.Proofs.YtalmpddmhakdmaaGreat
open Go.RowKit

theorem DocR.end {B : List UInt8} {i : Nat} {es : List Ex} (h : DocR B i es) (hi : B.length ≤ i) : es = [] := by
  cases h with
  | done => rfl
  | empty h1 => omega
  | head h1 => omega
  | heads h1 => omega
  | pair h1 => omega
/-- What stands at a place of a document. -/
theorem DocR.view {B : List UInt8} {i : Nat} {es : List Ex} (h : DocR B i es) :
    (B.length ≤ skp B i ∧ es = []) ∨ (pk B (skp B i) = 10 ∧ DocR B (skp B i + 1) es) ∨ (pk B (skp B i) = 13 ∧ pk B (skp B i + 1) = 10 ∧ DocR B (skp B i + 2) es) ∨
    (pk B (skp B i) = 35 ∧ ∃ m, Cm B (skp B i) m ∧ (B.length ≤ m ∨ lnN B m ≠ 0) ∧ DocR B (m + lnN B m) es) ∨
    (∃ ks m j es', pk B (skp B i) = 91 ∧ pk B (skp B i + 1) ≠ 91 ∧ KyR B (skp B i + 1) m ks ∧ pk B m = 93 ∧ EndR B (m + 1) j ∧ DocR B j es' ∧ es = ⟨1, ks, Nd.none⟩ :: es') ∨
    (∃ ks m j es', pk B (skp B i) = 91 ∧ pk B (skp B i + 1) = 91 ∧ KyR B (skp B i + 2) m ks ∧ pk B m = 93 ∧ pk B (m + 1) = 93 ∧ EndR B (m + 2) j ∧ DocR B j es' ∧ es = ⟨2, ks, Nd.none⟩ :: es') ∨
    (∃ ks m n j v es', skp B i < B.length ∧ pk B (skp B i) ≠ 35 ∧ pk B (skp B i) ≠ 10 ∧ pk B (skp B i) ≠ 13 ∧ pk B (skp B i) ≠ 91 ∧ KyR B (skp B i) m ks ∧ pk B m = 61 ∧ ValR B 51 (skp B (m + 1)) n v ∧ EndR B n j ∧ DocR B j es' ∧ es = ⟨0, ks, v⟩ :: es') := by
  cases h with
  | done h => exact .inl ⟨Nat.le_trans h (skp_ge B i), rfl⟩
  | empty h1 h2 h3 h4 h5 =>
    obtain ⟨m, hcm, hend⟩ := h4
    rw [skp_skp] at hcm
    have fin : pk B (skp B i) ≠ 35 → (B.length ≤ skp B i ∧ es = []) ∨ (lnN B (skp B i) ≠ 0 ∧ DocR B (skp B i + lnN B (skp B i)) es) := fun hne => by
      rcases hcm with ⟨h, _⟩ | ⟨_, rfl⟩
      · exact absurd h hne
      · rcases hend with ⟨g1, rfl⟩ | ⟨_, g2, rfl⟩
        · exact .inl ⟨g1, h5.end g1⟩
        · exact .inr ⟨g2, h5⟩
    have lines : pk B (skp B i) ≠ 35 → (B.length ≤ skp B i ∧ es = []) ∨ (pk B (skp B i) = 10 ∧ DocR B (skp B i + 1) es) ∨ (pk B (skp B i) = 13 ∧ pk B (skp B i + 1) = 10 ∧ DocR B (skp B i + 2) es) := fun hne => by
      rcases fin hne with h | ⟨g1, g2⟩
      · exact .inl h
      · rcases lnN_cases g1 with h | ⟨h, h'⟩
        · have : lnN B (skp B i) = 1 := by unfold lnN; rw [if_pos h]
          rw [this] at g2
          exact .inr (.inl ⟨h, g2⟩)
        · have : lnN B (skp B i) = 2 := by unfold lnN; rw [if_neg (by rw [h]; decide), if_pos ⟨h, h'⟩]
          rw [this] at g2
          exact .inr (.inr ⟨h, h', g2⟩)
    by_cases h35 : pk B (skp B i) = 35
    · rcases hcm with ⟨_, hcm⟩ | ⟨h, _⟩
      · refine .inr (.inr (.inr (.inl ⟨h35, m, hcm, ?_⟩)))
        rcases hend with ⟨g1, rfl⟩ | ⟨_, g2, rfl⟩
        · exact ⟨.inl g1, by rw [lnN_out g1]; exact h5⟩
        · exact ⟨.inr g2, h5⟩
      · exact absurd h35 h
    · rcases lines h35 with h | h | h
      · exact .inl h
      · exact .inr (.inl h)
      · exact .inr (.inr (.inl h))
  | head h1 h2 h3 h4 h5 h6 h7 => exact .inr (.inr (.inr (.inr (.inl ⟨_, _, _, _, h2, h3, h4, h5, h6, h7, rfl⟩))))
  | heads h1 h2 h3 h4 h5 h5b h6 h7 => exact .inr (.inr (.inr (.inr (.inr (.inl ⟨_, _, _, _, h2, h3, h4, h5, h5b, h6, h7, rfl⟩)))))
  | pair h1 h2 h3 h4 h5 h6 h7 h8 h9 h10 h11 => exact .inr (.inr (.inr (.inr (.inr (.inr ⟨_, _, _, _, _, _, h2, h3, h4, h5, h6, h7, h8, h9, h10, h11, rfl⟩)))))
theorem PS.setLeft {w : World} {pp db C : Nat} {B : List UInt8} {nv : Value} {ns : List PN} {g : Int} (h : PS w pp db C B nv ns g) (v : Value) : PS (w.setCell ⟨pp, 2, none⟩ v) pp db C B nv ns g ∧ Fr w (w.setCell ⟨pp, 2, none⟩ v) pp nv nv ∧ (w.setCell ⟨pp, 2, none⟩ v).cell? ⟨pp, 2, none⟩ = some v := by
  have hb : ∀ b, b ≠ pp → (w.setCell ⟨pp, 2, none⟩ v).heap[b]? = w.heap[b]? := fun b hb => Below.heap_setCell w _ _ b hb
  have hc : ∀ j u, j ≠ 2 → w.cell? ⟨pp, j, none⟩ = some u → (w.setCell ⟨pp, 2, none⟩ v).cell? ⟨pp, j, none⟩ = some u := fun j u hj hu => (World.cell?_setCell_other w _ _ _ (by simp; try omega)).trans hu
  have hf : ∀ j, w.frozen? ⟨pp, j, none⟩ = false → (w.setCell ⟨pp, 2, none⟩ v).frozen? ⟨pp, j, none⟩ = false := fun j hv => by rw [World.frozen?_setCell]; exact hv
  have hsame : (w.setCell ⟨pp, 2, none⟩ v).cell? ⟨pp, 2, none⟩ = some v := by
    obtain ⟨u, hu⟩ := h.lf
    exact World.cell?_setCell_same w _ _ hu
  refine ⟨⟨h.dt.of fun _ => hb db h.ne1, hc _ _ (by decide) h.keep, hc _ _ (by decide) h.data, hc _ _ (by decide) h.nodes, hc _ _ (by decide) h.nest, hf _ h.f3, hf _ h.f5, ?_, h.ne1, h.ne2, h.ne3, h.cap, h.capm, by rw [World.size_setCell]; exact h.dbh, h.one, ⟨v, hsame⟩, hf _ h.f2, hc _ _ (by decide) h.er⟩,
    ⟨rfl, rfl, rfl, by rw [World.size_setCell]; exact Nat.le_refl _, fun b _ h1 _ => hb b h1, .inl rfl⟩, hsame⟩
  exact World.ownsRow.kept h.own (row := some pp) ⟨rfl, rfl, rfl, by simp [World.setCell], fun k _ hne => hb k (fun e => hne (by rw [e]))⟩ (.inr h.ne2)
/-- The row of nodes is made empty. -/
theorem PS.empty {w : World} {pp db C : Nat} {B : List UInt8} {sp : Option Addr} {n cap : Nat} {ns : List PN} {g : Int} (h : PS w pp db C B (.slice sp n cap) ns g) : PS (w.setCell ⟨pp, 3, none⟩ (.slice sp 0 cap)) pp db C B (.slice sp 0 cap) [] g ∧ Fr w (w.setCell ⟨pp, 3, none⟩ (.slice sp 0 cap)) pp (.slice sp n cap) (.slice sp 0 cap) := by
  have hb : ∀ b, b ≠ pp → (w.setCell ⟨pp, 3, none⟩ (.slice sp 0 cap)).heap[b]? = w.heap[b]? := fun b hb => Below.heap_setCell w _ _ b hb
  have hc : ∀ j u, j ≠ 3 → w.cell? ⟨pp, j, none⟩ = some u → (w.setCell ⟨pp, 3, none⟩ (.slice sp 0 cap)).cell? ⟨pp, j, none⟩ = some u := fun j u hj hu => (World.cell?_setCell_other w _ _ _ (by simp; try omega)).trans hu
  have hf : ∀ j, w.frozen? ⟨pp, j, none⟩ = false → (w.setCell ⟨pp, 3, none⟩ (.slice sp 0 cap)).frozen? ⟨pp, j, none⟩ = false := fun j hv => by rw [World.frozen?_setCell]; exact hv
  have hob : (Value.slice sp 0 cap).ownBlock = (Value.slice sp n cap).ownBlock := by cases sp <;> rfl
  refine ⟨⟨h.dt.of fun _ => hb db h.ne1, hc _ _ (by decide) h.keep, hc _ _ (by decide) h.data, World.cell?_setCell_same w _ _ h.nodes, hc _ _ (by decide) h.nest, hf _ h.f3, hf _ h.f5, ⟨rfl, ?_⟩, h.ne1, by rw [hob]; exact h.ne2, by rw [hob]; exact h.ne3, h.cap, h.capm, by rw [World.size_setCell]; exact h.dbh, (fun x hx => by cases hx), h.lf.elim fun v hv => ⟨v, hc _ _ (by decide) hv⟩, hf _ h.f2, hc _ _ (by decide) h.er⟩,
    ⟨rfl, rfl, rfl, by rw [World.size_setCell]; exact Nat.le_refl _, fun b _ h1 _ => hb b h1, .inl hob⟩⟩
  rcases h.own.2 with ⟨h1, h2⟩ | ⟨gb, cap', cur, h1, h2, h3, h4, h5, h6, h7⟩
  · cases h1
    exact .inl ⟨rfl, rfl⟩
  · cases h1
    refine .inr ⟨gb, cap, cur, rfl, h2, ?_, Nat.zero_le _, h5, h6, by simp [arC]⟩
    rw [hb gb (fun e => h.ne2 (by rw [e]; rfl))]
    exact h3
/-- How much is left. -/
def leftL (w : World) (pp : Nat) : Nat := ((w.cell? ⟨pp, 2, none⟩).map lenOf).getD 0
theorem leftL_of {w : World} {pp : Nat} {v : Value} (h : w.cell? ⟨pp, 2, none⟩ = some v) : leftL w pp = lenOf v := by rw [leftL, h]; rfl
/-- The parser at a place. -/
def NxA (w : World) (pp db C : Nat) (B : List UInt8) (nv : Value) (ns : List PN) (i : Nat) : Prop := PS w pp db C B nv ns 0 ∧ ∃ v, w.cell? ⟨pp, 2, none⟩ = some v ∧ At db C B i v
/-- What is told of the next expression. -/
def NxQ (pp db C : Nat) (B : List UInt8) (nv : Value) (es : List Ex) (w : World) (e : Ending) (w' : World) : Prop :=
  (es = [] ∧ e = .returned (.bool false) ∧ ∃ nv', PS w' pp db C B nv' [] 0 ∧ Fr w w' pp nv nv') ∨
  (∃ x es' j nv' ns', es = x :: es' ∧ e = .returned (.bool true) ∧ DocR B j es' ∧ NxA w' pp db C B nv' ns' j ∧ Fr w w' pp nv nv' ∧ ns' ≠ [] ∧ ExN (DtN w.heap.size db w' pp nv') ns' x)
/-- What holds at the head of the loop. -/
def NxL (w : World) (pp db C : Nat) (B : List UInt8) (nv : Value) (es : List Ex) (wr : World) : Prop :=
  ∃ (i : Nat) (v : Value) (nv1 : Value), PS wr pp db C B nv1 [] 0 ∧ Fr w wr pp nv nv1 ∧ wr.cell? ⟨pp, 2, none⟩ = some v ∧ At db C B i v ∧ DocR B i es
theorem NxL.step {w wr wl : World} {pp db C j L : Nat} {B : List UInt8} {nv nv1 v : Value} {es : List Ex} (hF : Fr w wr pp nv nv1) (hP : PS wr pp db C B nv1 [] 0) (hd : DocR B j es) (hat : At db C B j v) (hl : leftL wl pp = L) (hlt : lenOf v < L) :
    NxL w pp db C B nv es (wr.setCell ⟨pp, 2, none⟩ v) ∧ leftL (wr.setCell ⟨pp, 2, none⟩ v) pp < leftL wl pp := by
  have h3 := hP.setLeft v
  refine ⟨⟨j, v, nv1, h3.1, hF.trans h3.2.1, h3.2.2, hat, hd⟩, ?_⟩
  rw [leftL_of h3.2.2, hl]
  exact hlt
theorem NxQ.some {pp db C : Nat} {B : List UInt8} {nv nv1 nv2 : Value} {x : Ex} {es' : List Ex} {w wr w2 : World} {e2 : Ending} {j : Nat} {ns2 : List PN} {rest : Value} (hF : Fr w wr pp nv nv1) (hd : DocR B j es') (hrest : At db C B j rest) (hP2 : PS w2 pp db C B nv2 ns2 0) (hF2 : Fr wr w2 pp nv1 nv2) (hne : ns2 ≠ []) (hx : ExN (DtN wr.heap.size db w2 pp nv2) ns2 x) (he : e2 = .returned (.bool true)) :
    NxQ pp db C B nv (x :: es') w e2 (w2.setCell ⟨pp, 2, none⟩ rest) := by
  have h3 := hP2.setLeft rest
  exact .inr ⟨x, es', j, nv2, ns2, rfl, he, hd, ⟨h3.1, rest, h3.2.2, hrest⟩, hF.trans (hF2.trans h3.2.1), hne, hx.same fun v t hm => h3.2.1.dtn (hm.weak hF.size)⟩

set_option maxRecDepth 100000 in
set_option maxHeartbeats 8000000 in
theorem next_any (HV : ValC 51) {w : World} {pp db C : Nat} {B : List UInt8} {nv : Value} {ns : List PN} {i : Nat} {es : List Ex} (hA : NxA w pp db C B nv ns i) (hD : DocR B i es) :
    Calls Tryz.prog 17 #[.pointer (some ⟨pp, 0, none⟩)] w (NxQ pp db C B nv es w) := by
  obtain ⟨hP, v0, hv0, hat0⟩ := hA
  have hl := hP.dt.len
  have he := hP.er
  have hnd := hP.nodes
  have hf3 := hP.f3
  have HP := Lib.hid hP
  have HC2 := Lib.hid hv0
  have HAT := Lib.hid hat0
  have HD := Lib.hid hD
  clear hP hv0 hat0 hD
  go_enter Tryz.func17, Tryz.ntmps17
  go_upto_region 3 with fail
  go_cut [] from 17 to 24 (fun wx => ∃ nv1, PS wx pp db C B nv1 [] 0 ∧ Fr w wx pp nv nv1 ∧ wx.cell? ⟨pp, 2, none⟩ = some v0)
  case first =>
    have hform : (nv = .slice none 0 0) ∨ ∃ gb n cap, nv = .slice (some ⟨gb, 0, none⟩) n cap := by
      rcases HP.out.own.2 with ⟨h, _⟩ | ⟨gb, cap, cur, h, _⟩
      · exact .inl h
      · exact .inr ⟨_, _, _, h⟩
    rcases hform with rfl | ⟨gb, n, cap, rfl⟩
    · go_wp2_with fail
      go_meet
      have := HP.out.empty
      exact ⟨_, this.1, this.2, (World.cell?_setCell_other w _ _ _ (by simp)).trans HC2.out⟩
    · go_wp2_with fail
      go_meet
      have := HP.out.empty
      exact ⟨_, this.1, this.2, (World.cell?_setCell_other w _ _ _ (by simp)).trans HC2.out⟩
  case rest =>
    obtain ⟨nv1, hP1, hF1, hc1⟩ := hcut
    have HST := Lib.hid (show NxL w pp db C B nv es wc from ⟨i, v0, nv1, hP1, hF1, hc1, HAT.out, HD.out⟩)
    clear hP1 hF1 hc1 he hnd hf3
    go_wp2_with fail
    go_loopw [] (fun wr => NxL w pp db C B nv es wr) (fun wr => leftL wr pp)
    case atStart => exact HST.out
    case round =>
      obtain ⟨i, v, nv1, hPr, hFr, hc2, hat, hd⟩ := hrel
      have hatl := hat.lenOf
      have hlft := leftL_of hc2
      have HSK := Lib.hid (skip_any hPr.dt hat)
      have hview := hd.view
      obtain ⟨s, hs⟩ : ∃ s, skp B i = s := ⟨_, rfl⟩
      have hsk := skp_ge B i
      have hss := skp_skp B i
      rw [hs] at HSK hview hsk hss
      have HSS := Lib.hid hss
      have HVIEW := Lib.hid hview
      have HPR := Lib.hid hPr
      have HFR := Lib.hid hFr
      have HLFT := Lib.hid hlft
      have f2 := hPr.f2
      have hkeep := hPr.keep
      clear hview hPr hFr hat hd hs hlft hss HST
      go_wp2_with fail
      with_reducible refine HSK.out.mono ?_
      rintro e w' ⟨⟨v2, rfl, hv2⟩, hw'⟩
      rw [hw']
      clear hw' w' HSK
      obtain ⟨o2, n2, m2, rfl, g1, g2, g3, g4⟩ := hv2
      have HG4 := Lib.hid g4
      clear g4
      rcases HVIEW.out with ⟨hend, rfl⟩ | ⟨h10, hd⟩ | ⟨h13, h10, hd⟩ | ⟨h35, mm, hcm, hln, hd⟩ | ⟨ks, mm, j, es', h91, h91b, hky, h93, hen, hd, rfl⟩ | ⟨ks, mm, j, es', h91, h91b, hky, h93, h93b, hen, hd, rfl⟩ | ⟨ks, mm, nn, j, x, es', hsl, b35, b10, b13, b91, hky, h61, hx, hen, hd, rfl⟩
      · have hn0 : n2 = 0 := by omega
        subst hn0
        go_wp2_with fail
        go_ret
        have h3 := HPR.out.setLeft (.slice (some ⟨db, o2, none⟩) 0 m2)
        exact .inl ⟨rfl, rfl, nv1, h3.1, HFR.out.trans h3.2.1⟩
      · have hin := pk_in (B := B) (k := s) (by rw [h10]; decide)
        have ho := (HG4.out (by omega)).symm
        subst ho
        have hc := HPR.out.dt.pk (i := s) hin
        rw [h10] at hc
        have HD1 := Lib.hid hd
        clear h10 hd HVIEW
        go_wp2_with fail
        exact NxL.step HFR.out HPR.out HD1.out (At.cut g1 g2 g3 (by omega)) HLFT.out (by show n2 - 1 < _; omega)
      · have hin := pk_in (B := B) (k := s) (by rw [h13]; decide)
        have hin2 := pk_in (B := B) (k := s + 1) (by rw [h10]; decide)
        have ho := (HG4.out (by omega)).symm
        subst ho
        have hc := HPR.out.dt.pk (i := s) hin
        have hcb := HPR.out.dt.pk (i := s + 1) hin2
        rw [h13] at hc
        rw [h10] at hcb
        have HD1 := Lib.hid hd
        have hn22 : 2 ≤ n2 := by omega
        clear h10 h13 hd HVIEW
        go_wp2_with fail
        exact NxL.step HFR.out HPR.out HD1.out (At.cut g1 g2 g3 hn22) HLFT.out (by show n2 - 2 < _; omega)
      · have hin := pk_in (B := B) (k := s) (by rw [h35]; decide)
        have ho := (HG4.out (by omega)).symm
        subst ho
        have hc := HPR.out.dt.pk (i := s) hin
        have HRM := Lib.hid (remark_any (m := m2) HPR.out.dt g1 g3 g2 h35 hcm)
        have hlt : s < mm := by
          have h1 := (hcm.le (Nat.le_of_lt hin)).1
          rcases Nat.lt_or_ge s mm with h | h
          · exact h
          · have e : mm = s := by omega
            subst e
            rcases hln with h | h
            · omega
            · rcases lnN_cases h with h | ⟨h, _⟩ <;> rw [h35] at h <;> exact absurd h (by decide)
        rw [h35] at hc
        have HD1 := Lib.hid hd
        have HLN := Lib.hid hln
        clear h35 hcm hln hd HVIEW
        go_wp2_with fail
        with_reducible refine HRM.out.mono ?_
        rintro e w2 ⟨⟨cv, v3, rfl, hv3⟩, nq, rfl⟩
        have HEOL := Lib.hid (eol_any (HPR.out.dt.drewN nq) hv3 HLN.out)
        clear hv3 HRM
        go_wp2_with fail
        with_reducible refine HEOL.out.mono ?_
        rintro e w' ⟨⟨v4, rfl, hv4⟩, hw'⟩
        rw [hw']
        clear hw' w'
        obtain ⟨ro, rn, rm, hre, hr1, hr2, hr3, hr4⟩ := hv4
        subst hre
        have HV4 := Lib.hid (show At db C B _ (.slice (some ⟨db, ro, none⟩) rn rm) from ⟨_, _, _, rfl, hr1, hr2, hr3, hr4⟩)
        clear hr4 HEOL
        go_wp2_with fail
        have hgq := grown_drewN wr nq
        exact NxL.step (HFR.out.trans (Fr.grown pp nv1 hgq)) (HPR.out.grown hgq) HD1.out HV4.out (wl := wr.drewN nq) HLFT.out (by show rn < _; omega)
      · have hin := pk_in (B := B) (k := s) (by rw [h91]; decide)
        have ho := (HG4.out (by omega)).symm
        subst ho
        have hc := HPR.out.dt.pk (i := s) hin
        rw [h91] at hc
        have HCALL := Lib.hid (etb_any HPR.out g1 g3 g2 h91b hky h93 hen)
        have HD1 := Lib.hid hd
        clear h91 h91b hky h93 hen hd HVIEW
        go_wp2_with fail
        with_reducible refine HCALL.out.mono ?_
        rintro e w2 ⟨nv2, ns2, rest, rfl, hrest, hP2, hF2, hne, hxn⟩
        obtain ⟨ro, rn, rm, hre, hr1, hr2, hr3, hr4⟩ := hrest
        subst hre
        have hrest : At db C B j (.slice (some ⟨db, ro, none⟩) rn rm) := ⟨_, _, _, rfl, hr1, hr2, hr3, hr4⟩
        clear hr4
        have HQ := Lib.hid (fun (e2 : Ending) (he : e2 = .returned (.bool true)) => NxQ.some HFR.out HD1.out hrest hP2 hF2 hne hxn he)
        have f22 := hP2.f2
        obtain ⟨vl, hvl⟩ := hP2.lf
        clear hrest hP2 hF2 hne hxn HCALL
        go_wp2_with fail
        go_ret
        exact HQ.out _ rfl
      · have hin := pk_in (B := B) (k := s) (by rw [h91]; decide)
        have ho := (HG4.out (by omega)).symm
        subst ho
        have hc := HPR.out.dt.pk (i := s) hin
        rw [h91] at hc
        have HCALL := Lib.hid (etbs_any HPR.out g1 g3 g2 h91b hky h93 h93b hen)
        have HD1 := Lib.hid hd
        clear h91 h91b hky h93 h93b hen hd HVIEW
        go_wp2_with fail
        with_reducible refine HCALL.out.mono ?_
        rintro e w2 ⟨nv2, ns2, rest, rfl, hrest, hP2, hF2, hne, hxn⟩
        obtain ⟨ro, rn, rm, hre, hr1, hr2, hr3, hr4⟩ := hrest
        subst hre
        have hrest : At db C B j (.slice (some ⟨db, ro, none⟩) rn rm) := ⟨_, _, _, rfl, hr1, hr2, hr3, hr4⟩
        clear hr4
        have HQ := Lib.hid (fun (e2 : Ending) (he : e2 = .returned (.bool true)) => NxQ.some HFR.out HD1.out hrest hP2 hF2 hne hxn he)
        have f22 := hP2.f2
        obtain ⟨vl, hvl⟩ := hP2.lf
        clear hrest hP2 hF2 hne hxn HCALL
        go_wp2_with fail
        go_ret
        exact HQ.out _ rfl
      · have ho := (HG4.out (by omega)).symm
        subst ho
        have hc := HPR.out.dt.pk (i := s) hsl
        have t35 := byte_ne b35 (n := 35) rfl
        have t10 := byte_ne b10 (n := 10) rfl
        have t13 := byte_ne b13 (n := 13) rfl
        have t91 := byte_ne b91 (n := 91) rfl
        have HCALL := Lib.hid (ekv_any HV (v := .slice (some ⟨db, s, none⟩) n2 m2) HPR.out (by rw [HSS.out]; exact ⟨_, _, _, rfl, g1, g2, g3, fun _ => rfl⟩) hky h61 hx hen ⟨by decide, by decide⟩)
        have HD1 := Lib.hid hd
        clear b35 b10 b13 b91 hky h61 hx hen hd HVIEW
        generalize pk B s = c at *
        go_wp2_with fail
        with_reducible refine HCALL.out.mono ?_
        rintro e w2 ⟨nv2, ns2, rest, rfl, hrest, hP2, hF2, hne, hxn⟩
        obtain ⟨ro, rn, rm, hre, hr1, hr2, hr3, hr4⟩ := hrest
        subst hre
        have hrest : At db C B j (.slice (some ⟨db, ro, none⟩) rn rm) := ⟨_, _, _, rfl, hr1, hr2, hr3, hr4⟩
        clear hr4
        have HQ := Lib.hid (fun (e2 : Ending) (he : e2 = .returned (.bool true)) => NxQ.some HFR.out HD1.out hrest hP2 hF2 hne hxn he)
        have f22 := hP2.f2
        obtain ⟨vl, hvl⟩ := hP2.lf
        clear hrest hP2 hF2 hne hxn HCALL
        go_wp2_with fail
        go_ret
        exact HQ.out _ rfl
end Go.Proofs.YtalmpddmhakdmaaGreat
