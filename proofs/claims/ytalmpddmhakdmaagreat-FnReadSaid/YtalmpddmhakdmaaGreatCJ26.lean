/-
  The walk of a function of the parser: a value of one node (70). Conditions: the parser lies in memory as stated.
-/
import Derived.Test.YtalmpddmhakdmaaGreatCJ21
import Derived.Test.YtalmpddmhakdmaaGreatCJ23
import Derived.Test.YtalmpddmhakdmaaGreatCNms
import Derived.Test.YtalmpddmhakdmaaGreatCMulL
namespace Go.Proofs.YtalmpddmhakdmaaGreat
open Go.RowKit

set_option maxRecDepth 100000 in
set_option maxHeartbeats 4000000 in
theorem val_lines39 {w : World} {pp db C : Nat} {B : List UInt8} {nv : Value} {ns : List PN} {g : Int} {o n m j : Nat} {t : List UInt8} (hP : PS w pp db C B nv ns g) (h1 : o + n = B.length) (h3 : n ≤ m) (h2 : o + m = C) (hn : ns.length ≤ 300000) (h3q : three 39 B o) (hr : LnR 39 B (o + 3 + lnN B (o + 3)) j t) (hf : pk B j ≠ 39) :
    Calls Tryz.prog 70 #[.pointer (some ⟨pp, 0, none⟩), .slice (some ⟨db, o, none⟩) n m] w (OnP pp db C B nv ns g j 8 t w) := by
  have HP := Lib.hid hP
  have hin : o + 2 < B.length := pk_in (by rw [h3q.2.2]; decide)
  have hl := hP.dt.len
  have HS := Lib.hid (lines_lit (m := m) (n := n) (.pointer (some ⟨pp, 0, none⟩)) hP.dt h1 h3 h2 hr hf)
  have hc0 := hP.dt.pk (i := o) (by omega)
  have hc1 := hP.dt.pk (i := o + 1) (by omega)
  have hc2 := hP.dt.pk (i := o + 2) (by omega)
  rw [h3q.1] at hc0
  rw [h3q.2.1] at hc1
  rw [h3q.2.2] at hc2
  have hn3 : 3 ≤ n := by omega
  clear hP hr h3q hf
  go_enter Tryz.func70, Tryz.ntmps70
  go_wp2_with fail
  with_reducible refine HS.out.mono ?_
  rintro e w1 ⟨raw, val, rest, rfl, hraw, hval, hrest, hg1⟩
  obtain ⟨va, vl, vc, rfl⟩ := hval.form
  have HVAL := Lib.hid hval
  have HREST := Lib.hid hrest
  have HG1 := Lib.hid hg1
  have HRG := Lib.hid (range_any (HP.out.grown hg1) hraw)
  clear hraw hval hrest hg1 HS
  go_wp2_with fail
  with_reducible refine HRG.out.mono ?_
  rintro e w2 ⟨⟨x, l, rfl⟩, hg2⟩
  have HG2 := Lib.hid (gtrans HG1.out hg2)
  have HDA := Lib.hid ((Fr.grown pp nv hg2).dtn (DtN.scan HP.out HG1.out HVAL.out))
  have HPU := Lib.hid (push_to (HP.out.grown HG2.out) hn 8 x l (.slice va vl vc) HVAL.out.one)
  clear hg2 HRG
  go_wp2_with fail
  with_reducible refine HPU.out.mono ?_
  rintro e w3 ⟨nv', rfl, hP3, hF3⟩
  have HP3 := Lib.hid hP3
  have HF3 := Lib.hid hF3
  clear hP3 hF3 HPU
  go_wp2_with fail
  go_ret3
  exact OnP.mk nv' rest _ rfl HREST.out HP3.out ((Fr.grown pp nv HG2.out).trans HF3.out) rfl (HF3.out.dtn HDA.out) rfl rfl

set_option maxRecDepth 100000 in
set_option maxHeartbeats 4000000 in
theorem val_text34 {w : World} {pp db C : Nat} {B : List UInt8} {nv : Value} {ns : List PN} {g : Int} {o n m j : Nat} {t : List UInt8} (hP : PS w pp db C B nv ns g) (h1 : o + n = B.length) (h3 : n ≤ m) (h2 : o + m = C) (hn : ns.length ≤ 300000) (hq : pk B o = 34) (h3q : ¬ three 34 B o) (hr : TxR 34 B (o + 1) j t) :
    Calls Tryz.prog 70 #[.pointer (some ⟨pp, 0, none⟩), .slice (some ⟨db, o, none⟩) n m] w (OnP pp db C B nv ns g j 8 t w) := by
  have HP := Lib.hid hP
  have hin := hr.in
  have hl := hP.dt.len
  have HS := Lib.hid (basic_any (m := m) (n := n) (.pointer (some ⟨pp, 0, none⟩)) hP.dt h1 h3 h2 hr)
  have hc0 := hP.dt.pk (i := o) (by omega)
  rw [hq] at hc0
  have hn1 : 1 < n := by omega
  have hnz : ((n : Int) == 0) = false := by simp; omega
  have H3 := Lib.hid h3q
  have HQ := Lib.hid hq
  clear hP hr hq h3q
  go_enter Tryz.func70, Tryz.ntmps70
  go_upto_region 8 with fail
  go_cut [49] from 35 to 49 (fun v wx => v = .bool false ∧ w = wx)
  case first =>
    have hc1 := HP.out.dt.pk (i := o + 1) (by omega)
    by_cases h1q : pk B (o + 1) = 34
    · have t1 := byte_eq h1q (n := 34) rfl
      by_cases hn2 : 2 < n
      · have hc2 := HP.out.dt.pk (i := o + 2) (by omega)
        have t2 := byte_ne (fun e => H3.out ⟨HQ.out, h1q, e⟩) (n := 34) rfl
        clear h1q
        go_wp2_with fail
        go_meet
        exact ⟨rfl, rfl⟩
      · clear h1q
        go_wp2_with fail
        go_meet
        exact ⟨rfl, rfl⟩
    · have t1 := byte_ne h1q (n := 34) rfl
      clear h1q
      by_cases hn2 : 2 < n
      · go_wp2_with fail
        go_meet
        exact ⟨rfl, rfl⟩
      · go_wp2_with fail
        go_meet
        exact ⟨rfl, rfl⟩
  case rest =>
    obtain ⟨rfl, hw2⟩ := hcut
    subst hw2
    go_wp2_with fail
    with_reducible refine HS.out.mono ?_
    rintro e w1 ⟨raw, val, rest, rfl, hraw, hval, hrest, hg1⟩
    obtain ⟨va, vl, vc, rfl⟩ := hval.form
    have HVAL := Lib.hid hval
    have HREST := Lib.hid hrest
    have HG1 := Lib.hid hg1
    have HRG := Lib.hid (range_any (HP.out.grown hg1) hraw)
    clear hraw hval hrest hg1 HS
    go_wp2_with fail
    with_reducible refine HRG.out.mono ?_
    rintro e w2 ⟨⟨x, l, rfl⟩, hg2⟩
    have HG2 := Lib.hid (gtrans HG1.out hg2)
    have HDA := Lib.hid ((Fr.grown pp nv hg2).dtn (DtN.scan HP.out HG1.out HVAL.out))
    have HPU := Lib.hid (push_to (HP.out.grown HG2.out) hn 8 x l (.slice va vl vc) HVAL.out.one)
    clear hg2 HRG
    go_wp2_with fail
    with_reducible refine HPU.out.mono ?_
    rintro e w3 ⟨nv', rfl, hP3, hF3⟩
    have HP3 := Lib.hid hP3
    have HF3 := Lib.hid hF3
    clear hP3 hF3 HPU
    go_wp2_with fail
    go_ret3
    exact OnP.mk nv' rest _ rfl HREST.out HP3.out ((Fr.grown pp nv HG2.out).trans HF3.out) rfl (HF3.out.dtn HDA.out) rfl rfl

set_option maxRecDepth 100000 in
set_option maxHeartbeats 4000000 in
theorem val_text39 {w : World} {pp db C : Nat} {B : List UInt8} {nv : Value} {ns : List PN} {g : Int} {o n m j : Nat} {t : List UInt8} (hP : PS w pp db C B nv ns g) (h1 : o + n = B.length) (h3 : n ≤ m) (h2 : o + m = C) (hn : ns.length ≤ 300000) (hq : pk B o = 39) (h3q : ¬ three 39 B o) (hr : TxR 39 B (o + 1) j t) :
    Calls Tryz.prog 70 #[.pointer (some ⟨pp, 0, none⟩), .slice (some ⟨db, o, none⟩) n m] w (OnP pp db C B nv ns g j 8 t w) := by
  have HP := Lib.hid hP
  have hin := hr.in
  have hl := hP.dt.len
  have HS := Lib.hid (literal_any (m := m) (n := n) (.pointer (some ⟨pp, 0, none⟩)) hP.dt h1 h3 h2 hr)
  have hc0 := hP.dt.pk (i := o) (by omega)
  rw [hq] at hc0
  have hn1 : 1 < n := by omega
  have hnz : ((n : Int) == 0) = false := by simp; omega
  have H3 := Lib.hid h3q
  have HQ := Lib.hid hq
  clear hP hr hq h3q
  go_enter Tryz.func70, Tryz.ntmps70
  go_upto_region 18 with fail
  go_cut [95] from 81 to 95 (fun v wx => v = .bool false ∧ w = wx)
  case first =>
    have hc1 := HP.out.dt.pk (i := o + 1) (by omega)
    by_cases h1q : pk B (o + 1) = 39
    · have t1 := byte_eq h1q (n := 39) rfl
      by_cases hn2 : 2 < n
      · have hc2 := HP.out.dt.pk (i := o + 2) (by omega)
        have t2 := byte_ne (fun e => H3.out ⟨HQ.out, h1q, e⟩) (n := 39) rfl
        clear h1q
        go_wp2_with fail
        go_meet
        exact ⟨rfl, rfl⟩
      · clear h1q
        go_wp2_with fail
        go_meet
        exact ⟨rfl, rfl⟩
    · have t1 := byte_ne h1q (n := 39) rfl
      clear h1q
      by_cases hn2 : 2 < n
      · go_wp2_with fail
        go_meet
        exact ⟨rfl, rfl⟩
      · go_wp2_with fail
        go_meet
        exact ⟨rfl, rfl⟩
  case rest =>
    obtain ⟨rfl, hw2⟩ := hcut
    subst hw2
    go_wp2_with fail
    with_reducible refine HS.out.mono ?_
    rintro e w1 ⟨raw, val, rest, rfl, hraw, hval, hrest, hg1⟩
    obtain ⟨va, vl, vc, rfl⟩ := hval.form
    have HVAL := Lib.hid hval
    have HREST := Lib.hid hrest
    have HG1 := Lib.hid hg1
    have HRG := Lib.hid (range_any (HP.out.grown hg1) hraw)
    clear hraw hval hrest hg1 HS
    go_wp2_with fail
    with_reducible refine HRG.out.mono ?_
    rintro e w2 ⟨⟨x, l, rfl⟩, hg2⟩
    have HG2 := Lib.hid (gtrans HG1.out hg2)
    have HDA := Lib.hid ((Fr.grown pp nv hg2).dtn (DtN.scan HP.out HG1.out HVAL.out))
    have HPU := Lib.hid (push_to (HP.out.grown HG2.out) hn 8 x l (.slice va vl vc) HVAL.out.one)
    clear hg2 HRG
    go_wp2_with fail
    with_reducible refine HPU.out.mono ?_
    rintro e w3 ⟨nv', rfl, hP3, hF3⟩
    have HP3 := Lib.hid hP3
    have HF3 := Lib.hid hF3
    clear hP3 hF3 HPU
    go_wp2_with fail
    go_ret3
    exact OnP.mk nv' rest _ rfl HREST.out HP3.out ((Fr.grown pp nv HG2.out).trans HF3.out) rfl (HF3.out.dtn HDA.out) rfl rfl

set_option maxRecDepth 100000 in
set_option maxHeartbeats 4000000 in
theorem val_true {w : World} {pp db C : Nat} {B : List UInt8} {nv : Value} {ns : List PN} {g : Int} {o n m : Nat} (hP : PS w pp db C B nv ns g) (h1 : o + n = B.length) (h3 : n ≤ m) (h2 : o + m = C) (hn : ns.length ≤ 300000) (g0 : pk B o = 116) (g1 : pk B (o + 1) = 114) (g2 : pk B (o + 2) = 117) (g3 : pk B (o + 3) = 101) :
    Calls Tryz.prog 70 #[.pointer (some ⟨pp, 0, none⟩), .slice (some ⟨db, o, none⟩) n m] w (OnP pp db C B nv ns g (o + 4) 9 (cutB B o 4) w) := by
  have hin : o + 3 < B.length := pk_in (by rw [g3]; decide)
  have hl := hP.dt.len
  have hcut : cutB B o 4 = [116, 114, 117, 101] := by
    unfold cutB
    rw [drop_pk (by omega), drop_pk (by omega), show o + 1 + 1 = o + 2 by omega, drop_pk (by omega), show o + 2 + 1 = o + 3 by omega, drop_pk (by omega), g0, g1, g2, g3]
    rfl
  have HS := Lib.hid (show Calls Tryz.prog 77 #[.pointer (some ⟨pp, 0, none⟩), .slice (some ⟨db, o, none⟩) n m, .string ⟨#[116, 114, 117, 101]⟩, .int .i64 9] w (OnP pp db C B nv ns g (o + 4) 9 (cutB B o 4) w) by
    have := pkw_any (kw := ⟨#[116, 114, 117, 101]⟩) (kd0 := 9) (kd := 9) (i := o) (j := o + 4) (v := .slice (some ⟨db, o, none⟩) n m) hP hn (fun w1 e => by
      subst e
      exact keyword_any (m := m) ⟨#[116, 114, 117, 101]⟩ 9 hP.dt h1 h3 h2 (show 4 ≤ n by omega) (by decide) (by rw [ByteArray.toList_eq]; exact hcut.symm))
    rwa [Nat.add_sub_cancel_left] at this)
  have hc0 := hP.dt.pk (i := o) (by omega)
  rw [g0] at hc0
  have hn0 : 0 < n := by omega
  clear hP g0 g1 g2 g3 hcut
  go_enter Tryz.func70, Tryz.ntmps70
  go_wp2_with fail
  with_reducible refine HS.out.mono ?_
  rintro e w1 ⟨h, nv', rest, x, hh, rfl, hrest, hP3, hF3, k1, k2, k3, k4⟩
  have HX := Lib.hid (And.intro hh (And.intro hrest (And.intro hP3 (And.intro hF3 (And.intro k1 (And.intro k2 (And.intro k3 k4)))))))
  clear hh hrest hP3 hF3 k1 k2 k3 k4 HS
  go_wp2_with fail
  go_ret3
  exact ⟨h, nv', rest, x, HX.out.1, rfl, HX.out.2⟩

set_option maxRecDepth 100000 in
set_option maxHeartbeats 4000000 in
theorem val_false {w : World} {pp db C : Nat} {B : List UInt8} {nv : Value} {ns : List PN} {g : Int} {o n m : Nat} (hP : PS w pp db C B nv ns g) (h1 : o + n = B.length) (h3 : n ≤ m) (h2 : o + m = C) (hn : ns.length ≤ 300000) (g0 : pk B o = 102) (g1 : pk B (o + 1) = 97) (g2 : pk B (o + 2) = 108) (g3 : pk B (o + 3) = 115) (g4 : pk B (o + 4) = 101) :
    Calls Tryz.prog 70 #[.pointer (some ⟨pp, 0, none⟩), .slice (some ⟨db, o, none⟩) n m] w (OnP pp db C B nv ns g (o + 5) 9 (cutB B o 5) w) := by
  have hin : o + 4 < B.length := pk_in (by rw [g4]; decide)
  have hl := hP.dt.len
  have hcut : cutB B o 5 = [102, 97, 108, 115, 101] := by
    unfold cutB
    rw [drop_pk (by omega), drop_pk (by omega), show o + 1 + 1 = o + 2 by omega, drop_pk (by omega), show o + 2 + 1 = o + 3 by omega, drop_pk (by omega), show o + 3 + 1 = o + 4 by omega, drop_pk (by omega), g0, g1, g2, g3, g4]
    rfl
  have HS := Lib.hid (show Calls Tryz.prog 77 #[.pointer (some ⟨pp, 0, none⟩), .slice (some ⟨db, o, none⟩) n m, .string ⟨#[102, 97, 108, 115, 101]⟩, .int .i64 9] w (OnP pp db C B nv ns g (o + 5) 9 (cutB B o 5) w) by
    have := pkw_any (kw := ⟨#[102, 97, 108, 115, 101]⟩) (kd0 := 9) (kd := 9) (i := o) (j := o + 5) (v := .slice (some ⟨db, o, none⟩) n m) hP hn (fun w1 e => by
      subst e
      exact keyword_any (m := m) ⟨#[102, 97, 108, 115, 101]⟩ 9 hP.dt h1 h3 h2 (show 5 ≤ n by omega) (by decide) (by rw [ByteArray.toList_eq]; exact hcut.symm))
    rwa [Nat.add_sub_cancel_left] at this)
  have hc0 := hP.dt.pk (i := o) (by omega)
  rw [g0] at hc0
  have hn0 : 0 < n := by omega
  clear hP g0 g1 g2 g3 g4 hcut
  go_enter Tryz.func70, Tryz.ntmps70
  go_wp2_with fail
  with_reducible refine HS.out.mono ?_
  rintro e w1 ⟨h, nv', rest, x, hh, rfl, hrest, hP3, hF3, k1, k2, k3, k4⟩
  have HX := Lib.hid (And.intro hh (And.intro hrest (And.intro hP3 (And.intro hF3 (And.intro k1 (And.intro k2 (And.intro k3 k4)))))))
  clear hh hrest hP3 hF3 k1 k2 k3 k4 HS
  go_wp2_with fail
  go_ret3
  exact ⟨h, nv', rest, x, HX.out.1, rfl, HX.out.2⟩

set_option maxRecDepth 100000 in
set_option maxHeartbeats 4000000 in
theorem val_inf {w : World} {pp db C : Nat} {B : List UInt8} {nv : Value} {ns : List PN} {g : Int} {o n m : Nat} (hP : PS w pp db C B nv ns g) (h1 : o + n = B.length) (h3 : n ≤ m) (h2 : o + m = C) (hn : ns.length ≤ 300000) (g0 : pk B o = 105) (g1 : pk B (o + 1) = 110) (g2 : pk B (o + 2) = 102) :
    Calls Tryz.prog 70 #[.pointer (some ⟨pp, 0, none⟩), .slice (some ⟨db, o, none⟩) n m] w (OnP pp db C B nv ns g (o + 3) 10 (cutB B o 3) w) := by
  have hin : o + 2 < B.length := pk_in (by rw [g2]; decide)
  have hl := hP.dt.len
  have hcut : cutB B o 3 = [105, 110, 102] := by
    unfold cutB
    rw [drop_pk (by omega), drop_pk (by omega), show o + 1 + 1 = o + 2 by omega, drop_pk (by omega), g0, g1, g2]
    rfl
  have HS := Lib.hid (show Calls Tryz.prog 77 #[.pointer (some ⟨pp, 0, none⟩), .slice (some ⟨db, o, none⟩) n m, .string ⟨#[105, 110, 102]⟩, .int .i64 10] w (OnP pp db C B nv ns g (o + 3) 10 (cutB B o 3) w) by
    have := pkw_any (kw := ⟨#[105, 110, 102]⟩) (kd0 := 10) (kd := 10) (i := o) (j := o + 3) (v := .slice (some ⟨db, o, none⟩) n m) hP hn (fun w1 e => by
      subst e
      exact keyword_any (m := m) ⟨#[105, 110, 102]⟩ 10 hP.dt h1 h3 h2 (show 3 ≤ n by omega) (by decide) (by rw [ByteArray.toList_eq]; exact hcut.symm))
    rwa [Nat.add_sub_cancel_left] at this)
  have hc0 := hP.dt.pk (i := o) (by omega)
  rw [g0] at hc0
  have hn0 : 0 < n := by omega
  clear hP g0 g1 g2 hcut
  go_enter Tryz.func70, Tryz.ntmps70
  go_wp2_with fail
  with_reducible refine HS.out.mono ?_
  rintro e w1 ⟨h, nv', rest, x, hh, rfl, hrest, hP3, hF3, k1, k2, k3, k4⟩
  have HX := Lib.hid (And.intro hh (And.intro hrest (And.intro hP3 (And.intro hF3 (And.intro k1 (And.intro k2 (And.intro k3 k4)))))))
  clear hh hrest hP3 hF3 k1 k2 k3 k4 HS
  go_wp2_with fail
  go_ret3
  exact ⟨h, nv', rest, x, HX.out.1, rfl, HX.out.2⟩

set_option maxRecDepth 100000 in
set_option maxHeartbeats 4000000 in
theorem val_nan {w : World} {pp db C : Nat} {B : List UInt8} {nv : Value} {ns : List PN} {g : Int} {o n m : Nat} (hP : PS w pp db C B nv ns g) (h1 : o + n = B.length) (h3 : n ≤ m) (h2 : o + m = C) (hn : ns.length ≤ 300000) (g0 : pk B o = 110) (g1 : pk B (o + 1) = 97) (g2 : pk B (o + 2) = 110) :
    Calls Tryz.prog 70 #[.pointer (some ⟨pp, 0, none⟩), .slice (some ⟨db, o, none⟩) n m] w (OnP pp db C B nv ns g (o + 3) 10 (cutB B o 3) w) := by
  have hin : o + 2 < B.length := pk_in (by rw [g2]; decide)
  have hl := hP.dt.len
  have hcut : cutB B o 3 = [110, 97, 110] := by
    unfold cutB
    rw [drop_pk (by omega), drop_pk (by omega), show o + 1 + 1 = o + 2 by omega, drop_pk (by omega), g0, g1, g2]
    rfl
  have HS := Lib.hid (show Calls Tryz.prog 77 #[.pointer (some ⟨pp, 0, none⟩), .slice (some ⟨db, o, none⟩) n m, .string ⟨#[110, 97, 110]⟩, .int .i64 10] w (OnP pp db C B nv ns g (o + 3) 10 (cutB B o 3) w) by
    have := pkw_any (kw := ⟨#[110, 97, 110]⟩) (kd0 := 10) (kd := 10) (i := o) (j := o + 3) (v := .slice (some ⟨db, o, none⟩) n m) hP hn (fun w1 e => by
      subst e
      exact keyword_any (m := m) ⟨#[110, 97, 110]⟩ 10 hP.dt h1 h3 h2 (show 3 ≤ n by omega) (by decide) (by rw [ByteArray.toList_eq]; exact hcut.symm))
    rwa [Nat.add_sub_cancel_left] at this)
  have hc0 := hP.dt.pk (i := o) (by omega)
  rw [g0] at hc0
  have hn0 : 0 < n := by omega
  clear hP g0 g1 g2 hcut
  go_enter Tryz.func70, Tryz.ntmps70
  go_wp2_with fail
  with_reducible refine HS.out.mono ?_
  rintro e w1 ⟨h, nv', rest, x, hh, rfl, hrest, hP3, hF3, k1, k2, k3, k4⟩
  have HX := Lib.hid (And.intro hh (And.intro hrest (And.intro hP3 (And.intro hF3 (And.intro k1 (And.intro k2 (And.intro k3 k4)))))))
  clear hh hrest hP3 hF3 k1 k2 k3 k4 HS
  go_wp2_with fail
  go_ret3
  exact ⟨h, nv', rest, x, HX.out.1, rfl, HX.out.2⟩

set_option maxRecDepth 100000 in
set_option maxHeartbeats 4000000 in
theorem val_sign {w : World} {pp db C : Nat} {B : List UInt8} {nv : Value} {ns : List PN} {g : Int} {o n m j : Nat} {kd : Int} (hP : PS w pp db C B nv ns g) (h1 : o + n = B.length) (hn : ns.length ≤ 300000) (hs : pk B o = 43 ∨ pk B o = 45) (hS : Calls Tryz.prog 89 #[.slice (some ⟨db, o, none⟩) n m] w (KdP db C B o j kd w)) :
    Calls Tryz.prog 70 #[.pointer (some ⟨pp, 0, none⟩), .slice (some ⟨db, o, none⟩) n m] w (OnP pp db C B nv ns g j kd (cutB B o (j - o)) w) := by
  have hin : o < B.length := pk_in (by rcases hs with h | h <;> rw [h] <;> decide)
  have hl := hP.dt.len
  have HS := Lib.hid (pnum_any (i := o) (j := j) (v := .slice (some ⟨db, o, none⟩) n m) hP hn fun w1 e => by subst e; exact hS)
  have hc0 := hP.dt.pk (i := o) (by omega)
  have hn0 : 0 < n := by omega
  clear hP hS
  rcases hs with h | h
  · rw [h] at hc0
    clear h
    go_enter Tryz.func70, Tryz.ntmps70
    go_wp2_with fail
    with_reducible refine HS.out.mono ?_
    rintro e w1 ⟨h, nv', rest, x, hh, rfl, hrest, hP3, hF3, k1, k2, k3, k4⟩
    have HX := Lib.hid (And.intro hh (And.intro hrest (And.intro hP3 (And.intro hF3 (And.intro k1 (And.intro k2 (And.intro k3 k4)))))))
    clear hh hrest hP3 hF3 k1 k2 k3 k4 HS
    go_wp2_with fail
    go_ret3
    exact ⟨h, nv', rest, x, HX.out.1, rfl, HX.out.2⟩
  · rw [h] at hc0
    clear h
    go_enter Tryz.func70, Tryz.ntmps70
    go_wp2_with fail
    with_reducible refine HS.out.mono ?_
    rintro e w1 ⟨h, nv', rest, x, hh, rfl, hrest, hP3, hF3, k1, k2, k3, k4⟩
    have HX := Lib.hid (And.intro hh (And.intro hrest (And.intro hP3 (And.intro hF3 (And.intro k1 (And.intro k2 (And.intro k3 k4)))))))
    clear hh hrest hP3 hF3 k1 k2 k3 k4 HS
    go_wp2_with fail
    go_ret3
    exact ⟨h, nv', rest, x, HX.out.1, rfl, HX.out.2⟩

/-- A byte that is a figure is none of the bytes that other values begin with. -/
theorem fig_bytes {c : UInt8} (h : vD c < 10) : ((c.toNat : Int) == 34) = false ∧ ((c.toNat : Int) == 39) = false ∧ ((c.toNat : Int) == 116) = false ∧ ((c.toNat : Int) == 102) = false ∧ ((c.toNat : Int) == 105) = false ∧ ((c.toNat : Int) == 110) = false ∧ ((c.toNat : Int) == 91) = false ∧ ((c.toNat : Int) == 123) = false ∧
    ((c.toNat : Int) == 43) = false ∧ ((c.toNat : Int) == 45) = false ∧ 48 ≤ (c.toNat : Int) ∧ (c.toNat : Int) ≤ 57 := by
  have := (vD_ten c).1 h
  simp
  omega

set_option maxRecDepth 100000 in
set_option maxHeartbeats 4000000 in
theorem val_figs {w : World} {pp db C : Nat} {B : List UInt8} {nv : Value} {ns : List PN} {g : Int} {o n m j : Nat} {kd : Int} (hP : PS w pp db C B nv ns g) (h1 : o + n = B.length) (hn : ns.length ≤ 300000) (hv : vD (pk B o) < 10) (b : Bool) (hb : Calls Tryz.prog 81 #[.slice (some ⟨db, o, none⟩) n m] w fun e w' => e = .returned (.bool b) ∧ w' = w)
    (hS : if b then Calls Tryz.prog 91 #[.slice (some ⟨db, o, none⟩) n m] w (KdP db C B o j kd w) else Calls Tryz.prog 89 #[.slice (some ⟨db, o, none⟩) n m] w (KdP db C B o j kd w)) :
    Calls Tryz.prog 70 #[.pointer (some ⟨pp, 0, none⟩), .slice (some ⟨db, o, none⟩) n m] w (OnP pp db C B nv ns g j kd (cutB B o (j - o)) w) := by
  have hin := vD_in (by decide) hv
  have hl := hP.dt.len
  have hc0 := hP.dt.pk (i := o) (by omega)
  have hn0 : 0 < n := by omega
  have HB := Lib.hid hb
  obtain ⟨t1, t2, t3, t4, t5, t6, t7, t8, t9, t10, l1, l2⟩ := fig_bytes hv
  cases b with
  | true =>
    have HS := Lib.hid (pdate_any (i := o) (j := j) (v := .slice (some ⟨db, o, none⟩) n m) hP hn fun w1 e => by subst e; exact hS)
    clear hP hS hb hv
    generalize pk B o = c at *
    go_enter Tryz.func70, Tryz.ntmps70
    go_wp2_with fail
    with_reducible refine HB.out.mono ?_
    rintro e w' ⟨rfl, hw'⟩
    rw [hw']
    clear hw' w'
    go_wp2_with fail
    with_reducible refine HS.out.mono ?_
    rintro e w1 ⟨h, nv', rest, x, hh, rfl, hrest, hP3, hF3, k1, k2, k3, k4⟩
    have HX := Lib.hid (And.intro hh (And.intro hrest (And.intro hP3 (And.intro hF3 (And.intro k1 (And.intro k2 (And.intro k3 k4)))))))
    clear hh hrest hP3 hF3 k1 k2 k3 k4 HS
    go_wp2_with fail
    go_ret3
    exact ⟨h, nv', rest, x, HX.out.1, rfl, HX.out.2⟩
  | false =>
    have HS := Lib.hid (pnum_any (i := o) (j := j) (v := .slice (some ⟨db, o, none⟩) n m) hP hn fun w1 e => by subst e; exact hS)
    clear hP hS hb hv
    generalize pk B o = c at *
    go_enter Tryz.func70, Tryz.ntmps70
    go_wp2_with fail
    with_reducible refine HB.out.mono ?_
    rintro e w' ⟨rfl, hw'⟩
    rw [hw']
    clear hw' w'
    go_wp2_with fail
    with_reducible refine HS.out.mono ?_
    rintro e w1 ⟨h, nv', rest, x, hh, rfl, hrest, hP3, hF3, k1, k2, k3, k4⟩
    have HX := Lib.hid (And.intro hh (And.intro hrest (And.intro hP3 (And.intro hF3 (And.intro k1 (And.intro k2 (And.intro k3 k4)))))))
    clear hh hrest hP3 hF3 k1 k2 k3 k4 HS
    go_wp2_with fail
    go_ret3
    exact ⟨h, nv', rest, x, HX.out.1, rfl, HX.out.2⟩
end Go.Proofs.YtalmpddmhakdmaaGreat

/-
  Every value of one node is read as the text says; the plain facts on dates and numbers for it. Conditions: the parser lies in memory as stated; behind the value stands what may.
-/
namespace Go.Proofs.YtalmpddmhakdmaaGreat
open Go.RowKit

theorem figv {c : UInt8} : fig c = true ↔ vD c < 10 := by rw [fig_iff, vD_ten]
theorem clock_bytes {B : List UInt8} {i c : Nat} (h : ClockR B i c) (y : Nat) (hy : y < c) : vD (pk B (i + y)) < 10 ∨ pk B (i + y) = 58 ∨ pk B (i + y) = 46 := by
  obtain ⟨h1, h2, h3, h4, h5, h6⟩ := h
  have f1 : ∀ j, j < 2 → vD (pk B (i + j)) < 10 := fun j hj => figv.1 (h1 j hj)
  have f2 : ∀ j, j < 2 → vD (pk B (i + 3 + j)) < 10 := fun j hj => figv.1 (h3 j hj)
  have f3 : ∀ j, j < 2 → vD (pk B (i + 6 + j)) < 10 := fun j hj => figv.1 (h5 j hj)
  by_cases y2 : y < 2
  · exact .inl (f1 y y2)
  by_cases y3 : y = 2
  · subst y3; exact .inr (.inl h2)
  by_cases y5 : y < 5
  · have := f2 (y - 3) (by omega)
    rw [show i + 3 + (y - 3) = i + y by omega] at this
    exact .inl this
  by_cases y6 : y = 5
  · subst y6; exact .inr (.inl h4)
  by_cases y8 : y < 8
  · have := f3 (y - 6) (by omega)
    rw [show i + 6 + (y - 6) = i + y by omega] at this
    exact .inl this
  rcases h6 with ⟨_, rfl⟩ | ⟨h46, hd, rfl⟩
  · omega
  by_cases y9 : y = 8
  · subst y9; exact .inr (.inr h46)
  have := fig_at (B := B) (b := 10) (k := y - 9) (by decide) (i := i + 9) (by omega)
  rw [show i + 9 + (y - 9) = i + y by omega] at this
  exact .inl this
theorem clock_noz {B : List UInt8} {i c : Nat} (h : ClockR B i c) (y : Nat) (hy : y < c) : ¬ zc (pk B (i + y)) := by
  intro hz
  have hz' : pk B (i + y) = 90 ∨ pk B (i + y) = 122 ∨ pk B (i + y) = 43 ∨ pk B (i + y) = 45 := hz
  rcases clock_bytes h y hy with h | h | h
  · have := (vD_ten _).1 h
    rcases hz' with e | e | e | e <;> rw [e] at this <;> revert this <;> decide
  · rw [h] at hz'
    revert hz'
    decide
  · rw [h] at hz'
    revert hz'
    decide
theorem clock_dtB {B : List UInt8} {i c : Nat} (h : ClockR B i c) (y : Nat) (hy : y < c) : dtB (pk B (i + y)) := by
  rcases clock_bytes h y hy with h | h | h
  · exact .inl h
  · exact .inr (.inl h)
  · exact .inr (.inr (.inr (.inr (.inl h))))
theorem figs_dtB {B : List UInt8} {i k : Nat} (h : figsAt B i k) (y : Nat) (hy : y < k) : vD (pk B (i + y)) < 10 := figv.1 (h y hy)
theorem day_bytes {B : List UInt8} {i : Nat} (h : DayR B i) (y : Nat) (hy : y < 10) : dtB (pk B (i + y)) := by
  obtain ⟨h1, h2, h3, h4, h5⟩ := h
  by_cases y4 : y < 4
  · exact .inl (figs_dtB h1 y y4)
  by_cases y5 : y = 4
  · subst y5; exact .inr (.inr (.inl h2))
  by_cases y7 : y < 7
  · have := figs_dtB h3 (y - 5) (by omega)
    rw [show i + 5 + (y - 5) = i + y by omega] at this
    exact .inl this
  by_cases y8 : y = 7
  · subst y8; exact .inr (.inr (.inl h4))
  have := figs_dtB h5 (y - 8) (by omega)
  rw [show i + 8 + (y - 8) = i + y by omega] at this
  exact .inl this
theorem day_two {B : List UInt8} {i : Nat} (h : DayR B i) : pk B (i + 2) ≠ 58 := by
  have := (vD_ten _).1 (figs_dtB h.1 2 (by decide))
  intro e
  rw [e] at this
  revert this
  decide
theorem clock_date {B : List UInt8} {i n : Nat} (h : ClockR B i n) (hf : Fol B (i + n)) : DtS B i n n ∧ DtK B i n n 13 ∧ 3 ≤ n := by
  have hin := clock_in h
  exact ⟨⟨Nat.le_refl _, fun y hy _ => clock_dtB h y hy, fun h => absurd h (Nat.lt_irrefl _), hf, hin.1⟩, .inl ⟨h.2.1, rfl⟩, by omega⟩
theorem date_scan {B : List UInt8} {i n : Nat} {kd : Int} (h : DateR B i n kd) (hf : Fol B (i + n)) : ∃ d, DtS B i n d ∧ DtK B i n d (kdP kd) ∧ 3 ≤ n ∧ 0 ≤ kd ∧ kd < 8 := by
  obtain ⟨hd, h⟩ := h
  have h2 := day_two hd
  rcases h with ⟨rfl, rfl⟩ | ⟨hb, c, hc, hcl, h⟩
  · have hin := figs_in hd.2.2.2.2 (by decide)
    exact ⟨10, ⟨Nat.le_refl _, fun y hy _ => day_bytes hd y hy, fun h => absurd h (Nat.lt_irrefl _), hf, by omega⟩, .inr (.inl ⟨h2, rfl, rfl⟩), by decide, by decide, by decide⟩
  · have hcin := clock_in hcl
    have hdl : pk B (i + 10) = 84 ∨ (pk B (i + 10) = 32 ∧ vD (pk B (i + 10 + 1)) < 10) := by
      rcases hb with h | h
      · exact .inl h
      · exact .inr ⟨h, figs_dtB hcl.1 0 (by decide)⟩
    have hlow : ∀ y, y < 11 + c → y ≠ 10 → dtB (pk B (i + y)) := fun y hy hy10 => by
      by_cases hlt : y < 10
      · exact day_bytes hd y hlt
      · have := clock_dtB hcl (y - 11) (by omega)
        rwa [show i + 11 + (y - 11) = i + y by omega] at this
    rcases h with ⟨rfl, rfl⟩ | ⟨rfl, rfl, hz⟩ | ⟨rfl, rfl, hz, hf1, h58, hf2⟩
    · refine ⟨10, ⟨by omega, hlow, fun _ => hdl, hf, by omega⟩, .inr (.inr (.inr ⟨h2, by omega, fun y hy => ?_, rfl⟩)), by omega, by decide, by decide⟩
      have := clock_noz hcl y (by omega)
      exact this
    · have hin := pk_in (B := B) (k := i + 11 + c) (by rw [hz]; decide)
      refine ⟨10, ⟨by omega, fun y hy hy10 => ?_, fun _ => hdl, hf, by omega⟩, .inr (.inr (.inl ⟨h2, by omega, ⟨c, by omega, ?_⟩, rfl⟩)), by omega, by decide, by decide⟩
      · by_cases hlt : y < 11 + c
        · exact hlow y hlt hy10
        · rw [show i + y = i + 11 + c by omega, hz]
          exact .inr (.inr (.inr (.inr (.inr rfl))))
      · have e : i + (10 + 1) + c = i + 11 + c := by omega
        rw [e]
        exact .inl hz
    · have hin := figs_in hf2 (by decide)
      refine ⟨10, ⟨by omega, fun y hy hy10 => ?_, fun _ => hdl, hf, by omega⟩, .inr (.inr (.inl ⟨h2, by omega, ⟨c, by omega, ?_⟩, rfl⟩)), by omega, by decide, by decide⟩
      · by_cases hlt : y < 11 + c
        · exact hlow y hlt hy10
        by_cases y1 : y = 11 + c
        · rw [y1, show i + (11 + c) = i + 11 + c by omega]
          rcases hz with h | h
          · exact .inr (.inr (.inr (.inl h)))
          · exact .inr (.inr (.inl h))
        by_cases y2 : y < 14 + c
        · have := figs_dtB hf1 (y - (12 + c)) (by omega)
          rw [show i + 12 + c + (y - (12 + c)) = i + y by omega] at this
          exact .inl this
        by_cases y3 : y = 14 + c
        · rw [y3, show i + (14 + c) = i + 14 + c by omega]
          exact .inr (.inl h58)
        have := figs_dtB hf2 (y - (15 + c)) (by omega)
        rw [show i + 15 + c + (y - (15 + c)) = i + y by omega] at this
        exact .inl this
      · have e : i + (10 + 1) + c = i + 11 + c := by omega
        rw [e]
        rcases hz with h | h
        · exact .inr (.inr (.inl h))
        · exact .inr (.inr (.inr h))

/-- A value has been read: its nodes behind the others. -/
def VlQ (pp db C : Nat) (B : List UInt8) (nv : Value) (ns : List PN) (g : Int) (i j d : Nat) (x : Nd) (w : World) (e : Ending) (w' : World) : Prop :=
  ∃ (h : Int) (nv' : Value) (ns' : List PN) (rest : Value) (y : PN), h = (ns.length : Int) + 1 ∧ e = .returned (.tuple #[.int .i32 h, rest, .nilIface]) ∧ At db C B j rest ∧ PS w' pp db C B nv' ns' g ∧ Fr w w' pp nv nv' ∧ Pre ns ns' ∧
    VlN (DtN w.heap.size db w' pp nv') ns' d ns.length ns'.length x ∧ ns'[ns.length]? = some y ∧ y.next = 0 ∧ ns'.length + i ≤ ns.length + j
theorem OnP.vl {pp db C : Nat} {B : List UInt8} {nv : Value} {ns : List PN} {g : Int} {i j d : Nat} {kd kind : Int} {t : List UInt8} {w : World} {e : Ending} {w' : World} (h : OnP pp db C B nv ns g j kd t w e w') (hk : kd = kdP kind) (h0 : 0 ≤ kind) (h8 : kind < 8) (hij : i < j) :
    VlQ pp db C B nv ns g i j (d + 1) (.mk kind t [] []) w e w' := by
  obtain ⟨h, nv', rest, x, hh, he, h1, h2, h3, h4, h5, h6, _⟩ := h
  exact ⟨h, nv', ns ++ [x], rest, x, hh, he, h1, h2, h3, Pre.app ns [x], ⟨x, by simp, by rw [h4, hk], .inl ⟨h0, h8, by simp, h5, rfl⟩⟩, by simp, h6, by simp; omega⟩
theorem vl_cut {B : List UInt8} {i n : Nat} : cutB B i (i + n - i) = cutB B i n := by rw [Nat.add_sub_cancel_left]
theorem sgn_none {B : List UInt8} {o s n : Nat} {kind : Int} (h : DecR B (o + s) n kind) (hs0 : s = 0) (hf : Fol B (o + s + n)) : ¬ (vD (pk B (o + 1)) < 10 ∧ pk B (o + 2) = 58) ∧ ¬ (vD (pk B (o + 1)) < 10 ∧ vD (pk B (o + 2)) < 10 ∧ vD (pk B (o + 3)) < 10 ∧ pk B (o + 4) = 45) := by
  subst hs0
  rw [Nat.add_zero] at h hf
  obtain ⟨e1, e2, e3, hg, _, hfr, hex, hn, _⟩ := h
  have hv := hg.len.2.2
  have hgm := hg.gm.1.fig (by decide) hv
  have key : ∀ p, GM B 10 p e1 → (pk B p = 58 ∨ pk B p = 45) → False := fun p hp hc => by
    have hnv : ¬ vD (pk B p) < 10 := by rcases hc with h | h <;> rw [h] <;> decide
    have he := hp.fin hnv (by rcases hc with h | h <;> rw [h] <;> decide)
    have hc1 : pk B e1 = 58 ∨ pk B e1 = 45 := by rw [he]; exact hc
    rcases hfr with ⟨_, h2⟩ | ⟨h46, _⟩
    · rw [← h2] at hc1
      rcases hex with ⟨_, _, h3⟩ | ⟨h3, _⟩
      · rw [← h3, ← hn] at hc1
        rcases hc1 with h | h
        · exact hf.ne (by decide) h
        · exact hf.ne (by decide) h
      · rcases hc1 with h | h <;> rcases h3 with h3 | h3 <;> rw [h] at h3 <;> revert h3 <;> decide
    · rcases hc1 with h | h <;> rw [h] at h46 <;> revert h46 <;> decide
  refine ⟨fun h => key (o + 2) (hgm.fig (by decide) h.1) (.inl h.2), fun h => ?_⟩
  exact key (o + 4) (((hgm.fig (by decide) h.1).fig (by decide) h.2.1).fig (by decide) h.2.2.1) (.inr h.2.2.2)

theorem val_num {w : World} {pp db C : Nat} {B : List UInt8} {nv : Value} {ns : List PN} {g : Int} {o n m x : Nat} {kind : Int} (hP : PS w pp db C B nv ns g) (h1 : o + n = B.length) (h3 : n ≤ m) (h2 : o + m = C) (hn : ns.length ≤ 300000) (hr : NumR B o x kind) (hf : Fol B (o + x)) (d : Nat) :
    Calls Tryz.prog 70 #[.pointer (some ⟨pp, 0, none⟩), .slice (some ⟨db, o, none⟩) n m] w (VlQ pp db C B nv ns g o (o + x) (d + 1) (.mk kind (cutB B o x) [] []) w) := by
  have hD := hP.dt
  cases hr with
  | date hd =>
    obtain ⟨d0, hS, hK, h3x, hk0, hk8⟩ := date_scan hd hf
    have hfg := hd.1.1
    have := val_figs hP h1 hn (figv.1 (hfg 0 (by decide))) true (dts_day (m := m) hD h1 (figv.1 (hfg 1 (by decide))) (figv.1 (hfg 2 (by decide))) (figv.1 (hfg 3 (by decide))) hd.1.2.1) (dscan_any hD h1 h3 h2 h3x hS hK)
    rw [vl_cut] at this
    exact this.mono fun e w' h => h.vl rfl hk0 hk8 (by omega)
  | clock h0 hc =>
    obtain ⟨hS, hK, h3x⟩ := clock_date hc hf
    have := val_figs hP h1 hn (figv.1 (hc.1 0 (by decide))) true (dts_hour (m := m) hD h1 (figv.1 (hc.1 1 (by decide))) hc.2.1) (dscan_any hD h1 h3 h2 h3x hS hK)
    rw [vl_cut] at this
    exact this.mono fun e w' h => h.vl rfl (by decide) (by decide) (by omega)
  | radix h0 hrad hg hx =>
    have hx1 : pk B (o + 1) = 120 ∨ pk B (o + 1) = 111 ∨ pk B (o + 1) = 98 := by
      unfold radB at hrad
      by_cases e1 : pk B (o + 1) = 120
      · exact .inl e1
      rw [if_neg e1] at hrad
      by_cases e2 : pk B (o + 1) = 111
      · exact .inr (.inl e2)
      rw [if_neg e2] at hrad
      by_cases e3 : pk B (o + 1) = 98
      · exact .inr (.inr e3)
      rw [if_neg e3] at hrad
      exact absurd rfl hrad
    have hnd : ¬ vD (pk B (o + 1)) < 10 := by rcases hx1 with h | h | h <;> rw [h] <;> decide
    have hsc : Calls Tryz.prog 89 #[.slice (some ⟨db, o, none⟩) n m] w (KdP db C B o (o + x) 11 w) := by
      rcases hx1 with h | h | h
      · exact scan_rad0 hD h1 h3 h2 h0 h (by rw [h] at hg; exact hg)
      · exact scan_rad1 hD h1 h3 h2 h0 h (by rw [h] at hg; exact hg)
      · exact scan_rad2 hD h1 h3 h2 h0 h (by rw [h] at hg; exact hg)
    have := val_figs hP h1 hn (by rw [h0]; decide) false (dts_none (m := m) hD h1 (fun h => hnd h.1) (fun h => hnd h.1)) hsc
    rw [vl_cut] at this
    exact this.mono fun e w' h => h.vl rfl (by decide) (by decide) (by omega)
  | @word s hs hw =>
    rcases hs with ⟨rfl, hsg⟩ | ⟨rfl, hs1, hs2⟩
    · have hsc : Calls Tryz.prog 89 #[.slice (some ⟨db, o, none⟩) n m] w (KdP db C B o (o + (1 + 3)) 10 w) := by
        rcases hw with ⟨g1, g2, g3⟩ | ⟨g1, g2, g3⟩
        · exact scan_inf hD h1 h3 h2 hsg g1 g2 g3
        · exact scan_nan hD h1 h3 h2 hsg g1 g2 g3
      have := val_sign hP h1 hn hsg hsc
      rw [vl_cut] at this
      exact this.mono fun e w' h => h.vl rfl (by decide) (by decide) (by omega)
    · rcases hw with ⟨g1, g2, g3⟩ | ⟨g1, g2, g3⟩
      · exact (val_inf hP h1 h3 h2 hn g1 g2 g3).mono fun e w' h => h.vl rfl (by decide) (by decide) (by omega)
      · exact (val_nan hP h1 h3 h2 hn g1 g2 g3).mono fun e w' h => h.vl rfl (by decide) (by decide) (by omega)
  | @dec s k _ hs hd hk =>
    have hd' := hd
    obtain ⟨e1, e2, e3, hg, h48, hfr, hex, hne, hkd⟩ := hd
    have he3 : o + (s + k) = e3 := by omega
    have hkk : kdP kind = if e3 = e1 then 11 else 10 := by
      rw [hkd]
      by_cases h : e3 = e1
      · rw [if_pos h, if_pos h]; rfl
      · rw [if_neg h, if_neg h]; rfl
    have hk0 : 0 ≤ kind ∧ kind < 8 := by
      rw [hkd]
      by_cases h : e3 = e1
      · rw [if_pos h]; decide
      · rw [if_neg h]; decide
    have hsc : Calls Tryz.prog 89 #[.slice (some ⟨db, o, none⟩) n m] w (KdP db C B o (o + (s + k)) (kdP kind) w) := by
      rw [he3]
      exact scan_dec hD h1 h3 h2 hs ⟨hg, h48, hfr, hex, hkk⟩ (by rw [← he3]; exact hf)
    have hlt := (grp_in hg).1
    rcases hs with ⟨rfl, hsg⟩ | ⟨rfl, hs1, hs2⟩
    · have := val_sign hP h1 hn hsg hsc
      rw [vl_cut] at this
      exact this.mono fun e w' h => h.vl rfl hk0.1 hk0.2 (by omega)
    · have hno := sgn_none hd' rfl (by rw [Nat.add_assoc]; exact hf)
      have hv := hg.len.2.2
      rw [Nat.add_zero] at hv
      have := val_figs hP h1 hn hv false (dts_none (m := m) hD h1 hno.1 hno.2) hsc
      rw [vl_cut] at this
      exact this.mono fun e w' h => h.vl rfl hk0.1 hk0.2 (by omega)
end Go.Proofs.YtalmpddmhakdmaaGreat

/-
  Boxes in memory; a part is laid behind the others (87, 88); plain: the parts' nodes. Conditions: the parser lies in memory as stated.
-/
namespace Go.Proofs.YtalmpddmhakdmaaGreat
open Go.RowKit

/-- A box of one cell, beside the parser. -/
structure Bx (w : World) (pp db : Nat) (nv : Value) (b : Nat) (v : Value) : Prop where
  cell : w.cell? ⟨b, 0, none⟩ = some v
  fz : w.frozen? ⟨b, 0, none⟩ = false
  sf : Sf w pp nv b
  ne : b ≠ db
theorem Bx.fr {w w' : World} {pp db b : Nat} {nv nv' v : Value} (h : Bx w pp db nv b v) (hf : Fr w w' pp nv nv') : Bx w' pp db nv' b v := by
  obtain ⟨h1, h2⟩ := hf.sf h.sf
  exact ⟨(World.cell?_of_block (w := w) h2).trans h.cell, (World.frozen?_of_block (w := w) h2).trans h.fz, h1, h.ne⟩
/-- A box is written. -/
theorem Bx.set {w : World} {pp db b : Nat} {nv v : Value} (h : Bx w pp db nv b v) (u : Value) : Bx (w.setCell ⟨b, 0, none⟩ u) pp db nv b u :=
  ⟨World.cell?_setCell_same w _ _ h.cell, by rw [World.frozen?_setCell]; exact h.fz, ⟨by rw [World.size_setCell]; exact h.sf.1, h.sf.2⟩, h.ne⟩
theorem Bx.other {w : World} {pp db b c : Nat} {nv v : Value} (h : Bx w pp db nv b v) (hbc : b ≠ c) (j : Nat) (u : Value) : Bx (w.setCell ⟨c, j, none⟩ u) pp db nv b v := by
  have hb : (w.setCell ⟨c, j, none⟩ u).heap[b]? = w.heap[b]? := Below.heap_setCell w _ _ b hbc
  exact ⟨(World.cell?_of_block (w := w) hb).trans h.cell, (World.frozen?_of_block (w := w) hb).trans h.fz, ⟨by rw [World.size_setCell]; exact h.sf.1, h.sf.2⟩, h.ne⟩
theorem PS.box {w : World} {pp db C b : Nat} {B : List UInt8} {nv v : Value} {ns : List PN} {g : Int} (h : PS w pp db C B nv ns g) (hb : Bx w pp db nv b v) (u : Value) : PS (w.setCell ⟨b, 0, none⟩ u) pp db C B nv ns g :=
  h.keeps (Below.heap_setCell w _ _ _ (Ne.symm hb.sf.2.1)) (Below.heap_setCell w _ _ _ (Ne.symm hb.ne)) (fun k hk => Below.heap_setCell w _ _ _ (fun e => hb.sf.2.2 (by rw [hk, e]))) (by rw [World.size_setCell]; exact Nat.le_refl _)
theorem Fr.new {w w1 : World} {pp : Nat} {nv nv1 : Value} (h : Fr w w1 pp nv nv1) {p : Addr} (hp : w.heap.size ≤ p.block) (u : Value) : Fr w (w1.setCell p u) pp nv nv1 :=
  ⟨h.os, h.tape, h.output, by rw [World.size_setCell]; exact h.size, fun b hb h1 h2 => (Below.heap_setCell w1 p u b (by omega)).trans (h.block b hb h1 h2), h.row⟩

set_option maxRecDepth 100000 in
set_option maxHeartbeats 4000000 in
theorem app87_first {w : World} {pp db C b1 b2 b3 N gb n cap : Nat} {B : List UInt8} {ns : List PN} {g h a : Int} {x : PN} (hP : PS w pp db C B (.slice (some ⟨gb, 0, none⟩) n cap) ns g) (hb1 : Bx w pp db (.slice (some ⟨gb, 0, none⟩) n cap) b1 (.pointer (some ⟨pp, 0, none⟩))) (hb2 : Bx w pp db (.slice (some ⟨gb, 0, none⟩) n cap) b2 (.int .i32 a)) (hb3 : Bx w pp db (.slice (some ⟨gb, 0, none⟩) n cap) b3 (.int .i32 0)) (ha : a = (N : Int) + 1) (hx : ns[N]? = some x) (hN : N ≤ 400000) :
    Calls Tryz.prog 87 #[.int .i32 h, .pointer (some ⟨b3, 0, none⟩), .pointer (some ⟨b1, 0, none⟩), .pointer (some ⟨b2, 0, none⟩)] w fun e w' => e = .returned (.tuple #[]) ∧ w' = (w.setCell ⟨gb, 7 * N + 6, none⟩ (.int .i32 h)).setCell ⟨b3, 0, none⟩ (.int .i32 h) := by
  have c1 := hb1.cell
  have c2 := hb2.cell
  have c3 := hb3.cell
  have hg3 : b3 ≠ gb := fun e => hb3.sf.2.2 (by rw [e]; rfl)
  have f3 : (w.setCell ⟨gb, 7 * N + 6, none⟩ (.int .i32 h)).frozen? ⟨b3, 0, none⟩ = false := by rw [World.frozen?_setCell]; exact hb3.fz
  have c3' : (w.setCell ⟨gb, 7 * N + 6, none⟩ (.int .i32 h)).cell? ⟨b3, 0, none⟩ = some (.int .i32 0) := (World.cell?_setCell_other w _ _ _ (by simp)).trans c3
  have hc := hP.node hx (k := 6) (by decide) (v := .int .i32 x.child) rfl
  have hf := hP.nodeFz (7 * N + 6)
  have HAT := Lib.hid (at_any hP (h := a) N ha (List.getElem?_eq_some_iff.1 hx).1 hN)
  clear hP hb1 hb2 hb3 hx ha
  go_enter Tryz.func87, Tryz.ntmps87
  go_wp2_with fail
  with_reducible refine HAT.out.mono ?_
  rintro e w' ⟨rfl, hw'⟩
  rw [hw']
  clear hw' w'
  go_wp2_with fail
  go_end0
  exact ⟨rfl, rfl⟩

set_option maxRecDepth 100000 in
set_option maxHeartbeats 4000000 in
theorem app87_next {w : World} {pp db C b1 b2 b3 l gb n cap : Nat} {B : List UInt8} {ns : List PN} {g h la : Int} {x : PN} (hP : PS w pp db C B (.slice (some ⟨gb, 0, none⟩) n cap) ns g) (hb1 : Bx w pp db (.slice (some ⟨gb, 0, none⟩) n cap) b1 (.pointer (some ⟨pp, 0, none⟩))) (hb3 : Bx w pp db (.slice (some ⟨gb, 0, none⟩) n cap) b3 (.int .i32 la)) (hl : la = (l : Int) + 1) (hx : ns[l]? = some x) (hN : l ≤ 400000) :
    Calls Tryz.prog 87 #[.int .i32 h, .pointer (some ⟨b3, 0, none⟩), .pointer (some ⟨b1, 0, none⟩), .pointer (some ⟨b2, 0, none⟩)] w fun e w' => e = .returned (.tuple #[]) ∧ w' = (w.setCell ⟨gb, 7 * l + 5, none⟩ (.int .i32 h)).setCell ⟨b3, 0, none⟩ (.int .i32 h) := by
  have c1 := hb1.cell
  have c3 := hb3.cell
  have hg3 : b3 ≠ gb := fun e => hb3.sf.2.2 (by rw [e]; rfl)
  have hl0 : (la == 0) = false := by rw [hl]; simp; omega
  have f3 : (w.setCell ⟨gb, 7 * l + 5, none⟩ (.int .i32 h)).frozen? ⟨b3, 0, none⟩ = false := by rw [World.frozen?_setCell]; exact hb3.fz
  have c3' : (w.setCell ⟨gb, 7 * l + 5, none⟩ (.int .i32 h)).cell? ⟨b3, 0, none⟩ = some (.int .i32 la) := (World.cell?_setCell_other w _ _ _ (by simp)).trans c3
  have hc := hP.node hx (k := 5) (by decide) (v := .int .i32 x.next) rfl
  have hf := hP.nodeFz (7 * l + 5)
  have HAT := Lib.hid (at_any hP (h := la) l hl (List.getElem?_eq_some_iff.1 hx).1 hN)
  clear hP hb1 hb3 hx hl
  go_enter Tryz.func87, Tryz.ntmps87
  go_wp2_with fail
  with_reducible refine HAT.out.mono ?_
  rintro e w' ⟨rfl, hw'⟩
  rw [hw']
  clear hw' w'
  go_wp2_with fail
  go_end0
  exact ⟨rfl, rfl⟩

set_option maxRecDepth 100000 in
set_option maxHeartbeats 4000000 in
theorem app88_first {w : World} {pp db C b1 b2 b3 N gb n cap : Nat} {B : List UInt8} {ns : List PN} {g h a : Int} {x : PN} (hP : PS w pp db C B (.slice (some ⟨gb, 0, none⟩) n cap) ns g) (hb1 : Bx w pp db (.slice (some ⟨gb, 0, none⟩) n cap) b1 (.pointer (some ⟨pp, 0, none⟩))) (hb2 : Bx w pp db (.slice (some ⟨gb, 0, none⟩) n cap) b2 (.int .i32 a)) (hb3 : Bx w pp db (.slice (some ⟨gb, 0, none⟩) n cap) b3 (.int .i32 0)) (ha : a = (N : Int) + 1) (hx : ns[N]? = some x) (hN : N ≤ 400000) :
    Calls Tryz.prog 88 #[.int .i32 h, .pointer (some ⟨b3, 0, none⟩), .pointer (some ⟨b1, 0, none⟩), .pointer (some ⟨b2, 0, none⟩)] w fun e w' => e = .returned (.tuple #[]) ∧ w' = (w.setCell ⟨gb, 7 * N + 6, none⟩ (.int .i32 h)).setCell ⟨b3, 0, none⟩ (.int .i32 h) := by
  have c1 := hb1.cell
  have c2 := hb2.cell
  have c3 := hb3.cell
  have hg3 : b3 ≠ gb := fun e => hb3.sf.2.2 (by rw [e]; rfl)
  have f3 : (w.setCell ⟨gb, 7 * N + 6, none⟩ (.int .i32 h)).frozen? ⟨b3, 0, none⟩ = false := by rw [World.frozen?_setCell]; exact hb3.fz
  have c3' : (w.setCell ⟨gb, 7 * N + 6, none⟩ (.int .i32 h)).cell? ⟨b3, 0, none⟩ = some (.int .i32 0) := (World.cell?_setCell_other w _ _ _ (by simp)).trans c3
  have hc := hP.node hx (k := 6) (by decide) (v := .int .i32 x.child) rfl
  have hf := hP.nodeFz (7 * N + 6)
  have HAT := Lib.hid (at_any hP (h := a) N ha (List.getElem?_eq_some_iff.1 hx).1 hN)
  clear hP hb1 hb2 hb3 hx ha
  go_enter Tryz.func88, Tryz.ntmps88
  go_wp2_with fail
  with_reducible refine HAT.out.mono ?_
  rintro e w' ⟨rfl, hw'⟩
  rw [hw']
  clear hw' w'
  go_wp2_with fail
  go_end0
  exact ⟨rfl, rfl⟩

set_option maxRecDepth 100000 in
set_option maxHeartbeats 4000000 in
theorem app88_next {w : World} {pp db C b1 b2 b3 l gb n cap : Nat} {B : List UInt8} {ns : List PN} {g h la : Int} {x : PN} (hP : PS w pp db C B (.slice (some ⟨gb, 0, none⟩) n cap) ns g) (hb1 : Bx w pp db (.slice (some ⟨gb, 0, none⟩) n cap) b1 (.pointer (some ⟨pp, 0, none⟩))) (hb3 : Bx w pp db (.slice (some ⟨gb, 0, none⟩) n cap) b3 (.int .i32 la)) (hl : la = (l : Int) + 1) (hx : ns[l]? = some x) (hN : l ≤ 400000) :
    Calls Tryz.prog 88 #[.int .i32 h, .pointer (some ⟨b3, 0, none⟩), .pointer (some ⟨b1, 0, none⟩), .pointer (some ⟨b2, 0, none⟩)] w fun e w' => e = .returned (.tuple #[]) ∧ w' = (w.setCell ⟨gb, 7 * l + 5, none⟩ (.int .i32 h)).setCell ⟨b3, 0, none⟩ (.int .i32 h) := by
  have c1 := hb1.cell
  have c3 := hb3.cell
  have hg3 : b3 ≠ gb := fun e => hb3.sf.2.2 (by rw [e]; rfl)
  have hl0 : (la == 0) = false := by rw [hl]; simp; omega
  have f3 : (w.setCell ⟨gb, 7 * l + 5, none⟩ (.int .i32 h)).frozen? ⟨b3, 0, none⟩ = false := by rw [World.frozen?_setCell]; exact hb3.fz
  have c3' : (w.setCell ⟨gb, 7 * l + 5, none⟩ (.int .i32 h)).cell? ⟨b3, 0, none⟩ = some (.int .i32 la) := (World.cell?_setCell_other w _ _ _ (by simp)).trans c3
  have hc := hP.node hx (k := 5) (by decide) (v := .int .i32 x.next) rfl
  have hf := hP.nodeFz (7 * l + 5)
  have HAT := Lib.hid (at_any hP (h := la) l hl (List.getElem?_eq_some_iff.1 hx).1 hN)
  clear hP hb1 hb3 hx hl
  go_enter Tryz.func88, Tryz.ntmps88
  go_wp2_with fail
  with_reducible refine HAT.out.mono ?_
  rintro e w' ⟨rfl, hw'⟩
  rw [hw']
  clear hw' w'
  go_wp2_with fail
  go_end0
  exact ⟨rfl, rfl⟩
end Go.Proofs.YtalmpddmhakdmaaGreat

/-
  Plain: the parts of a list or a table, one more behind the others; how far the blanks, ends of lines and remarks between them reach. Conditions: as each lemma states.
-/
namespace Go.Proofs.YtalmpddmhakdmaaGreat
open Go.RowKit

/-- What is told of a part by its nodes: it keeps where they do. -/
structure ItP (I : (Value → List UInt8 → Prop) → List PN → Nat → Nat → Nd → Prop) : Prop where
  lt : ∀ M ns a b v, I M ns a b v → a < b
  same : ∀ (M M' : Value → List UInt8 → Prop) ns ns' a b v, (∀ v t, M v t → M' v t) → I M ns a b v → Al ns ns' a → (∀ j, a < j → j < b → ns'[j]? = ns[j]?) → I M' ns' a b v
theorem itp_vl (d : Nat) : ItP fun M ns a b v => VlN M ns d a b v := ⟨fun _ _ _ _ _ => VlN.lt, fun _ _ _ _ _ _ _ hM h ha hs => h.same hM ha hs⟩
theorem itp_kv (d : Nat) : ItP fun M ns a b v => KvN M (VlN M ns d) ns a b v :=
  ⟨fun _ _ _ _ _ => KvN.lt, fun _ _ _ _ _ _ _ hM h ha hs => KvN.same hM (fun _ _ _ => VlN.lt) h (fun a' h1 h2 => by
    have := VlN.lt h2
    exact h2.same hM (.of (hs a' h1 this)) fun j hj1 hj2 => hs j (by omega) hj2) ha hs⟩
/-- The parts so far, behind a node at N; the number of the last one's node. -/
def AIt (I : (Value → List UInt8 → Prop) → List PN → Nat → Nat → Nd → Prop) (M : Value → List UInt8 → Prop) (ns : List PN) (N : Nat) (vs : List Nd) (la : Int) : Prop :=
  (vs = [] ∧ la = 0 ∧ ns.length = N + 1) ∨ ∃ l : Nat, vs ≠ [] ∧ la = (l : Int) + 1 ∧ ItN (I M ns) ns (N + 1) l ns.length vs
/-- The first part. -/
theorem AIt.first {I : (Value → List UInt8 → Prop) → List PN → Nat → Nat → Nd → Prop} (hI : ItP I) {M M' : Value → List UInt8 → Prop} {ns ns' : List PN} {N : Nat} {v : Nd} {x' y : PN} (hN : ns.length = N + 1) (hv : I M ns' ns.length ns'.length v) (hM : ∀ v t, M v t → M' v t) (hy : ns'[ns.length]? = some y) (hy0 : y.next = 0) :
    AIt I M' (ns'.set N x') N [v] ((ns.length : Int) + 1) := by
  refine .inr ⟨ns.length, by simp, rfl, ?_⟩
  rw [List.length_set, ← hN]
  refine .one (hI.same _ _ _ _ _ _ _ hM hv (.of ?_) fun j hj1 hj2 => ?_) (x := y) ?_ hy0
  · rw [List.getElem?_set_ne (by omega)]
  · rw [List.getElem?_set_ne (by omega)]
  · rw [List.getElem?_set_ne (by omega)]
    exact hy
/-- One more part. -/
theorem AIt.more {I : (Value → List UInt8 → Prop) → List PN → Nat → Nat → Nd → Prop} (hI : ItP I) {M1 M M' : Value → List UInt8 → Prop} {ns ns' : List PN} {N l : Nat} {vs : List Nd} {v : Nd} {x y : PN} (h : ItN (I M1 ns) ns (N + 1) l ns.length vs) (hM1 : ∀ v t, M1 v t → M' v t) (hpre : Pre ns ns') (hlen : ns.length ≤ ns'.length)
    (hv : I M ns' ns.length ns'.length v) (hM : ∀ v t, M v t → M' v t) (hx : ns'[l]? = some x) (hy : ns'[ns.length]? = some y) (hy0 : y.next = 0) :
    AIt I M' (ns'.set l { x with next := ((ns.length + 1 : Nat) : Int) }) N (vs ++ [v]) ((ns.length : Int) + 1) := by
  have hl := h.le (fun a b v hv => hI.lt _ _ _ _ _ hv)
  refine .inr ⟨ns.length, by simp, rfl, ?_⟩
  rw [List.length_set]
  have hset : ∀ j, j ≠ l → (ns'.set l { x with next := ((ns.length + 1 : Nat) : Int) })[j]? = ns'[j]? := fun j hj => List.getElem?_set_ne (Ne.symm hj)
  have hself : (ns'.set l { x with next := ((ns.length + 1 : Nat) : Int) })[l]? = some { x with next := ((ns.length + 1 : Nat) : Int) } := List.getElem?_set_self (by omega)
  refine ItN.snoc (fun a b v hv => hI.lt _ _ _ _ _ hv) h (fun a b v' ha hb hor hv' => ?_) (fun j hj1 hj2 hj3 => ?_) hself rfl ?_ (y := y) ?_ hy0
  · have hab := hI.lt _ _ _ _ _ hv'
    refine hI.same _ _ _ _ _ _ _ hM1 hv' ?_ fun j hj1 hj2 => ?_
    · by_cases hal : a = l
      · subst hal
        intro z hz
        have : ns'[a]? = some z := (hpre a (by omega)).trans hz
        rw [hx] at this
        cases this
        exact ⟨_, hself, rfl, rfl, rfl⟩
      · refine .of ?_
        rw [hset a hal]
        exact hpre a (by omega)
    · have hjl : j ≠ l := by omega
      rw [hset j hjl]
      exact hpre j (by omega)
  · rw [hset j hj3]
    exact hpre j hj2
  · exact hI.same _ _ _ _ _ _ _ hM hv (.of (hset _ (by omega))) fun j hj1 hj2 => hset j (by omega)
  · rw [hset _ (by omega)]
    exact hy
/-- What the node at N tells of its parts. -/
theorem AIt.part {I : (Value → List UInt8 → Prop) → List PN → Nat → Nat → Nd → Prop} {M : Value → List UInt8 → Prop} {ns : List PN} {N : Nat} {vs : List Nd} {la c : Int} (h : AIt I M ns N vs la) (hc : c = if vs = [] then (0 : Int) else ((N + 2 : Nat) : Int)) : PtN (ItN (I M ns) ns) (N + 1) ns.length c vs := by
  rcases h with ⟨rfl, _, h⟩ | ⟨l, h1, _, h2⟩
  · exact .inl ⟨rfl, h, by rw [hc, if_pos rfl]⟩
  · exact .inr ⟨by rw [hc, if_neg h1], l, h2⟩
theorem AIt.same {I : (Value → List UInt8 → Prop) → List PN → Nat → Nat → Nd → Prop} (hI : ItP I) {M M' : Value → List UInt8 → Prop} {ns : List PN} {N : Nat} {vs : List Nd} {la : Int} (h : AIt I M ns N vs la) (hM : ∀ v t, M v t → M' v t) : AIt I M' ns N vs la := by
  rcases h with h | ⟨l, h1, h2, h3⟩
  · exact .inl h
  · exact .inr ⟨l, h1, h2, h3.same (fun a b v hv => hI.lt _ _ _ _ _ hv) (fun a b v _ _ hv => hI.same _ _ _ _ _ _ _ hM hv (.of rfl) fun _ _ _ => rfl) fun _ _ _ => rfl⟩

/-- The next step over blanks, ends of lines and remarks. -/
theorem Sp.view {B : List UInt8} {i m : Nat} (h : Sp B i m) (hm : m < B.length) (h35 : pk B m ≠ 35) :
    (skp B i = m ∧ lnN B m = 0) ∨ (pk B (skp B i) = 10 ∧ Sp B (skp B i + 1) m) ∨ (pk B (skp B i) = 13 ∧ pk B (skp B i + 1) = 10 ∧ Sp B (skp B i + 2) m) ∨ (pk B (skp B i) = 35 ∧ ∃ m1, Cm B (skp B i) m1 ∧ skp B i < m1 ∧ Sp B m1 m) := by
  cases h with
  | stop h1 h2 =>
    rcases h1 with ⟨g1, g2⟩ | ⟨g1, rfl⟩
    · have hne : skp B i ≠ m := fun e => h35 (by rw [← e]; exact g1)
      have : B.length ≤ m ∨ lnN B m ≠ 0 := by
        have key : ∀ {a b : Nat}, Cm B a b → B.length ≤ b ∨ lnN B b ≠ 0 := fun hab => by
          induction hab with
          | stop h => exact h
          | step _ _ _ _ ih => exact ih
        exact key g2
      rcases this with h | h
      · omega
      · exact absurd h2 h
    · exact .inl ⟨rfl, h2⟩
  | more h1 h2 h3 =>
    rename_i m1
    rcases h1 with ⟨g1, g2⟩ | ⟨g1, rfl⟩
    · refine .inr (.inr (.inr ⟨g1, m1, g2, ?_, ?_⟩))
      · have hin : skp B i < B.length := pk_in (by rw [g1]; decide)
        have := (g2.le (Nat.le_of_lt hin)).1
        have hne : skp B i ≠ m1 := fun e => by
          rw [← e] at h2
          rcases lnN_cases h2 with h | ⟨h, _⟩ <;> rw [g1] at h <;> revert h <;> decide
        omega
      · have hnb : bl (pk B m1) = false := by rcases lnN_cases h2 with h | ⟨h, _⟩ <;> rw [h] <;> rfl
        have hs := skp_stop hnb
        refine .more (m := m1) ?_ h2 h3
        rw [hs]
        refine .inr ⟨?_, rfl⟩
        rcases lnN_cases h2 with h | ⟨h, _⟩ <;> rw [h] <;> decide
    · rcases lnN_cases h2 with h | ⟨h, h'⟩
      · refine .inr (.inl ⟨h, ?_⟩)
        have : lnN B (skp B i) = 1 := by unfold lnN; rw [if_pos h]
        rwa [this] at h3
      · refine .inr (.inr (.inl ⟨h, h', ?_⟩))
        have : lnN B (skp B i) = 2 := by unfold lnN; rw [if_neg (by rw [h]; decide), if_pos ⟨h, h'⟩]
        rwa [this] at h3
/-- The byte that a number begins with. -/
theorem NumR.byte {B : List UInt8} {i n : Nat} {kind : Int} (h : NumR B i n kind) : 0 < n ∧ (vD (pk B i) < 10 ∨ pk B i = 43 ∨ pk B i = 45 ∨ pk B i = 105 ∨ pk B i = 110) := by
  cases h with
  | date hd =>
    have h0 := figv.1 (hd.1.1 0 (by decide))
    refine ⟨?_, .inl h0⟩
    rcases hd.2 with ⟨_, h⟩ | ⟨_, c, _, _, ⟨_, h⟩ | ⟨_, h, _⟩ | ⟨_, h, _⟩⟩ <;> omega
  | clock h0 hc => exact ⟨h0, .inl (figv.1 (hc.1 0 (by decide)))⟩
  | radix h0 _ _ hx => exact ⟨by omega, .inl (by rw [h0]; decide)⟩
  | word hs hw =>
    refine ⟨by omega, ?_⟩
    rcases hs with ⟨rfl, h | h⟩ | ⟨rfl, _, _⟩
    · exact .inr (.inl h)
    · exact .inr (.inr (.inl h))
    · rcases hw with ⟨h, _⟩ | ⟨h, _⟩
      · exact .inr (.inr (.inr (.inl h)))
      · exact .inr (.inr (.inr (.inr h)))
  | dec hs hd hk =>
    obtain ⟨e1, e2, e3, hg, _⟩ := hd
    refine ⟨by omega, ?_⟩
    rcases hs with ⟨rfl, h | h⟩ | ⟨rfl, _, _⟩
    · exact .inr (.inl h)
    · exact .inr (.inr (.inl h))
    · exact .inl hg.len.2.2
end Go.Proofs.YtalmpddmhakdmaaGreat

/-
  The walk of a function of the parser: a key with its value (62), by the contract of a value. Conditions: the parser lies in memory as stated.
-/
namespace Go.Proofs.YtalmpddmhakdmaaGreat
open Go.RowKit

/-- The byte that a value begins with. -/
theorem ValR.byte {B : List UInt8} {d i j : Nat} {v : Nd} (h : ValR B d i j v) : i < B.length ∧ (pk B i = 34 ∨ pk B i = 39 ∨ pk B i = 116 ∨ pk B i = 102 ∨ vD (pk B i) < 10 ∨ pk B i = 43 ∨ pk B i = 45 ∨ pk B i = 105 ∨ pk B i = 110 ∨ pk B i = 91 ∨ pk B i = 123) := by
  have key : pk B i = 34 ∨ pk B i = 39 ∨ pk B i = 116 ∨ pk B i = 102 ∨ vD (pk B i) < 10 ∨ pk B i = 43 ∨ pk B i = 45 ∨ pk B i = 105 ∨ pk B i = 110 ∨ pk B i = 91 ∨ pk B i = 123 := by
    cases d with
    | zero => exact h.elim
    | succ d =>
      rcases h with h | ⟨h, _⟩ | ⟨h, _⟩ | ⟨h, _⟩
      · cases h with
        | lines hq h3 _ => rcases hq with rfl | rfl <;> simp [h3.1]
        | text hq h3 _ _ => rcases hq with rfl | rfl <;> simp [h3]
        | yes h3 _ _ _ => simp [h3]
        | no h3 _ _ _ _ => simp [h3]
        | num h3 =>
          rcases h3.byte.2 with h | h | h | h | h
          · exact .inr (.inr (.inr (.inr (.inl h))))
          all_goals simp [h]
      all_goals simp [h]
  refine ⟨pk_in fun e => ?_, key⟩
  rw [e] at key
  revert key
  decide
theorem ValR.byte_ne {B : List UInt8} {d i j : Nat} {v : Nd} (h : ValR B d i j v) : pk B i ≠ 93 ∧ pk B i ≠ 10 ∧ pk B i ≠ 13 ∧ pk B i ≠ 35 ∧ pk B i ≠ 44 ∧ pk B i ≠ 125 := by
  have hb := h.byte.2
  refine ⟨?_, ?_, ?_, ?_, ?_, ?_⟩ <;> intro e <;> rw [e] at hb <;> revert hb <;> decide
/-- The contract of a value, with so many levels left. -/
def ValC (d : Nat) : Prop := ∀ (w : World) (pp db C : Nat) (B : List UInt8) (nv : Value) (ns : List PN) (g : Int) (i j : Nat) (x : Nd) (v : Value), PS w pp db C B nv ns g → At db C B i v → ValR B d i j x → Fol B j → ns.length ≤ i + 100 → 0 ≤ g ∧ g + d ≤ 1000 →
  Calls Tryz.prog 70 #[.pointer (some ⟨pp, 0, none⟩), v] w (VlQ pp db C B nv ns g i j d x w)
/-- A key with its value has been read. -/
def KvQ (pp db C : Nat) (B : List UInt8) (nv : Value) (ns : List PN) (g : Int) (i j d : Nat) (x : Nd) (w : World) (e : Ending) (w' : World) : Prop :=
  ∃ (h : Int) (nv' : Value) (ns' : List PN) (rest : Value) (y : PN), h = (ns.length : Int) + 1 ∧ e = .returned (.tuple #[.int .i32 h, rest, .nilIface]) ∧ At db C B j rest ∧ PS w' pp db C B nv' ns' g ∧ Fr w w' pp nv nv' ∧ Pre ns ns' ∧
    KvN (DtN w.heap.size db w' pp nv') (VlN (DtN w.heap.size db w' pp nv') ns' d) ns' ns.length ns'.length x ∧ ns'[ns.length]? = some y ∧ y.next = 0 ∧ ns'.length + i ≤ ns.length + j
theorem KvQ.mk {pp db C : Nat} {B : List UInt8} {nv : Value} {ns : List PN} {g : Int} {i j d : Nat} {x : Nd} {w : World} {e : Ending} {w' : World} {nv' : Value} {ns' : List PN} (h : Int) (rest : Value) (y : PN) (h1 : PS w' pp db C B nv' ns' g) (h2 : h = (ns.length : Int) + 1) (h3 : e = .returned (.tuple #[.int .i32 h, rest, .nilIface])) (h4 : At db C B j rest) (h5 : Fr w w' pp nv nv') (h6 : Pre ns ns')
    (h7 : KvN (DtN w.heap.size db w' pp nv') (VlN (DtN w.heap.size db w' pp nv') ns' d) ns' ns.length ns'.length x) (h8 : ns'[ns.length]? = some y) (h9 : y.next = 0) (h10 : ns'.length + i ≤ ns.length + j) : KvQ pp db C B nv ns g i j d x w e w' := ⟨h, nv', ns', rest, y, h2, h3, h4, h1, h5, h6, h7, h8, h9, h10⟩
theorem VlN.wk {M : Value → List UInt8 → Prop} {ns : List PN} {d lo hi : Nat} {x : Nd} (h : VlN M ns d lo hi x) (ks : List (List UInt8)) : VlN M ns d lo hi (x.wk ks) := by
  cases d with
  | zero => exact h.elim
  | succ d =>
    obtain ⟨kind, text, items, keys⟩ := x
    exact h
theorem wk_ks (x : Nd) (ks : List (List UInt8)) : (x.wk ks).ks = ks := by
  obtain ⟨kind, text, items, keys⟩ := x
  rfl
/-- Behind a key and its value: the nodes are tied. -/
theorem kv_nodes {M2 M3 M : Value → List UInt8 → Prop} {ns2 ns3 ns6 : List PN} {N d : Nat} {ks : List (List UInt8)} {x : Nd} {r6 y y6 : PN} (hk : ks ≠ []) (hl2 : ns2.length = N + 1 + ks.length) (hky : KyN M2 ns2 (N + 1) ks) (hpre : Pre ns2 ns3)
    (hv : VlN M3 ns3 d ns2.length ns3.length x) (hM2 : ∀ v t, M2 v t → M v t) (hM3 : ∀ v t, M3 v t → M v t) (hl6 : ns6.length = ns3.length) (h6 : ∀ k, k ≠ N → k ≠ ns2.length → ns6[k]? = ns3[k]?) (hr : ns6[N]? = some r6) (hr5 : r6.kind = 5) (hrc : r6.child = (ns2.length : Int) + 1)
    (hy3 : ns3[ns2.length]? = some y) (hy : ns6[ns2.length]? = some y6) (hyk : y6.kind = y.kind ∧ y6.data = y.data ∧ y6.child = y.child) (hyn : y6.next = ((N + 2 : Nat) : Int)) :
    KvN M (VlN M ns6 d) ns6 N ns6.length (x.wk ks) := by
  refine ⟨r6, y6, hr, hr5, ?_, by rw [wk_ks]; exact hk, by rw [wk_ks, hrc, hl2]; omega, ?_, by rw [wk_ks, ← hl2]; exact hy, hyn⟩
  · rw [wk_ks]
    refine hky.same hM2 fun j hj1 hj2 => ?_
    rw [h6 j (by omega) (by omega)]
    exact hpre j (by omega)
  · rw [wk_ks, ← hl2, hl6]
    refine (hv.same hM3 (fun z hz => ?_) fun j hj1 hj2 => h6 j (by omega) (by omega)).wk ks
    rw [hy3] at hz
    cases hz
    exact ⟨y6, hy, hyk.1, hyk.2.1, hyk.2.2⟩

set_option maxRecDepth 100000 in
set_option maxHeartbeats 8000000 in
theorem keyval_any {d : Nat} (HV : ValC d) {w : World} {pp db C : Nat} {B : List UInt8} {nv : Value} {ns : List PN} {g : Int} {i k j : Nat} {x : Nd} {v : Value} {ks : List (List UInt8)} (hP : PS w pp db C B nv ns g) (hv : At db C B (skp B i) v) (hk : KyR B i k ks) (h61 : pk B k = 61) (hx : ValR B d (skp B (k + 1)) j x) (hf : Fol B j)
    (hn : ns.length ≤ i + 100) (hg : 0 ≤ g ∧ g + d ≤ 1000) :
    Calls Tryz.prog 62 #[.pointer (some ⟨pp, 0, none⟩), v] w (KvQ pp db C B nv ns g i j d (x.wk ks) w) := by
  have hlk := hk.len
  have hkin := pk_in (B := B) (k := k) (by rw [h61]; decide)
  have hB := hP.dt.len
  have hV := Lib.hid hv
  have HK := Lib.hid hk
  have HX := Lib.hid (And.intro hx (And.intro hf hg))
  have HP := Lib.hid hP
  have H61 := Lib.hid h61
  obtain ⟨N, hN⟩ : ∃ N, ns.length = N := ⟨_, rfl⟩
  have HN := Lib.hid hN
  have HPU := Lib.hid (push_to hP (by omega) 5 0 0 (.slice none 0 0) rfl)
  rw [hN] at hn
  clear hP hv hk hx hf hg h61 hN
  go_enter Tryz.func62, Tryz.ntmps62
  go_wp2_with fail
  with_reducible refine HPU.out.mono ?_
  rintro e w1 ⟨nv1, rfl, hP1, hF1⟩
  obtain ⟨h0, hh0⟩ : ∃ h0 : Int, ((ns.length + 1 : Nat) : Int) = h0 := ⟨_, rfl⟩
  rw [hh0]
  have HH0 := Lib.hid (show h0 = (N : Int) + 1 by rw [← hh0, HN.out]; rfl)
  clear hh0
  have hl1 : (ns ++ [⟨5, 0, 0, .slice none 0 0, 0, 0⟩] : List PN).length = N + 1 := by simp [HN.out]
  have HL1 := Lib.hid hl1
  have HKY := Lib.hid (pkey_any hP1 hV.out HK.out (by omega))
  have HF1 := Lib.hid hF1
  have HP1 := Lib.hid hP1
  clear hP1 hF1 HPU hl1
  go_wp2_with fail
  with_reducible refine HKY.out.mono ?_
  rintro e w2 ⟨h1, nv2, ns2, rest2, hh1, rfl, hrest2, hP2, hF2, hl2, hpre2, hky2⟩
  obtain ⟨o2, n2, m2, rfl, g1, g2, g3, g4⟩ := hrest2
  have hn2 : 0 < n2 := by omega
  have ho := (g4 hn2).symm
  subst ho
  have hc := hP2.dt.pk (i := k) hkin
  rw [H61.out] at hc
  have HQ := Lib.hid (fun (v : Value) (hv : At db C B (k + 1) v) => skip_any hP2.dt hv)
  have HP2 := Lib.hid hP2
  have HF2 := Lib.hid hF2
  have HKN := Lib.hid (And.intro hh1 (And.intro hl2 (And.intro hpre2 hky2)))
  have hsk := skp_ge B (k + 1)
  clear hh1 hP2 hF2 hl2 hpre2 hky2 g4 HKY
  have hm1 : ¬ m2 = 1 := by
    intro e
    have : B.length ≤ k + 1 := by omega
    have := HX.out.1.byte.1
    omega
  go_wp2_with fail
  with_reducible refine (HQ.out _ (At.mk _ _ _ rfl (by omega) (by omega) (by omega) (fun _ => rfl))).mono ?_
  rintro e w' ⟨⟨v3, rfl, hv3⟩, hw'⟩
  rw [hw']
  clear hw' w'
  have hl2' : ns2.length = N + 1 + ks.length := by rw [HKN.out.2.1, HL1.out]
  have HVL := Lib.hid (HV w2 pp db C B nv2 ns2 g _ _ _ _ HP2.out hv3 HX.out.1 HX.out.2.1 (by omega) HX.out.2.2)
  have HL2 := Lib.hid hl2'
  clear hv3 HQ hl2'
  go_wp2_with fail
  with_reducible refine HVL.out.mono ?_
  rintro e w3 ⟨h3, nv3, ns3, rest3, y3, hh3, rfl, hrest3, hP3, hF3, hpre3, hvl3, hy3, hyn3, hlen3⟩
  have hlt3 := hvl3.lt
  obtain ⟨gb, cap, hnv3, _⟩ := hP3.lt (by omega)
  subst hnv3
  have hN2 : N < ns2.length := by have := HL2.out; omega
  obtain ⟨r, hr⟩ : ∃ r, ns3[N]? = some r := ⟨_, List.getElem?_eq_getElem (by omega)⟩
  have hr0 : r = ⟨5, 0, 0, .slice none 0 0, 0, 0⟩ := by
    have e1 := (hpre3 N hN2).symm.trans hr
    have e2 := HKN.out.2.2.1 N (by rw [HL1.out]; omega)
    rw [e1, List.getElem?_append_right (by have := HN.out; omega), HN.out, Nat.sub_self] at e2
    simpa using e2
  have HR := Lib.hid (And.intro hr hr0)
  have HY := Lib.hid (And.intro hy3 hyn3)
  have HREST := Lib.hid hrest3
  have HV3 := Lib.hid hvl3
  have HPRE3 := Lib.hid hpre3
  have HH3 := Lib.hid hh3
  have HF3 := Lib.hid hF3
  have HLEN3 := Lib.hid hlen3
  have HP3 := Lib.hid hP3
  have HA0 := Lib.hid (at_any hP3 (h := h0) N HH0.out (by omega) (by omega))
  have c1 := hP3.node hr (k := 6) (by decide) (v := .int .i32 r.child) rfl
  have f1 := hP3.nodeFz (7 * N + 6)
  have HS4 := Lib.hid (hP3.setChild hr h3)
  clear hr hr0 hy3 hyn3 hrest3 hvl3 hpre3 hh3 hF3 hlen3 hP3 HVL
  go_wp2_with fail
  with_reducible refine HA0.out.mono ?_
  rintro e w' ⟨rfl, hw'⟩
  rw [hw']
  clear hw' w'
  obtain ⟨w4, hw4⟩ : ∃ w4 : World, w3.setCell ⟨gb, 7 * N + 6, none⟩ (.int .i32 h3) = w4 := ⟨_, rfl⟩
  rw [hw4] at HS4
  have hp4 := HS4.out.1
  have hy4 : (ns3.set N { r with child := h3 })[ns2.length]? = some y3 := by rw [List.getElem?_set_ne (by omega)]; exact HY.out.1
  have HA1 := Lib.hid (at_any hp4 (h := h3) ns2.length HH3.out (by rw [List.length_set]; omega) (by have := HL2.out; omega))
  have c2 := hp4.node hy4 (k := 5) (by decide) (v := .int .i32 y3.next) rfl
  have f2 := hp4.nodeFz (7 * ns2.length + 5)
  have HS5 := Lib.hid (hp4.setNext hy4 h1)
  obtain ⟨L, hL⟩ : ∃ L, ns2.length = L := ⟨_, rfl⟩
  rw [hL] at HA1 c2 f2 HS5
  clear hp4 hy4 HA0
  go_wp2_with fail
  clear hw4 c1 f1
  with_reducible refine HA1.out.mono ?_
  rintro e w' ⟨rfl, hw'⟩
  rw [hw']
  clear hw' w'
  obtain ⟨w5, hw5⟩ : ∃ w5 : World, w4.setCell ⟨gb, 7 * L + 5, none⟩ (.int .i32 h1) = w5 := ⟨_, rfl⟩
  rw [hw5] at HS5
  have hp5 := HS5.out.1
  have HA2 := Lib.hid (at_any hp5 (h := h0) N HH0.out (by simp; omega) (by omega))
  have HFR := Lib.hid (from_any hp5 hV.out HREST.out)
  have hr5 : ((ns3.set N { r with child := h3 }).set L { y3 with next := h1 })[N]? = some { r with child := h3 } := by
    rw [List.getElem?_set_ne (by omega), List.getElem?_set_self (by omega)]
  have HR5 := Lib.hid hr5
  clear hr5 hp5 HA1
  go_wp2_with fail
  clear hw5 c2 f2
  with_reducible refine HA2.out.mono ?_
  rintro e w' ⟨rfl, hw'⟩
  rw [hw']
  clear hw' w'
  go_wp2_with fail
  with_reducible refine HFR.out.mono ?_
  rintro e w6 ⟨⟨ox, lx, rfl⟩, hg6⟩
  have hp6 := HS5.out.1.grown hg6
  have HS6 := Lib.hid (hp6.setOff HR5.out ox)
  have c3 := hp6.node HR5.out (k := 1) (by decide) (v := .int .u32 r.off) rfl
  have c4 := hp6.node HR5.out (k := 2) (by decide) (v := .int .u32 r.len) rfl
  have f3 := hp6.nodeFz (7 * N + 1)
  have f4 := hp6.nodeFz (7 * N + 2)
  clear HFR HA2
  go_wp2_with fail
  go_ret3
  have hs7 := HS6.out
  have hlN : N < ((ns3.set N { r with child := h3 }).set L { y3 with next := h1 }).length := by simp; omega
  have hr7 := List.getElem?_set_self (l := (ns3.set N { r with child := h3 }).set L { y3 with next := h1 }) (i := N) (a := { { r with child := h3 } with off := ox }) hlN
  have hs8 := hs7.1.setLen hr7 lx
  have hLN : L ≠ N := by omega
  have hl2 := HL2.out
  have hL1 := HL1.out
  have hFa : Fr w3 _ pp _ _ := HS4.out.2.trans (HS5.out.2.trans ((Fr.grown pp _ hg6).trans (hs7.2.trans hs8.2)))
  have hF3 := HF3.out
  have hF2 := HF2.out
  have hF1 := HF1.out
  have hnl := HN.out
  subst hL
  refine KvQ.mk h0 rest3 { { { r with child := h3 } with off := ox } with len := lx } hs8.1 (by rw [HH0.out, hnl]) rfl HREST.out (hF1.trans (hF2.trans (hF3.trans hFa))) ?_ ?_ ?_ ?_ ?_
  · refine Pre.set (Pre.set (Pre.set (Pre.set ?_ (by omega) _) (by omega) _) (by omega) _) (by omega) _
    exact ((Pre.app ns _).trans HKN.out.2.2.1 (by simp)).trans HPRE3.out (by omega)
  · rw [hnl]
    refine kv_nodes (M2 := DtN w1.heap.size db w2 pp nv2) (M3 := DtN w2.heap.size db w3 pp (.slice (some ⟨gb, 0, none⟩) ns3.length cap)) (y := y3) (y6 := { y3 with next := h1 }) (r6 := { { { r with child := h3 } with off := ox } with len := lx }) HK.out.len.1 (ns2 := ns2) (ns3 := ns3) hl2 (by have := HKN.out.2.2.2; rwa [hL1] at this) HPRE3.out HV3.out
      (fun v t hm => hFa.dtn (hF3.dtn (hm.weak hF1.size))) (fun v t hm => hFa.dtn (hm.weak (Nat.le_trans hF1.size hF2.size))) (by simp) (fun q hq1 hq2 => ?_) ?_ (by rw [HR.out.2]) HH3.out HY.out.1 ?_ ⟨rfl, rfl, rfl⟩ (by have := HKN.out.1; rw [hL1] at this; show h1 = _; omega)
    · rw [List.getElem?_set_ne (by omega), List.getElem?_set_ne (by omega), List.getElem?_set_ne (by omega), List.getElem?_set_ne (by omega)]
    · exact List.getElem?_set_self (by simp; omega)
    · rw [List.getElem?_set_ne (by omega), List.getElem?_set_ne (by omega), List.getElem?_set_self (by simp; omega)]
  · rw [hnl]
    exact List.getElem?_set_self (by simp; omega)
  · rw [HR.out.2]
  · have := HLEN3.out
    simp only [List.length_set]
    omega
end Go.Proofs.YtalmpddmhakdmaaGreat

/-
  The walk of a function of the parser: a list (78), by the contract of a value. Conditions: the parser lies in memory as stated.
-/
namespace Go.Proofs.YtalmpddmhakdmaaGreat
open Go.RowKit

/-- What is left of a list: from a place on, behind a value or not; the values so far, all of them. -/
def LsR (B : List UInt8) (V : Nat → Nat → Nd → Prop) (i j : Nat) (av : Bool) (v1 vs : List Nd) : Prop :=
  ∃ m, Sp B i m ∧ ((pk B m = 93 ∧ j = m + 1 ∧ vs = v1) ∨ (av = true ∧ pk B m = 44 ∧ ∃ v2, ItR B V (m + 1) j v2 ∧ vs = v1 ++ v2) ∨
    (av = false ∧ ∃ n o v v2, V m n v ∧ Sp B n o ∧ ((pk B o = 93 ∧ j = o + 1 ∧ v2 = []) ∨ (pk B o = 44 ∧ ItR B V (o + 1) j v2)) ∧ vs = v1 ++ v :: v2))
theorem LsR.of {B : List UInt8} {V : Nat → Nat → Nd → Prop} {i j : Nat} {v1 v2 : List Nd} (h : ItR B V i j v2) : LsR B V i j false v1 (v1 ++ v2) := by
  cases h with
  | close h1 h2 => exact ⟨_, h1, .inl ⟨h2, rfl, by simp⟩⟩
  | last h1 h2 h3 h4 h5 => exact ⟨_, h1, .inr (.inr ⟨rfl, _, _, _, [], h3, h4, .inl ⟨h5, rfl, rfl⟩, rfl⟩)⟩
  | comma h1 h2 h3 h4 h5 h6 => exact ⟨_, h1, .inr (.inr ⟨rfl, _, _, _, _, h3, h4, .inr ⟨h5, h6⟩, rfl⟩)⟩
theorem LsR.val {B : List UInt8} {V : Nat → Nat → Nd → Prop} {n o j : Nat} {v : Nd} {v1 v2 : List Nd} (h : Sp B n o) (h2 : (pk B o = 93 ∧ j = o + 1 ∧ v2 = []) ∨ (pk B o = 44 ∧ ItR B V (o + 1) j v2)) : LsR B V n j true (v1 ++ [v]) (v1 ++ v :: v2) := by
  rcases h2 with ⟨h2, rfl, rfl⟩ | ⟨h2, h3⟩
  · exact ⟨o, h, .inl ⟨h2, rfl, rfl⟩⟩
  · exact ⟨o, h, .inr (.inl ⟨rfl, h2, v2, h3, by simp⟩)⟩

theorem Sp.ge {B : List UInt8} {i m : Nat} (h : Sp B i m) : i ≤ m := by
  induction h with
  | @stop i m h1 _ =>
    have := CmO_ge h1
    have := skp_ge B i
    omega
  | @more i m j h1 _ _ ih =>
    have := CmO_ge h1
    have := skp_ge B i
    omega
theorem VlQ.mk {pp db C : Nat} {B : List UInt8} {nv : Value} {ns : List PN} {g : Int} {i j d : Nat} {x : Nd} {w : World} {e : Ending} {w' : World} {nv' : Value} {ns' : List PN} (h : Int) (rest : Value) (y : PN) (h1 : PS w' pp db C B nv' ns' g) (h2 : h = (ns.length : Int) + 1) (h3 : e = .returned (.tuple #[.int .i32 h, rest, .nilIface])) (h4 : At db C B j rest) (h5 : Fr w w' pp nv nv') (h6 : Pre ns ns')
    (h7 : VlN (DtN w.heap.size db w' pp nv') ns' d ns.length ns'.length x) (h8 : ns'[ns.length]? = some y) (h9 : y.next = 0) (h10 : ns'.length + i ≤ ns.length + j) : VlQ pp db C B nv ns g i j d x w e w' := ⟨h, nv', ns', rest, y, h2, h3, h4, h1, h5, h6, h7, h8, h9, h10⟩
/-- What holds at the head of the loop. -/
def ArL (I : (Value → List UInt8 → Prop) → List PN → Nat → Nat → Nd → Prop) (kd : Int) (L : Nat → Bool → List Nd → Prop) (w : World) (pp db C : Nat) (B : List UInt8) (nv : Value) (ns : List PN) (g : Int) (o b1 b2 b3 base : Nat) (h0 : Int) (u1 u12 : Value) (wr : World) : Prop :=
  ∃ (i : Nat) (av : Bool) (nvr : Value) (nsr : List PN) (v1 : List Nd) (la : Int) (r : PN), u12 = .bool av ∧ At db C B i u1 ∧ PS wr pp db C B nvr nsr g ∧ Fr w wr pp nv nvr ∧ base ≤ wr.heap.size ∧ Pre ns nsr ∧
    Bx wr pp db nvr b1 (.pointer (some ⟨pp, 0, none⟩)) ∧ Bx wr pp db nvr b2 (.int .i32 h0) ∧ Bx wr pp db nvr b3 (.int .i32 la) ∧
    (nsr[ns.length]? = some r ∧ r.kind = kd ∧ r.next = 0 ∧ r.child = (if v1 = [] then (0 : Int) else ((ns.length + 2 : Nat) : Int))) ∧ AIt I (DtN base db wr pp nvr) nsr ns.length v1 la ∧ nsr.length + o ≤ ns.length + i ∧ L i av v1
/-- A box that has just been made. -/
theorem Bx.made {w : World} {pp db C : Nat} {B : List UInt8} {nv : Value} {ns : List PN} {g : Int} (h : PS w pp db C B nv ns g) (v : Value) (t : TypeId) : Bx (w.alloc (.cells #[v] t)) pp db nv w.heap.size v := by
  have hb := heap_alloc_new w (.cells #[v] t)
  have hin := h.in_heap.1
  have hdb := h.dbh
  refine ⟨by rw [cell_of_row _ _ 0 _ _ _ hb]; rfl, frozen_of_row _ _ 0 _ _ hb, ⟨by rw [World.size_alloc]; omega, by omega, fun e => ?_⟩, by omega⟩
  have := (World.ownsRow.lt h.own _ e).2
  omega
/-- Behind a part: what holds at the loop's head again. -/
theorem ArL.add {I : (Value → List UInt8 → Prop) → List PN → Nat → Nat → Nd → Prop} (hI : ItP I) {kd : Int} {L : Nat → Bool → List Nd → Prop} {w wr w2 : World} {pp db C : Nat} {B : List UInt8} {nv nvr : Value} {ns nsr ns2 : List PN} {g : Int} {o b1 b2 b3 base i n gb n2 cap : Nat} {h0 la h2 : Int} {v1 : List Nd} {v : Nd} {r y : PN} {rest : Value}
    (hFr : Fr w wr pp nv nvr) (hb : base ≤ wr.heap.size) (hpre : Pre ns nsr) (hx1 : Bx wr pp db nvr b1 (.pointer (some ⟨pp, 0, none⟩))) (hx2 : Bx wr pp db nvr b2 (.int .i32 h0)) (hx3 : Bx wr pp db nvr b3 (.int .i32 la)) (hne1 : b1 ≠ b3) (hne2 : b2 ≠ b3) (hb3 : b3 < base) (hw3 : w.heap.size ≤ b3)
    (hr : nsr[ns.length]? = some r ∧ r.kind = kd ∧ r.next = 0 ∧ r.child = (if v1 = [] then (0 : Int) else ((ns.length + 2 : Nat) : Int))) (hA : AIt I (DtN base db wr pp nvr) nsr ns.length v1 la) (hl : nsr.length + o ≤ ns.length + i)
    (hh2 : h2 = (nsr.length : Int) + 1) (hrest : At db C B n rest) (hP2 : PS w2 pp db C B (.slice (some ⟨gb, 0, none⟩) n2 cap) ns2 g) (hF2 : Fr wr w2 pp nvr (.slice (some ⟨gb, 0, none⟩) n2 cap)) (hpre2 : Pre nsr ns2) (hv : I (DtN wr.heap.size db w2 pp (.slice (some ⟨gb, 0, none⟩) n2 cap)) ns2 nsr.length ns2.length v) (hy : ns2[nsr.length]? = some y) (hy0 : y.next = 0)
    (hl2 : ns2.length + i ≤ nsr.length + n) (hL : L n true (v1 ++ [v])) :
    ∃ (p : Nat) (q : Value), (∃ x k, ns2[p]? = some x ∧ q = .int .i32 h2 ∧ k < 7 ∧ ((la = 0 ∧ p = ns.length ∧ k = 6) ∨ (la = (p : Int) + 1 ∧ k = 5)) ∧
      ArL I kd L w pp db C B nv ns g o b1 b2 b3 base h0 rest (.bool true) ((w2.setCell ⟨gb, 7 * p + k, none⟩ q).setCell ⟨b3, 0, none⟩ (.int .i32 h2))) := by
  have hlt2 := hI.lt _ _ _ _ _ hv
  have hlr : ns.length < nsr.length := (List.getElem?_eq_some_iff.1 hr.1).1
  have hrw : ns2[ns.length]? = some r := (hpre2 _ hlr).trans hr.1
  have fin : ∀ (p k : Nat) (x x' : PN), ns2[p]? = some x → ns.length ≤ p → k < 7 → x'.cells pp = (x.cells pp).set k (.int .i32 h2) → x'.data = x.data →
      (∃ r', (ns2.set p x')[ns.length]? = some r' ∧ r'.kind = kd ∧ r'.next = 0 ∧ r'.child = ((ns.length + 2 : Nat) : Int)) →
      ((∀ v t, DtN wr.heap.size db w2 pp (.slice (some ⟨gb, 0, none⟩) n2 cap) v t → DtN base db ((w2.setCell ⟨gb, 7 * p + k, none⟩ (.int .i32 h2)).setCell ⟨b3, 0, none⟩ (.int .i32 h2)) pp (.slice (some ⟨gb, 0, none⟩) n2 cap) v t) →
       (∀ v t, DtN base db wr pp nvr v t → DtN base db ((w2.setCell ⟨gb, 7 * p + k, none⟩ (.int .i32 h2)).setCell ⟨b3, 0, none⟩ (.int .i32 h2)) pp (.slice (some ⟨gb, 0, none⟩) n2 cap) v t) →
       AIt I (DtN base db ((w2.setCell ⟨gb, 7 * p + k, none⟩ (.int .i32 h2)).setCell ⟨b3, 0, none⟩ (.int .i32 h2)) pp (.slice (some ⟨gb, 0, none⟩) n2 cap)) (ns2.set p x') ns.length (v1 ++ [v]) h2) →
      ArL I kd L w pp db C B nv ns g o b1 b2 b3 base h0 rest (.bool true) ((w2.setCell ⟨gb, 7 * p + k, none⟩ (.int .i32 h2)).setCell ⟨b3, 0, none⟩ (.int .i32 h2)) := by
    intro p k x x' hx hp hk hc hd hroot hA'
    obtain ⟨hP3, hF3⟩ := hP2.upd hx hk hc hd
    have hF23 := hF2.trans hF3
    have hB1 := hx1.fr hF23
    have hB2 := hx2.fr hF23
    have hB3 := hx3.fr hF23
    have hP4 := hP3.box hB3 (.int .i32 h2)
    obtain ⟨r', g1, g2, g3, g4⟩ := hroot
    refine ⟨n, true, _, ns2.set p x', v1 ++ [v], h2, r', rfl, hrest, hP4, (hFr.trans hF23).new hw3 _, ?_, ?_, hB1.other hne1 _ _, hB2.other hne2 _ _, hB3.set _, ⟨g1, g2, g3, by rw [g4, if_neg (by simp)]⟩, ?_, ?_, hL⟩
    · rw [World.size_setCell]
      exact Nat.le_trans hb hF23.size
    · exact ((hpre.trans hpre2 (by omega)).set hp x')
    · refine hA' (fun v t hm => ?_) fun v t hm => ?_
      · exact (hF3.dtn (hm.weak hb)).box hb3 hB3.ne 0 _
      · exact (hF23.dtn hm).box hb3 hB3.ne 0 _
    · rw [List.length_set]
      omega
  rcases hA with ⟨rfl, rfl, hlen⟩ | ⟨l, hne, hla, hit⟩
  · refine ⟨ns.length, _, r, 6, hrw, rfl, by decide, .inl ⟨rfl, rfl, rfl⟩, fin ns.length 6 r { r with child := h2 } hrw (Nat.le_refl _) (by decide) rfl rfl ⟨_, List.getElem?_set_self (by omega), hr.2.1, hr.2.2.1, ?_⟩ fun hM _ => ?_⟩
    · show h2 = _
      omega
    · rw [hh2]
      exact AIt.first hI hlen hv (by rw [← hh2]; exact hM) hy hy0
  · have hll := hit.le (fun a b v hv => hI.lt _ _ _ _ _ hv)
    obtain ⟨x, hx⟩ : ∃ x, ns2[l]? = some x := ⟨_, List.getElem?_eq_getElem (by omega)⟩
    refine ⟨l, _, x, 5, hx, rfl, by decide, .inr ⟨hla, rfl⟩, fin l 5 x { x with next := h2 } hx (by omega) (by decide) rfl rfl ⟨r, ?_, hr.2.1, hr.2.2.1, by rw [hr.2.2.2, if_neg hne]⟩ fun hM hM1 => ?_⟩
    · rw [List.getElem?_set_ne (by omega)]
      exact hrw
    · have e : h2 = ((nsr.length + 1 : Nat) : Int) := by omega
      have := AIt.more hI (M1 := DtN base db wr pp nvr) (M' := DtN base db ((w2.setCell ⟨gb, 7 * l + 5, none⟩ (.int .i32 h2)).setCell ⟨b3, 0, none⟩ (.int .i32 h2)) pp (.slice (some ⟨gb, 0, none⟩) n2 cap)) hit hM1 hpre2 (by omega) hv hM hx hy hy0
      rw [← e, ← hh2] at this
      exact this
set_option maxRecDepth 100000 in
set_option maxHeartbeats 8000000 in
theorem arr_any {d : Nat} (HV : ValC d) {w : World} {pp db C : Nat} {B : List UInt8} {nv : Value} {ns : List PN} {g : Int} {o n m j : Nat} {vs : List Nd} (hP : PS w pp db C B nv ns g) (h1 : o + n = B.length) (h3 : n ≤ m) (h2 : o + m = C) (h91 : pk B o = 91) (hr : ItR B (ValR B d) (o + 1) j vs) (hn : ns.length ≤ o + 100) (hg : 0 ≤ g ∧ g + d ≤ 1000) :
    Calls Tryz.prog 78 #[.pointer (some ⟨pp, 0, none⟩), .slice (some ⟨db, o, none⟩) n m] w (VlQ pp db C B nv ns g o j (d + 1) (.mk 8 [] vs []) w) := by
  have hB := hP.dt.len
  have hin := pk_in (B := B) (k := o) (by rw [h91]; decide)
  have hin0 := hP.in_heap.1
  have HG := Lib.hid hg
  have HRR := Lib.hid (LsR.of (v1 := []) hr)
  have hin2 : o + 1 < B.length := by
    obtain ⟨m0, hm0, hc⟩ := HRR.out
    have hge := hm0.ge
    have : m0 < B.length := by
      rcases hc with ⟨h, _⟩ | ⟨h, _⟩ | ⟨_, n, o, v, v2, h, _⟩
      · exact pk_in (by rw [h]; decide)
      · cases h
      · exact h.byte.1
    omega
  have hb0 := Bx.made hP (.pointer (some ⟨pp, 0, none⟩)) 58
  have hPa := hP.grown (World.grownBy_alloc w (.cells #[.pointer (some ⟨pp, 0, none⟩)] 58) none)
  have hFa := Fr.grown pp nv (World.grownBy_alloc w (.cells #[.pointer (some ⟨pp, 0, none⟩)] 58) none)
  have HPU := Lib.hid (push_to hPa (by omega) 6 0 0 (.slice none 0 0) rfl)
  have HB0 := Lib.hid hb0
  have HFA := Lib.hid hFa
  have hm1 : ¬ m = 1 := by omega
  clear hP hPa hFa hb0 hr hg
  go_enter Tryz.func78, Tryz.ntmps78
  go_wp2_with fail
  with_reducible refine HPU.out.mono ?_
  rintro e w1 ⟨nv1, rfl, hP1, hF1⟩
  obtain ⟨h0, hh0⟩ : ∃ h0 : Int, ((ns.length + 1 : Nat) : Int) = h0 := ⟨_, rfl⟩
  rw [hh0]
  have HH0 := Lib.hid (show h0 = (ns.length : Int) + 1 by rw [← hh0]; rfl)
  have hsz1 := hF1.size
  have hsza : (w.alloc (.cells #[.pointer (some ⟨pp, 0, none⟩)] 58)).heap.size = w.heap.size + 1 := World.size_alloc _ _
  rw [hsza] at hsz1
  have hP2 := hP1.grown (World.grownBy_alloc w1 (.cells #[.int .i32 h0] 21) none)
  have hP3 := hP2.grown (World.grownBy_alloc _ (.cells #[.int .i32 0] 21) none)
  have hF2 := Fr.grown pp nv1 (World.grownBy_alloc w1 (.cells #[.int .i32 h0] 21) none)
  have hF3 := Fr.grown pp nv1 (World.grownBy_alloc (w1.alloc (.cells #[.int .i32 h0] 21)) (.cells #[.int .i32 0] 21) none)
  have hbb1 := ((HB0.out.fr hF1).fr hF2).fr hF3
  have hbb2 := (Bx.made hP1 (.int .i32 h0) 21).fr hF3
  have hbb3 := Bx.made hP2 (.int .i32 0) 21
  have hsz2 : (w1.alloc (.cells #[.int .i32 h0] 21)).heap.size = w1.heap.size + 1 := World.size_alloc _ _
  have hsz3 : ((w1.alloc (.cells #[.int .i32 h0] 21)).alloc (.cells #[.int .i32 0] 21)).heap.size = w1.heap.size + 2 := by rw [World.size_alloc, World.size_alloc]
  rw [hsz2] at hbb3
  have HST := Lib.hid (show ArL (fun M ns a b v => VlN M ns d a b v) 6 (fun i av v1 => LsR B (ValR B d) i j av v1 vs) w pp db C B nv ns g o w.heap.size w1.heap.size (w1.heap.size + 1) (w1.heap.size + 2) h0 (.slice (some ⟨db, o + 1, none⟩) (n - 1) (m - 1)) (.bool false) ((w1.alloc (.cells #[.int .i32 h0] 21)).alloc (.cells #[.int .i32 0] 21)) from
    ⟨o + 1, false, nv1, _, [], 0, ⟨6, 0, 0, .slice none 0 0, 0, 0⟩, rfl, ⟨_, _, _, rfl, by omega, by omega, by omega, fun _ => rfl⟩, hP3, HFA.out.trans (hF1.trans (hF2.trans hF3)), Nat.le_of_eq hsz3.symm, Pre.app ns _, hbb1, hbb2, hbb3, ⟨by simp, rfl, rfl, rfl⟩, .inl ⟨rfl, rfl, by simp⟩, by simp; omega, HRR.out⟩)
  clear hP1 hF1 hP2 hP3 hF2 hF3 hbb1 hbb2 hbb3 HPU HB0 HFA hh0 hsz2 hsz3 hsza
  have hw3 : w.heap.size < w1.heap.size := by omega
  go_wp2_with fail
  go_loopw [1, 12] (fun u1 u12 wr => ArL (fun M ns a b v => VlN M ns d a b v) 6 (fun i av v1 => LsR B (ValR B d) i j av v1 vs) w pp db C B nv ns g o w.heap.size w1.heap.size (w1.heap.size + 1) (w1.heap.size + 2) h0 u1 u12 wr) (fun u1 _ _ => lenOf u1)
  case atStart => exact HST.out
  case round =>
    obtain ⟨i, av, nvr, nsr, v1, la, r, rfl, hv1, hPr, hFr, hbr, hpre, hx1, hx2, hx3, hroot, hA, hlen, hL⟩ := hrel
    obtain ⟨mm, hsp, hcs⟩ := hL
    have hmm : mm < B.length ∧ pk B mm ≠ 35 := by
      rcases hcs with ⟨h, _⟩ | ⟨_, h, _⟩ | ⟨_, n, o, v, v2, h, _⟩
      · exact ⟨pk_in (by rw [h]; decide), by rw [h]; decide⟩
      · exact ⟨pk_in (by rw [h]; decide), by rw [h]; decide⟩
      · exact ⟨h.byte.1, h.byte_ne.2.2.2.1⟩
    have hview := hsp.view hmm.1 hmm.2
    have hv1l := hv1.lenOf
    have hsk := skp_ge B i
    obtain ⟨s, hs⟩ : ∃ s, skp B i = s := ⟨_, rfl⟩
    have HSK := Lib.hid (skip_any hPr.dt hv1)
    rw [hs] at HSK hview hsk
    have hsl : s < mm ∨ s = mm := by
      rcases hview with ⟨h, _⟩ | ⟨_, h⟩ | ⟨_, _, h⟩ | ⟨_, m1, _, h1, h⟩
      · exact .inr h
      · have := h.ge; omega
      · have := h.ge; omega
      · have := h.ge; omega
    have hsl2 : s < B.length := by omega
    have HVIEW := Lib.hid hview
    have HCS := Lib.hid hcs
    have HPR := Lib.hid hPr
    have HFR := Lib.hid hFr
    have HPRE := Lib.hid hpre
    have HX1 := Lib.hid hx1
    have HX2 := Lib.hid hx2
    have HX3 := Lib.hid hx3
    have HROOT := Lib.hid hroot
    have HAI := Lib.hid hA
    have HV1L := Lib.hid hv1l
    have c1 := hx1.cell
    have c2 := hx2.cell
    clear hview hcs hPr hFr hpre hx1 hx2 hx3 hroot hA hv1l hsp hv1 hs HST
    go_wp2_with fail
    with_reducible refine HSK.out.mono ?_
    rintro e w' ⟨⟨v2, rfl, hv2⟩, hw'⟩
    rw [hw']
    clear hw' w' HSK
    obtain ⟨o2, n2, m2, rfl, g1, g2, g3, g4⟩ := hv2
    have hn2 : 0 < n2 := by omega
    have ho := (g4 hn2).symm
    subst ho
    have hc := HPR.out.dt.pk (i := s) hsl2
    clear g4
    rcases HVIEW.out with ⟨hsm, _⟩ | ⟨h10, hsp⟩ | ⟨h13, h10, hsp⟩ | ⟨h35, m1, hcm, hlt, hsp⟩
    · subst hsm
      rcases HCS.out with ⟨h93, rfl, rfl⟩ | ⟨rfl, h44, v2, hit, hvs⟩ | ⟨rfl, n3, o3, v, v2, hval, hsp3, hcs3, hvs⟩
      · rw [h93] at hc
        clear h93 HVIEW
        go_wp2_with fail
        go_quiet (fail)
        all_goals go_wp2_with fail
        all_goals
          go_ret3
          have hFq : Fr wr (wr.drewN nq) pp nvr nvr := Fr.grown pp nvr (grown_drewN wr nq)
          have hPq := HPR.out.grown (grown_drewN wr nq)
          have hAq := (HAI.out.same (itp_vl d) (M' := DtN w.heap.size db (wr.drewN nq) pp nvr) fun v t hm => hFq.dtn (hm.weak (by omega)))
          refine VlQ.mk h0 _ r hPq HH0.out rfl (At.mk _ _ _ rfl (by omega) (by omega) (by omega) (by omega)) (HFR.out.trans hFq) HPRE.out ⟨r, HROOT.out.1, HROOT.out.2.1, .inr (.inl ⟨rfl, hAq.part HROOT.out.2.2.2⟩)⟩ HROOT.out.1 HROOT.out.2.2.1 (by omega)
      · rw [h44] at hc
        have HIT := Lib.hid hit
        have HVS := Lib.hid hvs
        clear h44 hit hvs HVIEW
        have hm1 : ¬ m2 = 1 := by
          intro e
          obtain ⟨m4, h4, hc4⟩ := (LsR.of (v1 := v1) HIT.out)
          have := h4.ge
          rcases hc4 with ⟨h, _⟩ | ⟨h, _⟩ | ⟨_, n, o, v, v2, h, _⟩
          · have := pk_in (B := B) (k := m4) (by rw [h]; decide)
            omega
          · cases h
          · have := h.byte.1
            omega
        go_wp2_with fail
        refine ⟨⟨s + 1, false, nvr, nsr, v1, la, r, rfl, At.mk _ _ _ rfl (by omega) (by omega) (by omega) (fun _ => rfl), HPR.out, HFR.out, hbr, HPRE.out, HX1.out, HX2.out, HX3.out, HROOT.out, HAI.out, by omega, by rw [HVS.out]; exact LsR.of HIT.out⟩, ?_⟩
        have := HV1L.out
        show n2 - 1 < _
        omega
      · obtain ⟨b93, b10, b13, b35, b44, _⟩ := hval.byte_ne
        have t1 := byte_ne b93 (n := 93) rfl
        have t2 := byte_ne b10 (n := 10) rfl
        have t3 := byte_ne b13 (n := 13) rfl
        have t4 := byte_ne b35 (n := 35) rfl
        have t5 := byte_ne b44 (n := 44) rfl
        have hfol := hsp3.fol (by rcases hcs3 with ⟨h, _⟩ | ⟨h, _⟩ <;> simp [h])
        have HVC := Lib.hid (HV wr pp db C B nvr nsr g s n3 v (.slice (some ⟨db, s, none⟩) n2 m2) HPR.out ⟨_, _, _, rfl, g1, g2, g3, fun _ => rfl⟩ hval hfol (by omega) HG.out)
        have HSP3 := Lib.hid (LsR.val (v1 := v1) (v := v) hsp3 hcs3)
        have HVS := Lib.hid hvs
        clear hval b93 b10 b13 b35 b44 hfol hsp3 hcs3 hvs HVIEW
        generalize pk B s = c at *
        go_wp2_with fail
        with_reducible refine HVC.out.mono ?_
        rintro e w2 ⟨hh, nv2, ns2, rest, y, hhh, rfl, hrest, hP2, hF2, hpre2, hvl, hy, hy0, hl2⟩
        have hlt2 := hvl.lt
        obtain ⟨gb, cap, hnv2, _⟩ := hP2.lt (by omega)
        subst hnv2
        have hsw := HFR.out.size
        have hN := (List.getElem?_eq_some_iff.1 HROOT.out.1).1
        have hadd := ArL.add (itp_vl d) (kd := 6) (o := o) (L := fun i av v1 => LsR B (ValR B d) i j av v1 vs) (n := n3) HFR.out hbr HPRE.out HX1.out HX2.out HX3.out (by omega) (by omega) (by omega) (by omega) HROOT.out HAI.out (i := s) (by omega) hhh hrest hP2 hF2 hpre2 hvl hy hy0 hl2 (by rw [HVS.out]; exact HSP3.out)
        obtain ⟨p, q, x, k, hx, rfl, hk, hpk, harl⟩ := hadd
        have HARL := Lib.hid harl
        have hrl := hrest.lenOf
        have hB1 := HX1.out.fr hF2
        have hB2 := HX2.out.fr hF2
        have hB3 := HX3.out.fr hF2
        have hns2 : ns2.length ≤ 200000 := by omega
        have hsn3 : s < n3 := by omega
        rcases hpk with ⟨rfl, rfl, rfl⟩ | ⟨hla, rfl⟩
        · have HAPP := Lib.hid (app87_first (h := hh) hP2 hB1 hB2 hB3 HH0.out hx (by omega))
          clear harl hB1 hB2 hB3 hP2 hF2 hpre2 hvl hy hy0 hl2 hrest hhh HVC hx
          go_wp2_with fail
          with_reducible refine HAPP.out.mono ?_
          rintro e w' ⟨rfl, hw'⟩
          rw [hw']
          clear hw' w'
          go_wp2_with fail
          refine ⟨HARL.out, ?_⟩
          have := HV1L.out
          show lenOf rest < _
          omega
        · have HAPP := Lib.hid (app87_next (h := hh) (b2 := w1.heap.size) hP2 hB1 hB3 hla hx (by have := (List.getElem?_eq_some_iff.1 hx).1; omega))
          clear harl hB1 hB2 hB3 hP2 hF2 hpre2 hvl hy hy0 hl2 hrest hhh HVC hx hla
          go_wp2_with fail
          with_reducible refine HAPP.out.mono ?_
          rintro e w' ⟨rfl, hw'⟩
          rw [hw']
          clear hw' w'
          go_wp2_with fail
          refine ⟨HARL.out, ?_⟩
          have := HV1L.out
          show lenOf rest < _
          omega
    · rw [h10] at hc
      have hge := hsp.ge
      have HSP := Lib.hid hsp
      clear h10 hsp HVIEW
      have hm1 : ¬ m2 = 1 := by omega
      go_wp2_with fail
      refine ⟨⟨s + 1, av, nvr, nsr, v1, la, r, rfl, At.mk _ _ _ rfl (by omega) (by omega) (by omega) (fun _ => rfl), HPR.out, HFR.out, hbr, HPRE.out, HX1.out, HX2.out, HX3.out, HROOT.out, HAI.out, by omega, ⟨mm, HSP.out, HCS.out⟩⟩, ?_⟩
      have := HV1L.out
      show n2 - 1 < _
      omega
    · rw [h13] at hc
      have hge := hsp.ge
      have HSP := Lib.hid hsp
      have hc2 := HPR.out.dt.pk (i := s + 1) (by omega)
      rw [h10] at hc2
      clear h10 h13 hsp HVIEW
      have hm1 : ¬ m2 = 2 := by omega
      have hn3 : 2 ≤ n2 := by omega
      go_wp2_with fail
      refine ⟨⟨s + 2, av, nvr, nsr, v1, la, r, rfl, At.mk _ _ _ rfl (by omega) (by omega) (by omega) (fun _ => rfl), HPR.out, HFR.out, hbr, HPRE.out, HX1.out, HX2.out, HX3.out, HROOT.out, HAI.out, by omega, ⟨mm, HSP.out, HCS.out⟩⟩, ?_⟩
      have := HV1L.out
      show n2 - 2 < _
      omega
    · rw [h35] at hc
      have hge := hsp.ge
      have HSP := Lib.hid hsp
      have HRM := Lib.hid (remark_any (m := m2) HPR.out.dt g1 g3 g2 h35 hcm)
      have hk := HPR.out.keep
      clear h35 hsp hcm HVIEW
      go_wp2_with fail
      with_reducible refine HRM.out.mono ?_
      rintro e w2 ⟨⟨cv, v3, rfl, hv3⟩, nq, rfl⟩
      have hv3l := hv3.lenOf
      have HV3 := Lib.hid hv3
      have hFq : Fr wr (wr.drewN nq) pp nvr nvr := Fr.grown pp nvr (grown_drewN wr nq)
      have HFQ := Lib.hid hFq
      clear hv3 hFq HRM
      go_wp2_with fail
      refine ⟨⟨m1, av, nvr, nsr, v1, la, r, rfl, HV3.out, HPR.out.grown (grown_drewN wr nq), HFR.out.trans HFQ.out, hbr, HPRE.out, HX1.out.fr HFQ.out, HX2.out.fr HFQ.out, HX3.out.fr HFQ.out, HROOT.out, HAI.out.same (itp_vl d) (fun _ _ hm => HFQ.out.dtn hm), by omega, ⟨mm, HSP.out, HCS.out⟩⟩, ?_⟩
      have := HV1L.out
      omega
end Go.Proofs.YtalmpddmhakdmaaGreat
