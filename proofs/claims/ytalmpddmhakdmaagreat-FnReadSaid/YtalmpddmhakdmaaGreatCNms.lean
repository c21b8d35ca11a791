/-
  The walk of a function of the parser: a number (89): a word with a sign, figures of a base, figures of ten. Conditions: the text lies in memory as stated.
-/
import Derived.Test.YtalmpddmhakdmaaGreatCNumC
import Derived.Test.YtalmpddmhakdmaaGreatCJ23
namespace Go.Proofs.YtalmpddmhakdmaaGreat
open Go.RowKit

theorem GrpR.len {B : List UInt8} {base i e : Nat} (h : GrpR B base i e) : i < e ∧ e ≤ B.length ∧ vD (pk B i) < base := by
  have hv : vD (pk B i) < base := by
    refine Classical.byContradiction fun hn => ?_
    have := h.gm.2
    rw [dgN_stop hn] at this
    omega
  refine ⟨(grp_in h).1, ?_, hv⟩
  exact (grp_in h).2

set_option maxRecDepth 100000 in
set_option maxHeartbeats 8000000 in
theorem scan_inf {w : World} {db C : Nat} {B : List UInt8} {o n m : Nat} (hD : Dt w db B) (h1 : o + n = B.length) (h2 : n ≤ m) (h3 : o + m = C) (hs : pk B o = 43 ∨ pk B o = 45) (g1 : pk B (o + 1) = 105) (g2 : pk B (o + 2) = 110) (g3 : pk B (o + 3) = 102) :
    Calls Tryz.prog 89 #[.slice (some ⟨db, o, none⟩) n m] w (KdP db C B o (o + 4) 10 w) := by
  have hin : o + 3 < B.length := pk_in (by rw [g3]; decide)
  have hl := hD.len
  have HD := Lib.hid hD
  have hc0 := hD.pk (i := o) (by omega)
  have hc1 := hD.pk (i := o + 1) (by omega)
  have hcut : cutB B (o + 1) 3 = [105, 110, 102] := by
    unfold cutB
    rw [drop_pk (by omega), show o + 1 + 1 = o + 2 by omega, drop_pk (by omega), show o + 2 + 1 = o + 3 by omega, drop_pk (by omega), g1, g2, g3]
    rfl
  have hcv := fun c => hD.conv (o + 1) 3 c (by omega) ⟨#[105, 110, 102]⟩ (by rw [hcut, ByteArray.toList_eq])
  rw [g1] at hc1
  have hn4 : 4 ≤ n := by omega
  clear hD g1 g2 g3 hcut
  go_enter Tryz.func89, Tryz.ntmps89
  go_upto_region 2 with fail
  go_cut [27] from 16 to 27 (fun v wx => v = .bool true ∧ w = wx)
  case first =>
    rcases hs with h | h
    · have t1 := byte_eq h (n := 43) rfl
      clear h
      go_wp2_with fail
      go_meet
      exact ⟨rfl, rfl⟩
    · have t1 : (((pk B o).toNat : Int) == 43) = false := by rw [h]; decide
      have t2 := byte_eq h (n := 45) rfl
      clear h
      go_wp2_with fail
      go_meet
      exact ⟨rfl, rfl⟩
  case rest =>
    obtain ⟨rfl, hw2⟩ := hcut
    subst hw2
    clear hs hc0
    go_wp2_with fail
    go_quiet (fail)
    all_goals go_wp2_with fail
    all_goals
      (try simp only [Exit.inBlock, Exit.then])
      refine bodyPost_ret (results_tmp5 rfl _ _ _) rfl ?_
      exact KdP.mk _ _ _ rfl ⟨_, _, _, o, rfl, by omega, by omega⟩ (TxtAt.part (HD.out.drewN nq) (by omega) (by omega) (by omega)) ⟨_, _, _, rfl, by omega, by omega, by omega, by omega⟩ (grown_drewN w nq)

set_option maxRecDepth 100000 in
set_option maxHeartbeats 8000000 in
theorem scan_nan {w : World} {db C : Nat} {B : List UInt8} {o n m : Nat} (hD : Dt w db B) (h1 : o + n = B.length) (h2 : n ≤ m) (h3 : o + m = C) (hs : pk B o = 43 ∨ pk B o = 45) (g1 : pk B (o + 1) = 110) (g2 : pk B (o + 2) = 97) (g3 : pk B (o + 3) = 110) :
    Calls Tryz.prog 89 #[.slice (some ⟨db, o, none⟩) n m] w (KdP db C B o (o + 4) 10 w) := by
  have hin : o + 3 < B.length := pk_in (by rw [g3]; decide)
  have hl := hD.len
  have HD := Lib.hid hD
  have hc0 := hD.pk (i := o) (by omega)
  have hc1 := hD.pk (i := o + 1) (by omega)
  have hcut : cutB B (o + 1) 3 = [110, 97, 110] := by
    unfold cutB
    rw [drop_pk (by omega), show o + 1 + 1 = o + 2 by omega, drop_pk (by omega), show o + 2 + 1 = o + 3 by omega, drop_pk (by omega), g1, g2, g3]
    rfl
  have hcv := fun c => hD.conv (o + 1) 3 c (by omega) ⟨#[110, 97, 110]⟩ (by rw [hcut, ByteArray.toList_eq])
  rw [g1] at hc1
  have hn4 : 4 ≤ n := by omega
  clear hD g1 g2 g3 hcut
  go_enter Tryz.func89, Tryz.ntmps89
  go_upto_region 2 with fail
  go_cut [27] from 16 to 27 (fun v wx => v = .bool true ∧ w = wx)
  case first =>
    rcases hs with h | h
    · have t1 := byte_eq h (n := 43) rfl
      clear h
      go_wp2_with fail
      go_meet
      exact ⟨rfl, rfl⟩
    · have t1 : (((pk B o).toNat : Int) == 43) = false := by rw [h]; decide
      have t2 := byte_eq h (n := 45) rfl
      clear h
      go_wp2_with fail
      go_meet
      exact ⟨rfl, rfl⟩
  case rest =>
    obtain ⟨rfl, hw2⟩ := hcut
    subst hw2
    clear hs hc0
    go_wp2_with fail
    go_quiet (fail)
    all_goals go_wp2_with fail
    all_goals
      (try simp only [Exit.inBlock, Exit.then])
      refine bodyPost_ret (results_tmp5 rfl _ _ _) rfl ?_
      exact KdP.mk _ _ _ rfl ⟨_, _, _, o, rfl, by omega, by omega⟩ (TxtAt.part (HD.out.drewN nq) (by omega) (by omega) (by omega)) ⟨_, _, _, rfl, by omega, by omega, by omega, by omega⟩ (grown_drewN w nq)

set_option maxRecDepth 100000 in
set_option maxHeartbeats 8000000 in
theorem scan_rad0 {w : World} {db C : Nat} {B : List UInt8} {o n m e : Nat} (hD : Dt w db B) (h1 : o + n = B.length) (h2 : n ≤ m) (h3 : o + m = C) (g0 : pk B o = 48) (g1 : pk B (o + 1) = 120) (hg : GrpR B 16 (o + 2) e) :
    Calls Tryz.prog 89 #[.slice (some ⟨db, o, none⟩) n m] w (KdP db C B o e 11 w) := by
  have hlen := hg.len
  have hl := hD.len
  have HD := Lib.hid hD
  have hc0 := hD.pk (i := o) (by omega)
  have hc1 := hD.pk (i := o + 1) (by omega)
  have hc2 := hD.pk (i := o + 2) (by omega)
  rw [g0] at hc0
  rw [g1] at hc1
  have HDG0 := Lib.hid (show Calls Tryz.prog 90 #[.int .u8 48] w fun e w' => e = .returned (.bool true) ∧ w' = w from dig_calls (c := 48) w true (by decide))
  have HDG := Lib.hid (show Calls Tryz.prog 96 #[.int .u8 ((pk B (o + 2)).toNat : Int)] w fun e w' => e = .returned (.bool true) ∧ w' = w by
    have := hex_any w (pk B (o + 2))
    rwa [decide_eq_true hlen.2.2] at this)
  have HDS := Lib.hid (show Calls Tryz.prog 99 #[.slice (some ⟨db, o, none⟩) n m, .int .i64 3, .func (.func 96) #[] #[]] w fun e' w' => (∃ y : Nat, e' = .returned (.tuple #[.int .i64 y, .nilIface]) ∧ o + y = e ∧ y ≤ n) ∧ w' = w from digs_hex (m := m) (x := 3) HD.out h1 (by omega) (hg.gm.1.fig (by decide) hlen.2.2))
  have hn3 : 2 < n := by omega
  have hlt := hlen.1
  clear hD g0 g1 hlen hg
  generalize pk B (o + 2) = c2 at *
  go_enter Tryz.func89, Tryz.ntmps89
  go_wp2_with fail
  with_reducible refine HDG0.out.mono ?_
  rintro e' w' ⟨rfl, hw'⟩
  rw [hw']
  clear hw' w'
  go_wp2_with fail
  with_reducible refine HDG.out.mono ?_
  rintro e' w' ⟨rfl, hw'⟩
  rw [hw']
  clear hw' w'
  go_wp2_with fail
  with_reducible refine HDS.out.mono ?_
  rintro e' w' ⟨⟨y, rfl, hy, hyn⟩, hw'⟩
  rw [hw']
  clear hw' w'
  subst hy
  go_wp2_with fail
  go_quiet (fail)
  all_goals go_wp2_with fail
  all_goals
    (try simp only [Exit.inBlock, Exit.then])
    refine bodyPost_ret (results_tmp5 rfl _ _ _) rfl ?_
    exact KdP.mk _ _ _ rfl ⟨_, _, _, o, rfl, by omega, by omega⟩ (TxtAt.part (HD.out.drewN nq) (by omega) (by omega) (by omega)) ⟨_, _, _, rfl, by omega, by omega, by omega, by omega⟩ (grown_drewN w nq)

set_option maxRecDepth 100000 in
set_option maxHeartbeats 8000000 in
theorem scan_rad1 {w : World} {db C : Nat} {B : List UInt8} {o n m e : Nat} (hD : Dt w db B) (h1 : o + n = B.length) (h2 : n ≤ m) (h3 : o + m = C) (g0 : pk B o = 48) (g1 : pk B (o + 1) = 111) (hg : GrpR B 8 (o + 2) e) :
    Calls Tryz.prog 89 #[.slice (some ⟨db, o, none⟩) n m] w (KdP db C B o e 11 w) := by
  have hlen := hg.len
  have hl := hD.len
  have HD := Lib.hid hD
  have hc0 := hD.pk (i := o) (by omega)
  have hc1 := hD.pk (i := o + 1) (by omega)
  have hc2 := hD.pk (i := o + 2) (by omega)
  rw [g0] at hc0
  rw [g1] at hc1
  have HDG0 := Lib.hid (show Calls Tryz.prog 90 #[.int .u8 48] w fun e w' => e = .returned (.bool true) ∧ w' = w from dig_calls (c := 48) w true (by decide))
  have HDG := Lib.hid (show Calls Tryz.prog 97 #[.int .u8 ((pk B (o + 2)).toNat : Int)] w fun e w' => e = .returned (.bool true) ∧ w' = w by
    have := octal_any w (pk B (o + 2))
    rwa [decide_eq_true hlen.2.2] at this)
  have HDS := Lib.hid (show Calls Tryz.prog 99 #[.slice (some ⟨db, o, none⟩) n m, .int .i64 3, .func (.func 97) #[] #[]] w fun e' w' => (∃ y : Nat, e' = .returned (.tuple #[.int .i64 y, .nilIface]) ∧ o + y = e ∧ y ≤ n) ∧ w' = w from digs_oct (m := m) (x := 3) HD.out h1 (by omega) (hg.gm.1.fig (by decide) hlen.2.2))
  have hn3 : 2 < n := by omega
  have hlt := hlen.1
  clear hD g0 g1 hlen hg
  generalize pk B (o + 2) = c2 at *
  go_enter Tryz.func89, Tryz.ntmps89
  go_wp2_with fail
  with_reducible refine HDG0.out.mono ?_
  rintro e' w' ⟨rfl, hw'⟩
  rw [hw']
  clear hw' w'
  go_wp2_with fail
  with_reducible refine HDG.out.mono ?_
  rintro e' w' ⟨rfl, hw'⟩
  rw [hw']
  clear hw' w'
  go_wp2_with fail
  with_reducible refine HDS.out.mono ?_
  rintro e' w' ⟨⟨y, rfl, hy, hyn⟩, hw'⟩
  rw [hw']
  clear hw' w'
  subst hy
  go_wp2_with fail
  go_quiet (fail)
  all_goals go_wp2_with fail
  all_goals
    (try simp only [Exit.inBlock, Exit.then])
    refine bodyPost_ret (results_tmp5 rfl _ _ _) rfl ?_
    exact KdP.mk _ _ _ rfl ⟨_, _, _, o, rfl, by omega, by omega⟩ (TxtAt.part (HD.out.drewN nq) (by omega) (by omega) (by omega)) ⟨_, _, _, rfl, by omega, by omega, by omega, by omega⟩ (grown_drewN w nq)

set_option maxRecDepth 100000 in
set_option maxHeartbeats 8000000 in
theorem scan_rad2 {w : World} {db C : Nat} {B : List UInt8} {o n m e : Nat} (hD : Dt w db B) (h1 : o + n = B.length) (h2 : n ≤ m) (h3 : o + m = C) (g0 : pk B o = 48) (g1 : pk B (o + 1) = 98) (hg : GrpR B 2 (o + 2) e) :
    Calls Tryz.prog 89 #[.slice (some ⟨db, o, none⟩) n m] w (KdP db C B o e 11 w) := by
  have hlen := hg.len
  have hl := hD.len
  have HD := Lib.hid hD
  have hc0 := hD.pk (i := o) (by omega)
  have hc1 := hD.pk (i := o + 1) (by omega)
  have hc2 := hD.pk (i := o + 2) (by omega)
  rw [g0] at hc0
  rw [g1] at hc1
  have HDG0 := Lib.hid (show Calls Tryz.prog 90 #[.int .u8 48] w fun e w' => e = .returned (.bool true) ∧ w' = w from dig_calls (c := 48) w true (by decide))
  have HDG := Lib.hid (show Calls Tryz.prog 98 #[.int .u8 ((pk B (o + 2)).toNat : Int)] w fun e w' => e = .returned (.bool true) ∧ w' = w by
    have := binary_any w (pk B (o + 2))
    rwa [decide_eq_true hlen.2.2] at this)
  have HDS := Lib.hid (show Calls Tryz.prog 99 #[.slice (some ⟨db, o, none⟩) n m, .int .i64 3, .func (.func 98) #[] #[]] w fun e' w' => (∃ y : Nat, e' = .returned (.tuple #[.int .i64 y, .nilIface]) ∧ o + y = e ∧ y ≤ n) ∧ w' = w from digs_bin (m := m) (x := 3) HD.out h1 (by omega) (hg.gm.1.fig (by decide) hlen.2.2))
  have hn3 : 2 < n := by omega
  have hlt := hlen.1
  clear hD g0 g1 hlen hg
  generalize pk B (o + 2) = c2 at *
  go_enter Tryz.func89, Tryz.ntmps89
  go_wp2_with fail
  with_reducible refine HDG0.out.mono ?_
  rintro e' w' ⟨rfl, hw'⟩
  rw [hw']
  clear hw' w'
  go_wp2_with fail
  with_reducible refine HDG.out.mono ?_
  rintro e' w' ⟨rfl, hw'⟩
  rw [hw']
  clear hw' w'
  go_wp2_with fail
  with_reducible refine HDS.out.mono ?_
  rintro e' w' ⟨⟨y, rfl, hy, hyn⟩, hw'⟩
  rw [hw']
  clear hw' w'
  subst hy
  go_wp2_with fail
  go_quiet (fail)
  all_goals go_wp2_with fail
  all_goals
    (try simp only [Exit.inBlock, Exit.then])
    refine bodyPost_ret (results_tmp5 rfl _ _ _) rfl ?_
    exact KdP.mk _ _ _ rfl ⟨_, _, _, o, rfl, by omega, by omega⟩ (TxtAt.part (HD.out.drewN nq) (by omega) (by omega) (by omega)) ⟨_, _, _, rfl, by omega, by omega, by omega, by omega⟩ (grown_drewN w nq)

/-- Figures of ten behind a sign: where the figures end, the point's, the power's. -/
def DecS (B : List UInt8) (o s e1 e2 e3 : Nat) (kd : Int) : Prop :=
  GrpR B 10 (o + s) e1 ∧ (pk B (o + s) = 48 → e1 = o + s + 1) ∧ ((pk B e1 ≠ 46 ∧ e2 = e1) ∨ (pk B e1 = 46 ∧ GrpR B 10 (e1 + 1) e2)) ∧
  ((pk B e2 ≠ 101 ∧ pk B e2 ≠ 69 ∧ e3 = e2) ∨ ((pk B e2 = 101 ∨ pk B e2 = 69) ∧ ∃ q, ((q = 2 ∧ (pk B (e2 + 1) = 43 ∨ pk B (e2 + 1) = 45)) ∨ (q = 1 ∧ pk B (e2 + 1) ≠ 43 ∧ pk B (e2 + 1) ≠ 45)) ∧ GrpR B 10 (e2 + q) e3)) ∧
  kd = (if e3 = e1 then 11 else 10)

set_option maxRecDepth 100000 in
set_option maxHeartbeats 8000000 in
theorem scan_dec {w : World} {db C : Nat} {B : List UInt8} {o n m s e1 e2 e3 : Nat} {kd : Int} (hD : Dt w db B) (h1 : o + n = B.length) (h2 : n ≤ m) (h3 : o + m = C) (hs : SgR B o s) (hd : DecS B o s e1 e2 e3 kd) (hf : Fol B e3) :
    Calls Tryz.prog 89 #[.slice (some ⟨db, o, none⟩) n m] w (KdP db C B o e3 kd w) := by
  obtain ⟨hg1, h48, hfr, hex, hkd⟩ := hd
  have hlen1 := hg1.len
  have hle2 : e1 ≤ e2 ∧ e2 ≤ B.length := by
    rcases hfr with ⟨_, rfl⟩ | ⟨_, hg⟩
    · omega
    · have := hg.len
      omega
  have hle3 : e2 ≤ e3 ∧ e3 ≤ B.length := by
    rcases hex with ⟨_, _, rfl⟩ | ⟨_, q, _, hg⟩
    · omega
    · have := hg.len
      omega
  have hl := hD.len
  have HD := Lib.hid hD
  have hsl : s ≤ 1 := by rcases hs with ⟨h, _⟩ | ⟨h, _⟩ <;> omega
  have hc0 := hD.pk (i := o) (by omega)
  have HG1 := Lib.hid hg1
  have HFR := Lib.hid hfr
  have HEX := Lib.hid hex
  have HKD := Lib.hid hkd
  have HF := Lib.hid hf
  have H48 := Lib.hid h48
  have HV := Lib.hid hlen1.2.2
  have hlt1 := hlen1.1
  have hn1 : s < n := by omega
  -- behind a nought stands no letter of a base
  have hnx : pk B (o + s) = 48 → (pk B (o + (s + 1)) ≠ 120 ∧ pk B (o + (s + 1)) ≠ 111 ∧ pk B (o + (s + 1)) ≠ 98) := fun h => by
    have e := h48 h
    rw [show o + (s + 1) = e1 by omega]
    rcases hfr with ⟨_, rfl⟩ | ⟨hp, _⟩
    · rcases hex with ⟨_, _, rfl⟩ | ⟨hp, _⟩
      · exact ⟨hf.ne (by decide), hf.ne (by decide), hf.ne (by decide)⟩
      · rcases hp with hp | hp <;> rw [hp] <;> decide
    · rw [hp]
      decide
  have HNX := Lib.hid hnx
  clear hD hg1 hfr hex hkd hf h48 hlen1 hnx
  go_enter Tryz.func89, Tryz.ntmps89
  go_upto_region 2 with fail
  go_cut [27] from 16 to 27 (fun v wx => v = .bool (decide (s = 1)) ∧ w = wx)
  case first =>
    rcases hs with ⟨rfl, h | h⟩ | ⟨rfl, h, h'⟩
    · have t1 := byte_eq h (n := 43) rfl
      clear h
      go_wp2_with fail
      go_meet
      exact ⟨rfl, rfl⟩
    · have t1 : (((pk B o).toNat : Int) == 43) = false := by rw [h]; decide
      have t2 := byte_eq h (n := 45) rfl
      clear h
      go_wp2_with fail
      go_meet
      exact ⟨rfl, rfl⟩
    · have t1 := byte_ne h (n := 43) rfl
      have t2 := byte_ne h' (n := 45) rfl
      clear h h'
      go_wp2_with fail
      go_meet
      exact ⟨rfl, rfl⟩
  case rest =>
   obtain ⟨rfl, hw2⟩ := hcut
   subst hw2
   clear hs hc0
   go_upto_if 27 with fail
   go_cut [7] from 28 to 29 (fun v wx => v = .int .i64 (s : Int) ∧ w = wx)
   case first =>
    have hs2 : s = 0 ∨ s = 1 := by omega
    rcases hs2 with rfl | rfl
    · go_wp2_with fail
      go_meet
      exact ⟨rfl, rfl⟩
    · go_wp2_with fail
      go_meet
      exact ⟨rfl, rfl⟩
   case rest =>
    obtain ⟨rfl, hw2⟩ := hcut
    subst hw2
    have hc0 := HD.out.pk (i := o + s) (by omega)
    obtain ⟨c, hcc⟩ : ∃ c, pk B (o + s) = c := ⟨_, rfl⟩
    rw [hcc] at hc0
    have HCC := Lib.hid hcc
    have hv := HV.out
    rw [hcc] at hv
    have hvt := (vD_ten _).1 hv
    have t105 : ((c.toNat : Int) == 105) = false := by simp; omega
    have t110 : ((c.toNat : Int) == 110) = false := by simp; omega
    obtain ⟨bb, hbb⟩ : ∃ bb, ((c.toNat : Int) == 48) = bb := ⟨_, rfl⟩
    have HBB : Hid (c = 48 ↔ bb = true) := Lib.hid (by
      rw [← hbb]
      exact ⟨fun h => byte_eq h rfl, fun h => Classical.byContradiction fun hne => by
        rw [byte_ne (n := 48) hne rfl] at h
        cases h⟩)
    have HDG := Lib.hid (dig_calls (c := c) w true (by simpa using hv))
    have HDS := Lib.hid (show Calls Tryz.prog 99 #[.slice (some ⟨db, o, none⟩) n m, .int .i64 ((s : Int) + 1), .func (.func 90) #[] #[]] w fun e' w' => (∃ y : Nat, e' = .returned (.tuple #[.int .i64 y, .nilIface]) ∧ o + y = e1 ∧ y ≤ n) ∧ w' = w from digs_ten (m := m) (x := s + 1) HD.out h1 (by omega) (HG1.out.gm.1.fig (by decide) HV.out))
    clear hcc hv hvt
    go_wp2_with fail
    with_reducible refine HDG.out.mono ?_
    rintro e' w' ⟨rfl, hw'⟩
    rw [hw']
    clear hw' w'
    go_upto_region 16 with fail
    go_cut [132] from 30 to 132 (fun v wx => v = .bool false ∧ w = wx)
    case first =>
      cases bb with
      | true =>
        have hx := HNX.out (HCC.out.trans (HBB.out.2 rfl))
        by_cases hs1 : s + 1 < n
        · have hc1 := HD.out.pk (i := o + (s + 1)) (by omega)
          have t1 := byte_ne hx.1 (n := 120) rfl
          have t2 := byte_ne hx.2.1 (n := 111) rfl
          have t3 := byte_ne hx.2.2 (n := 98) rfl
          clear hx
          generalize pk B (o + (s + 1)) = c1 at *
          go_wp2_with fail
          go_meet
          exact ⟨rfl, rfl⟩
        · clear hx
          go_wp2_with fail
          go_meet
          exact ⟨rfl, rfl⟩
      | false =>
        go_wp2_with fail
        go_meet
        exact ⟨rfl, rfl⟩
    case rest =>
      obtain ⟨rfl, hw2⟩ := hcut
      subst hw2
      go_wp2_with fail
      with_reducible refine HDS.out.mono ?_
      rintro e' w' ⟨⟨y, rfl, hy, hyn⟩, hw'⟩
      rw [hw']
      clear hw' w'
      subst hy
      have hlead : c = 48 → y = s + 1 := fun h => by have := H48.out (HCC.out.trans h); omega
      have HLEAD := Lib.hid hlead
      clear hlead
      go_upto_region 43 with fail
      go_cut [207] from 184 to 207 (fun v wx => v = .bool false ∧ w = wx)
      case first =>
        cases bb with
        | true =>
          have hy := HLEAD.out (HBB.out.2 rfl)
          have hle : ¬ ((s : Int) + 1 < (y : Int)) := by omega
          clear hy
          go_wp2_with fail
          go_meet
          exact ⟨rfl, rfl⟩
        | false =>
          go_wp2_with fail
          go_meet
          exact ⟨rfl, rfl⟩
      case rest =>
        obtain ⟨rfl, hw2⟩ := hcut
        subst hw2
        clear hc0 HDS HDG t105 t110 HNX HLEAD HCC HBB hbb
        go_upto_region 46 with fail
        go_cut [224] from 208 to 224 (fun v wx => v = .bool (decide (pk B (o + y) = 46)) ∧ w = wx)
        case first =>
          by_cases hyn2 : y < n
          · have hc1 := HD.out.pk (i := o + y) (by omega)
            by_cases h46 : pk B (o + y) = 46
            · have t46 := byte_eq h46 (n := 46) rfl
              have HB := Lib.hid h46
              clear h46
              go_wp2_with fail
              go_meet
              exact ⟨by rw [decide_eq_true HB.out], rfl⟩
            · have t46 := byte_ne h46 (n := 46) rfl
              have HB := Lib.hid h46
              clear h46
              go_wp2_with fail
              go_meet
              exact ⟨by rw [decide_eq_false HB.out], rfl⟩
          · have HB : Hid (pk B (o + y) ≠ 46) := Lib.hid (by rw [pk_out (by omega)]; decide)
            go_wp2_with fail
            go_meet
            exact ⟨by rw [decide_eq_false HB.out], rfl⟩
        case rest =>
          obtain ⟨rfl, hw2⟩ := hcut
          subst hw2
          obtain ⟨z2, hz2⟩ : ∃ z2, e2 = o + z2 := ⟨e2 - o, by omega⟩
          subst hz2
          go_upto_if 224 with fail
          go_cut [7, 14] from 224 to 254 (fun v7 v14 wx => v7 = .int .i64 (z2 : Int) ∧ v14 = .int .i64 (if z2 = y then 11 else 10) ∧ w = wx)
          case first =>
            rcases HFR.out with ⟨hp, hz⟩ | ⟨hp, hg2⟩
            · have hzy : z2 = y := by omega
              subst hzy
              rw [decide_eq_false hp]
              go_wp2_with fail
              go_meet
              exact ⟨rfl, by simp, rfl⟩
            · have hlen2 := hg2.len
              rw [decide_eq_true hp]
              have hc1 := HD.out.pk (i := o + (y + 1)) (by omega)
              have hvv := hlen2.2.2
              rw [Nat.add_assoc] at hvv
              have HDG2 := Lib.hid (dig_calls (c := pk B (o + (y + 1))) w true (by simpa using hvv))
              have HDS2 := Lib.hid (show Calls Tryz.prog 99 #[.slice (some ⟨db, o, none⟩) n m, .int .i64 ((y : Int) + 1 + 1), .func (.func 90) #[] #[]] w fun e' w' => (∃ y' : Nat, e' = .returned (.tuple #[.int .i64 y', .nilIface]) ∧ o + y' = o + z2 ∧ y' ≤ n) ∧ w' = w from digs_ten (m := m) (x := y + 1 + 1) HD.out h1 (by omega) (by have := hg2.gm.1.fig (by decide) hlen2.2.2; rwa [show o + y + 1 + 1 = o + (y + 1 + 1) by omega] at this))
              have hy1 : y + 1 < n := by omega
              have hzy : ¬ z2 = y := by omega
              have HZY := Lib.hid hzy
              clear hp hg2 hlen2 hvv hzy
              generalize pk B (o + (y + 1)) = c3 at *
              go_wp2_with fail
              with_reducible refine HDG2.out.mono ?_
              rintro e' w' ⟨rfl, hw'⟩
              rw [hw']
              clear hw' w'
              go_wp2_with fail
              with_reducible refine HDS2.out.mono ?_
              rintro e' w' ⟨⟨y', rfl, hy', hyn'⟩, hw'⟩
              rw [hw']
              clear hw' w'
              have hyz : y' = z2 := by omega
              subst hyz
              go_wp2_with fail
              go_meet
              exact ⟨rfl, congrArg (Value.int .i64) (if_neg HZY.out).symm, rfl⟩
          case rest =>
            obtain ⟨rfl, rfl, hw2⟩ := hcut
            subst hw2
            obtain ⟨k2, hk2⟩ : ∃ k2 : Int, (if z2 = y then 11 else 10) = k2 := ⟨_, rfl⟩
            rw [hk2]
            have HK2 := Lib.hid hk2
            clear hk2 HFR
            go_upto_region 55 with fail
            go_cut [272] from 255 to 272 (fun v wx => v = .bool (decide (pk B (o + z2) = 101 ∨ pk B (o + z2) = 69)) ∧ w = wx)
            case first =>
              by_cases hyn2 : z2 < n
              · have hc1 := HD.out.pk (i := o + z2) (by omega)
                by_cases h101 : pk B (o + z2) = 101
                · have t46 := byte_eq h101 (n := 101) rfl
                  have HB := Lib.hid h101
                  clear h101
                  go_wp2_with fail
                  go_meet
                  exact ⟨by rw [decide_eq_true (Or.inl HB.out)], rfl⟩
                · have t46 := byte_ne h101 (n := 101) rfl
                  have HB := Lib.hid h101
                  clear h101
                  by_cases h69 : pk B (o + z2) = 69
                  · have t47 := byte_eq h69 (n := 69) rfl
                    have HB2 := Lib.hid h69
                    clear h69
                    go_wp2_with fail
                    go_meet
                    exact ⟨by rw [decide_eq_true (Or.inr HB2.out)], rfl⟩
                  · have t47 := byte_ne h69 (n := 69) rfl
                    have HB2 := Lib.hid h69
                    clear h69
                    go_wp2_with fail
                    go_meet
                    exact ⟨by rw [decide_eq_false (fun h : pk B (o + z2) = 101 ∨ pk B (o + z2) = 69 => h.elim HB.out HB2.out)], rfl⟩
              · have HB : Hid (pk B (o + z2) = 0) := Lib.hid (pk_out (by omega))
                go_wp2_with fail
                go_meet
                exact ⟨by rw [decide_eq_false (by rw [HB.out]; decide)], rfl⟩
            case rest =>
              obtain ⟨rfl, hw2⟩ := hcut
              subst hw2
              obtain ⟨z3, hz3⟩ : ∃ z3, e3 = o + z3 := ⟨e3 - o, by omega⟩
              subst hz3
              go_upto_if 272 with fail
              go_cut [7, 14] from 272 to 322 (fun v7 v14 wx => v7 = .int .i64 (z3 : Int) ∧ v14 = .int .i64 kd ∧ w = wx)
              case first =>
                rcases HEX.out with ⟨hp, hp2, hz⟩ | ⟨hp, q, hq, hg2⟩
                · have hzy : z3 = z2 := by omega
                  subst hzy
                  have HKE : Hid (k2 = kd) := Lib.hid (by rw [HKD.out, ← HK2.out]; by_cases h : z3 = y <;> simp [h])
                  rw [decide_eq_false (fun h : pk B (o + z3) = 101 ∨ pk B (o + z3) = 69 => h.elim hp hp2)]
                  clear hp hp2 hz
                  go_wp2_with fail
                  go_meet
                  exact ⟨rfl, congrArg (Value.int .i64) HKE.out, rfl⟩
                · have hlen2 := hg2.len
                  have hq2 : q = 1 ∨ q = 2 := by rcases hq with ⟨h, _⟩ | ⟨h, _⟩ <;> omega
                  rw [decide_eq_true hp]
                  have hc1 := HD.out.pk (i := o + (z2 + 1)) (by omega)
                  have HQ := Lib.hid hq
                  have hy1 : z2 + q < n := by omega
                  have hy2 : z2 + 1 < n := by omega
                  have hvv := hlen2.2.2
                  rw [show o + z2 + q = o + (z2 + q) by omega] at hvv hg2
                  have HV2 := Lib.hid hvv
                  have HG2 := Lib.hid hg2
                  have hze : o + (z2 + q) < o + z3 := by omega
                  have HKE : Hid (kd = 10) := Lib.hid (by rw [HKD.out]; exact if_neg (by omega))
                  clear hp hg2 hlen2 hvv hq
                  go_upto_region 57 with fail
                  go_cut [292] from 275 to 292 (fun v wx => v = .bool (decide (q = 2)) ∧ w = wx)
                  case first =>
                    rcases HQ.out with ⟨rfl, h | h⟩ | ⟨rfl, h, h'⟩
                    · have t1 := byte_eq h (n := 43) rfl
                      rw [Nat.add_assoc] at t1
                      clear h
                      generalize pk B (o + (z2 + 1)) = c3 at *
                      go_wp2_with fail
                      go_meet
                      exact ⟨rfl, rfl⟩
                    · have t1 : (((pk B (o + z2 + 1)).toNat : Int) == 43) = false := by rw [h]; decide
                      have t2 := byte_eq h (n := 45) rfl
                      rw [Nat.add_assoc] at t1 t2
                      clear h
                      generalize pk B (o + (z2 + 1)) = c3 at *
                      go_wp2_with fail
                      go_meet
                      exact ⟨rfl, rfl⟩
                    · have t1 := byte_ne h (n := 43) rfl
                      have t2 := byte_ne h' (n := 45) rfl
                      rw [Nat.add_assoc] at t1 t2
                      clear h h'
                      generalize pk B (o + (z2 + 1)) = c3 at *
                      go_wp2_with fail
                      go_meet
                      exact ⟨rfl, rfl⟩
                  case rest =>
                    obtain ⟨rfl, hw2⟩ := hcut
                    subst hw2
                    clear hc1 HQ
                    go_upto_if 292 with fail
                    go_cut [7] from 292 to 294 (fun v wx => v = .int .i64 ((z2 + q : Nat) : Int) ∧ w = wx)
                    case first =>
                      rcases hq2 with rfl | rfl
                      · go_wp2_with fail
                        go_meet
                        exact ⟨rfl, rfl⟩
                      · go_wp2_with fail
                        go_meet
                        exact ⟨rfl, rfl⟩
                    case rest =>
                      obtain ⟨rfl, hw2⟩ := hcut
                      subst hw2
                      obtain ⟨zq, hzq⟩ : ∃ zq, z2 + q = zq := ⟨_, rfl⟩
                      rw [hzq] at HV2 HG2 hy1 hze ⊢
                      have hc1 := HD.out.pk (i := o + zq) (by omega)
                      have HDG2 := Lib.hid (dig_calls (c := pk B (o + zq)) w true (by simpa using HV2.out))
                      have HDS2 := Lib.hid (show Calls Tryz.prog 99 #[.slice (some ⟨db, o, none⟩) n m, .int .i64 ((zq : Int) + 1), .func (.func 90) #[] #[]] w fun e' w' => (∃ y' : Nat, e' = .returned (.tuple #[.int .i64 y', .nilIface]) ∧ o + y' = o + z3 ∧ y' ≤ n) ∧ w' = w from digs_ten (m := m) (x := zq + 1) HD.out h1 (by omega) (HG2.out.gm.1.fig (by decide) HV2.out))
                      clear hzq HG2 HV2
                      generalize pk B (o + zq) = c3 at *
                      go_wp2_with fail
                      with_reducible refine HDG2.out.mono ?_
                      rintro e' w' ⟨rfl, hw'⟩
                      rw [hw']
                      clear hw' w'
                      go_wp2_with fail
                      with_reducible refine HDS2.out.mono ?_
                      rintro e' w' ⟨⟨y', rfl, hy', hyn'⟩, hw'⟩
                      rw [hw']
                      clear hw' w'
                      have hyz : y' = z3 := by omega
                      subst hyz
                      go_wp2_with fail
                      go_meet
                      exact ⟨rfl, congrArg (Value.int .i64) HKE.out.symm, rfl⟩
              case rest =>
                obtain ⟨rfl, rfl, hw2⟩ := hcut
                subst hw2
                by_cases hz3 : z3 < n
                · have hc1 := HD.out.pk (i := o + z3) (by omega)
                  have hlt := HF.out.letter
                  generalize pk B (o + z3) = c3 at *
                  go_upto_region 68 with fail
                  go_cut [344] from 272 to 344 (fun v wx => v = .bool false ∧ w = wx)
                  case first =>
                    have hr : c3.toNat < 65 ∨ (91 ≤ c3.toNat ∧ c3.toNat < 97) ∨ 123 ≤ c3.toNat := by omega
                    clear hlt
                    rcases hr with g1 | ⟨g1, g2⟩ | g1
                    · go_wp2_with fail
                      go_meet
                      exact ⟨rfl, rfl⟩
                    · have d90 : decide ((c3.toNat : Int) ≤ 90) = false := by simp; omega
                      go_wp2_with fail
                      go_meet
                      exact ⟨rfl, rfl⟩
                    · have d90 : decide ((c3.toNat : Int) ≤ 90) = false := by simp; omega
                      have d122 : decide ((c3.toNat : Int) ≤ 122) = false := by simp; omega
                      go_wp2_with fail
                      go_meet
                      exact ⟨rfl, rfl⟩
                  case rest =>
                    obtain ⟨rfl, hw2⟩ := hcut
                    subst hw2
                    clear hlt
                    go_wp2_with fail
                    go_quiet (fail)
                    all_goals go_wp2_with fail
                    all_goals
                      (try simp only [Exit.inBlock, Exit.then])
                      refine bodyPost_ret (results_tmp5 rfl _ _ _) rfl ?_
                      exact KdP.mk _ _ _ rfl ⟨_, _, _, o, rfl, by omega, by omega⟩ (TxtAt.part (HD.out.drewN nq) (by omega) (by omega) (by omega)) ⟨_, _, _, rfl, by omega, by omega, by omega, by omega⟩ (grown_drewN w nq)
                · go_wp2_with fail
                  go_quiet (fail)
                  all_goals go_wp2_with fail
                  all_goals
                    (try simp only [Exit.inBlock, Exit.then])
                    refine bodyPost_ret (results_tmp5 rfl _ _ _) rfl ?_
                    exact KdP.mk _ _ _ rfl ⟨_, _, _, o, rfl, by omega, by omega⟩ (TxtAt.part (HD.out.drewN nq) (by omega) (by omega) (by omega)) ⟨_, _, _, rfl, by omega, by omega, by omega, by omega⟩ (grown_drewN w nq)
end Go.Proofs.YtalmpddmhakdmaaGreat
