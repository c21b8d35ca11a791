/-
  The walk of a function of the spec's parser: a number, a date or a time; its ways that read a date or a time of a day. Conditions: the parser lies in memory as stated.
-/
import Derived.Test.YtalmpddmhakdmaaGreatCDate
namespace Go.Proofs.YtalmpddmhakdmaaGreat
open Go.RowKit

/-- Figures with strokes, a point and more, a power: of so many signs, of a kind; behind the sign. -/
def DecR (B : List UInt8) (i n : Nat) (kind : Int) : Prop :=
  ∃ e1 e2 e3, GrpR B 10 i e1 ∧ (pk B i = 48 → e1 = i + 1) ∧
    ((pk B e1 ≠ 46 ∧ e2 = e1) ∨ (pk B e1 = 46 ∧ GrpR B 10 (e1 + 1) e2)) ∧
    ((pk B e2 ≠ 101 ∧ pk B e2 ≠ 69 ∧ e3 = e2) ∨ ((pk B e2 = 101 ∨ pk B e2 = 69) ∧ ∃ m, ((m = 2 ∧ (pk B (e2 + 1) = 43 ∨ pk B (e2 + 1) = 45)) ∨ (m = 1 ∧ pk B (e2 + 1) ≠ 43 ∧ pk B (e2 + 1) ≠ 45)) ∧ GrpR B 10 (e2 + m) e3)) ∧
    i + n = e3 ∧ kind = if e3 = e1 then 1 else 2
/-- A sign, if one stands there. -/
def SgR (B : List UInt8) (i s : Nat) : Prop := (s = 1 ∧ (pk B i = 43 ∨ pk B i = 45)) ∨ (s = 0 ∧ pk B i ≠ 43 ∧ pk B i ≠ 45)
/-- The letter behind a nought that tells a base. -/
def radB (c : UInt8) : Nat := if c = 120 then 16 else if c = 111 then 8 else if c = 98 then 2 else 0
/-- A value that is a number, a date or a time: of so many signs, of a kind. -/
inductive NumR (B : List UInt8) (i : Nat) : Nat → Int → Prop
  | date {n : Nat} {kind : Int} : DateR B i n kind → NumR B i n kind
  | clock {n : Nat} : 0 < n → ClockR B i n → NumR B i n 7
  | radix {n : Nat} : pk B i = 48 → radB (pk B (i + 1)) ≠ 0 → GrpR B (radB (pk B (i + 1))) (i + 2) (i + n) → 2 < n → NumR B i n 1
  | word {s : Nat} : SgR B i s → ((pk B (i + s) = 105 ∧ pk B (i + s + 1) = 110 ∧ pk B (i + s + 2) = 102) ∨ (pk B (i + s) = 110 ∧ pk B (i + s + 1) = 97 ∧ pk B (i + s + 2) = 110)) → NumR B i (s + 3) 2
  | dec {s n : Nat} {kind : Int} : SgR B i s → DecR B (i + s) n kind → 0 < n → NumR B i (s + n) kind

/-- The result as it is made first. -/
abbrev Z38 : Obj := .cells #[.int .i64 0, .string ⟨#[]⟩, .slice none 0 0, .slice none 0 0] 38
/-- The parser as it was, beside a result that has been made. -/
structure NI (pb : Nat) (a : Addr) (C : Nat) (B : List UInt8) (k : Nat) (st : Int) (w wx : World) : Prop where
  sp : SP wx pb a C B k st
  gr : Gr (w.alloc Z38) wx pb
theorem NI.drewN {pb : Nat} {a : Addr} {C : Nat} {B : List UInt8} {k : Nat} {st : Int} {w wx : World} (h : NI pb a C B k st w wx) (n : Nat) : NI pb a C B k st w (wx.drewN n) := ⟨h.1.drewN n, h.2.drewN n⟩
theorem Gr.fromAlloc {w w' : World} {pb : Nat} {o : Obj} (h : Gr (w.alloc o) w' pb) : Gr w w' pb := ((Gr.refl w pb).alloc o).trans h

/-- Whether a date begins at a place. -/
def dayB (B : List UInt8) (k : Nat) : Prop := figsAt B k 4 ∧ pk B (k + 4) = 45
/-- Whether a time of a day begins at a place. -/
def hourB (B : List UInt8) (k : Nat) : Prop := figsAt B k 2 ∧ pk B (k + 2) = 58

set_option maxRecDepth 100000 in
set_option maxHeartbeats 4000000 in
theorem number_date {w : World} {pb : Nat} {a : Addr} {C : Nat} {B : List UInt8} {k : Nat} {st : Int} (hS : SP w pb a C B k st) (hk : k ≤ B.length) (hd : dayB B k) :
    Calls Tryz.prog 32 #[.pointer (some ⟨pb, 0, none⟩)] w (VPost pb a C B k st w (NumR B k)) := by
  have hin := hS.in_heap
  have HS := Lib.hid (fun (o : Obj) (q : Nat) => (hS.alloc o).drewN q)
  have HG := Lib.hid (fun (o : Obj) (q : Nat) => ((Gr.refl w pb).alloc o).drewN q)
  have hl := hS.len
  have hf := figs_in hd.1 (by decide)
  have t := byte_eq hd.2 (n := 45) rfl
  have HD := Lib.hid hd
  clear hS hd
  go_enter Tryz.func32, Tryz.ntmps32
  go_wp2_with fail
  refine (two_any (HS.out _ 0) 0 k 4 (by omega) (by omega) (by decide)).mono ?_
  rintro e w' ⟨y, rfl, ly, uy, iy, m1, rfl⟩
  have hy := iy.2 HD.out.1
  clear iy
  go_wp2_with fail
  refine (peek_any (HS.out _ _) 4 (k + 4) (by omega) (by omega)).mono ?_
  rintro e w' ⟨rfl, m2, rfl⟩
  go_wp2_with fail
  refine (date_any (HS.out _ _) hk HD.out.1 HD.out.2).mono ?_
  rintro e w3 ⟨kind, t, rfl, j, s3, hS3, hG3, hj, hj2, hr3⟩
  have HS3 := Lib.hid hS3
  have HG3 := Lib.hid ((HG.out _ _).trans hG3)
  have HR3 := Lib.hid hr3
  obtain ⟨⟨c0, hc0⟩, ⟨c1, hc1⟩, ⟨c2, hc2⟩, ⟨c3, hc3⟩, hcf⟩ := Res.of _ _ _ _ _ hG3.ofDrewN hin.1
  clear hS3 hG3 hr3
  unfold ndv
  go_wp2_with fail
  exact bodyPost_ret (v := ndv kind t) (by simp [results, Tryz.results32, go_sem, ndv, hc0, hc1, hc2, hc3]) rfl (VPost.mk kind t rfl ((SPost.mk HS3.out HG3.out hj hj2 fun h => ⟨(HR3.out h).1, .date (HR3.out h).2.1, (HR3.out h).2.2⟩).res hin _ _ _ _))

set_option maxRecDepth 100000 in
set_option maxHeartbeats 4000000 in
theorem number_clock {w : World} {pb : Nat} {a : Addr} {C : Nat} {B : List UInt8} {k : Nat} {st : Int} (hS : SP w pb a C B k st) (hk : k ≤ B.length) (hd : ¬ dayB B k) (hh : hourB B k) :
    Calls Tryz.prog 32 #[.pointer (some ⟨pb, 0, none⟩)] w (VPost pb a C B k st w (NumR B k)) := by
  have HD := Lib.hid hd
  have HH := Lib.hid hh
  clear hd hh
  have hin := hS.in_heap
  have hi0 : NI pb a C B k st w (w.alloc Z38) := ⟨hS.alloc _, Gr.refl _ _⟩
  have HI0 := Lib.hid hi0
  have hl := hS.len
  clear hS hi0
  go_enter Tryz.func32, Tryz.ntmps32
  go_upto_region 1 with fail
  go_cut [21] (fun b wx => b = .bool false ∧ NI pb a C B k st w wx)
  case first =>
    go_wp2_with fail
    refine (two_any (HI0.out.drewN 0).1 0 k 4 (by omega) (by omega) (by decide)).mono ?_
    rintro e w' ⟨y, rfl, ly, uy, iy, m1, rfl⟩
    have IY := Lib.hid iy
    clear iy
    by_cases hy : y < 0
    · go_wp2_with fail
      go_meet
      exact ⟨rfl, (HI0.out.drewN _)⟩
    · have hy0 : 0 ≤ y := by omega
      have tp := byte_ne (c := pk B (k + 4)) (d := 45) (n := 45) (fun h => HD.out ⟨IY.out.1 hy0, h⟩) rfl
      obtain ⟨c4, hc4⟩ : ∃ c, pk B (k + 4) = c := ⟨_, rfl⟩
      have HP4 := Lib.hid (fun (W : World) (hW : SP W pb a C B k st) => peek_any hW 4 (k + 4) (by omega) (by omega))
      rw [hc4] at HP4 tp
      clear hc4 hy
      go_wp2_with fail
      refine (HP4.out _ (HI0.out.drewN _).1).mono ?_
      rintro e w' ⟨rfl, m2, rfl⟩
      go_wp2_with fail
      go_meet
      exact ⟨rfl, (HI0.out.drewN _)⟩
  case rest =>
    obtain ⟨rfl, hI⟩ := hcut
    have HI1 := Lib.hid hI
    clear hI
    obtain ⟨wd, rfl⟩ : ∃ wd : World, wd = wc := ⟨_, rfl⟩
    go_wp2_with fail
    refine (two_any (HI1.out.drewN 0).1 0 k 2 (by omega) (by omega) (by decide)).mono ?_
    rintro e w' ⟨y, rfl, ly, uy, iy, m1, rfl⟩
    have hy := iy.2 HH.out.1
    clear iy
    have t2 := byte_eq HH.out.2 (n := 58) rfl
    go_wp2_with fail
    refine (peek_any (HI1.out.drewN _).1 2 (k + 2) (by omega) (by omega)).mono ?_
    rintro e w' ⟨rfl, m2, rfl⟩
    go_wp2_with fail
    refine (clock_any (HI1.out.drewN _).1 0 k (by omega) (by omega)).mono ?_
    rintro e w' ⟨g, okb, rfl, hg7, hgr, m6, rfl⟩
    have HCLK := Lib.hid hgr
    clear hgr
    by_cases hg0 : g = 0
    · have tg : ((g : Int) == 0) = true := by simp [hg0]
      clear hg0
      go_wp2_with fail
      refine (fail_any ((HI1.out).drewN _).1).mono ?_
      rintro e w3 ⟨rfl, hS3, hG3⟩
      have HS3 := Lib.hid hS3
      have hg := (((HI1.out).drewN _).2.trans hG3)
      have HG3 := Lib.hid hg.fromAlloc
      obtain ⟨⟨c0, hc0⟩, ⟨c1, hc1⟩, ⟨c2, hc2⟩, ⟨c3, hc3⟩, hcf⟩ := Res.of _ _ _ _ _ hg hin.1
      clear hS3 hG3 hg
      go_wp2_with fail
      exact bodyPost_ret (v := ndv 0 []) (by simp [results, Tryz.results32, go_sem, ndv, hc0, hc1, hc2, hc3]) rfl (VPost.mk 0 [] rfl ((SPost.bad HS3.out HG3.out hk (bad_fail st)).res hin _ _ _ _))
    · have tg : ((g : Int) == 0) = false := by simp; omega
      have hgin := clock_in (HCLK.out hg0)
      have HG0 := Lib.hid hg0
      clear hg0
      cases okb with
      | false =>
        go_wp2_with fail
        refine (open_any ((HI1.out).drewN _).1).mono ?_
        rintro e w3 ⟨rfl, hS3, hG3⟩
        have HS3 := Lib.hid hS3
        have hg := (((HI1.out).drewN _).2.trans hG3)
        have HG3 := Lib.hid hg.fromAlloc
        obtain ⟨⟨c0, hc0⟩, ⟨c1, hc1⟩, ⟨c2, hc2⟩, ⟨c3, hc3⟩, hcf⟩ := Res.of _ _ _ _ _ hg hin.1
        clear hS3 hG3 hg
        go_wp2_with fail
        exact bodyPost_ret (v := ndv 0 []) (by simp [results, Tryz.results32, go_sem, ndv, hc0, hc1, hc2, hc3]) rfl (VPost.mk 0 [] rfl ((SPost.bad HS3.out HG3.out hk (by decide)).res hin _ _ _ _))
      | true =>
        obtain ⟨s, hs⟩ : ∃ s : ByteArray, s = ⟨((B.drop k).take (g)).toArray⟩ := ⟨_, rfl⟩
        have hrw := fun (W : World) (hW : SP W pb a C B k st) => raw_z hW 7 ((g : Int)) (g) (by omega) (by omega) (by omega) s hs
        have HRW := Lib.hid hrw
        have HSS := Lib.hid hs
        have hres : NumR B k g 7 := .clock (Nat.pos_of_ne_zero HG0.out) (HCLK.out HG0.out)
        have HRES := Lib.hid hres
        clear hres
        clear hs hrw
        go_wp2_with fail
        refine (HRW.out _ ((HI1.out).drewN _).1).mono ?_
        rintro e w3 ⟨rfl, hS3, hG3⟩
        have HS3 := Lib.hid hS3
        have hg := (((HI1.out).drewN _).2.trans hG3)
        have HG3 := Lib.hid hg.fromAlloc
        obtain ⟨⟨c0, hc0⟩, ⟨c1, hc1⟩, ⟨c2, hc2⟩, ⟨c3, hc3⟩, hcf⟩ := Res.of _ _ _ _ _ hg hin.1
        clear hS3 hG3 hg
        go_wp2_with fail
        exact bodyPost_ret (v := .agg #[.int .i64 7, .string s, .slice none 0 0, .slice none 0 0]) (by simp [results, Tryz.results32, go_sem, hc0, hc1, hc2, hc3]) rfl (VPost.mk 7 ((B.drop k).take (g)) (by rw [HSS.out]; rfl) ((SPost.mk HS3.out HG3.out (by omega) (by omega) fun h => ⟨h, by rw [Nat.add_sub_cancel_left]; exact ⟨HRES.out, rfl⟩⟩).res hin _ _ _ _))
end Go.Proofs.YtalmpddmhakdmaaGreat

/-
  The walk of a function of the spec's parser: a number, a date or a time; its ways that read figures of another base. Conditions: the parser lies in memory as stated.
-/
namespace Go.Proofs.YtalmpddmhakdmaaGreat
open Go.RowKit

theorem hasr {w : World} {pb : Nat} {a : Addr} {C : Nat} {B : List UInt8} {k : Nat} {st : Int} (hS : SP w pb a C B k st) (d : UInt8) (hd : d ≠ 0) (v : Bool) (hv : (pk B k == 48 && pk B (k + 1) == d) = v) :
    Calls Tryz.prog 10 #[.pointer (some ⟨pb, 0, none⟩), .string ⟨#[48, d]⟩] w fun e w' => e = .returned (.bool v) ∧ ∃ m, w' = w.drewN m := by
  have h := has_in hS ⟨#[48, d]⟩ (show 2 ≤ 100 by decide) (show 0 < 2 by decide)
  rw [hasB_two 48 d hd, hv] at h
  exact h
theorem grp_in {B : List UInt8} {base i e : Nat} (h : GrpR B base i e) : i < e ∧ e ≤ B.length := by
  induction h with
  | @stop i hd _ =>
    have h1 := dgN_le B i base
    have h2 : i < B.length := by
      rcases Nat.lt_or_ge i B.length with h | h
      · exact h
      · have : dgN B i base = 0 := by unfold dgN; rw [List.drop_eq_nil_of_le h]; rfl
        omega
    omega
  | @more i e hd _ _ ih => omega
theorem NI.alloc {pb : Nat} {a : Addr} {C : Nat} {B : List UInt8} {k : Nat} {st : Int} {w wx : World} (h : NI pb a C B k st w wx) (o : Obj) : NI pb a C B k st w (wx.alloc o) := ⟨h.1.alloc o, h.2.alloc o⟩

set_option maxRecDepth 100000 in
set_option maxHeartbeats 4000000 in
theorem number_radix0 {w : World} {pb : Nat} {a : Addr} {C : Nat} {B : List UInt8} {k : Nat} {st : Int} (hS : SP w pb a C B k st) (hk : k ≤ B.length) (hd : ¬ dayB B k) (hh : ¬ hourB B k) (h48 : pk B k = 48) (hL : pk B (k + 1) = 120) :
    Calls Tryz.prog 32 #[.pointer (some ⟨pb, 0, none⟩)] w (VPost pb a C B k st w (NumR B k)) := by
  have hk1 : k + 1 < B.length := pk_in (by rw [hL]; decide)
  have H48 := Lib.hid h48
  have HL := Lib.hid hL
  clear h48 hL
  have HD := Lib.hid hd
  have HH := Lib.hid hh
  clear hd hh
  have hin := hS.in_heap
  have hi0 : NI pb a C B k st w (w.alloc Z38) := ⟨hS.alloc _, Gr.refl _ _⟩
  have HI0 := Lib.hid hi0
  have hl := hS.len
  clear hS hi0
  go_enter Tryz.func32, Tryz.ntmps32
  go_upto_region 1 with fail
  go_cut [21] from 14 to 21 (fun b wx => b = .bool false ∧ NI pb a C B k st w wx)
  case first =>
    go_wp2_with fail
    refine (two_any (HI0.out.drewN 0).1 0 k 4 (by omega) (by omega) (by decide)).mono ?_
    rintro e w' ⟨y, rfl, ly, uy, iy, m1, rfl⟩
    have IY := Lib.hid iy
    clear iy
    by_cases hy : y < 0
    · go_wp2_with fail
      go_meet
      exact ⟨rfl, (HI0.out.drewN _)⟩
    · have hy0 : 0 ≤ y := by omega
      have tp := byte_ne (c := pk B (k + 4)) (d := 45) (n := 45) (fun h => HD.out ⟨IY.out.1 hy0, h⟩) rfl
      obtain ⟨c4, hc4⟩ : ∃ c, pk B (k + 4) = c := ⟨_, rfl⟩
      have HP4 := Lib.hid (fun (W : World) (hW : SP W pb a C B k st) => peek_any hW 4 (k + 4) (by omega) (by omega))
      rw [hc4] at HP4 tp
      clear hc4 hy
      go_wp2_with fail
      refine (HP4.out _ (HI0.out.drewN _).1).mono ?_
      rintro e w' ⟨rfl, m2, rfl⟩
      go_wp2_with fail
      go_meet
      exact ⟨rfl, (HI0.out.drewN _)⟩
  case rest =>
    obtain ⟨rfl, hI⟩ := hcut
    have HI1 := Lib.hid hI
    clear hI
    obtain ⟨wd, rfl⟩ : ∃ wd : World, wd = wc := ⟨_, rfl⟩
    go_upto_region 3 with fail
    clear HI0
    go_cut [31] from 24 to 31 (fun b wx => b = .bool false ∧ NI pb a C B k st w wx)
    case first =>
      go_wp2_with fail
      refine (two_any (HI1.out.drewN 0).1 0 k 2 (by omega) (by omega) (by decide)).mono ?_
      rintro e w' ⟨y, rfl, ly, uy, iy, m1, rfl⟩
      have IY := Lib.hid iy
      clear iy
      by_cases hy : y < 0
      · go_wp2_with fail
        go_meet
        exact ⟨rfl, (HI1.out.drewN _)⟩
      · have hy0 : 0 ≤ y := by omega
        have tp := byte_ne (c := pk B (k + 2)) (d := 58) (n := 58) (fun h => HH.out ⟨IY.out.1 hy0, h⟩) rfl
        obtain ⟨c4, hc4⟩ : ∃ c, pk B (k + 2) = c := ⟨_, rfl⟩
        have HP4 := Lib.hid (fun (W : World) (hW : SP W pb a C B k st) => peek_any hW 2 (k + 2) (by omega) (by omega))
        rw [hc4] at HP4 tp
        clear hc4 hy
        go_wp2_with fail
        refine (HP4.out _ (HI1.out.drewN _).1).mono ?_
        rintro e w' ⟨rfl, m2, rfl⟩
        go_wp2_with fail
        go_meet
        exact ⟨rfl, (HI1.out.drewN _)⟩
    case rest =>
      obtain ⟨rfl, hI⟩ := hcut
      have HI2 := Lib.hid hI
      clear hI HI1
      obtain ⟨we, rfl⟩ : ∃ we : World, we = wc := ⟨_, rfl⟩
      go_wp2_with fail
      refine wp_loop_rounds 4 ?_
      rw [rounds_succ]
      go_wp2_with fail
      refine (hasr (HI2.out.1.alloc _) 120 (by decide) true (by rw [H48.out, HL.out]; rfl)).mono ?_
      rintro e w' ⟨rfl, m1, rfl⟩
      go_wp2_with fail
      refine (grouped_any (((HI2.out.1.alloc _).drewN _).alloc _) 2 (k + 2) 16 (by omega) (by omega) (by omega) (by decide)).mono ?_
      rintro e w' ⟨g, rfl, hg7, hgr, m9, rfl⟩
      have HGR := Lib.hid hgr
      have HI3 := Lib.hid (fun (o o2 : Obj) (m : Nat) => ((HI2.out.alloc o).drewN m).alloc o2)
      clear hgr
      by_cases hg0 : g = 0
      · have tg : ((g : Int) == 0) = true := by simp [hg0]
        clear hg0
        go_wp2_with fail
        refine (fail_any ((HI3.out _ _ _).drewN _).1).mono ?_
        rintro e w3 ⟨rfl, hS3, hG3⟩
        have HS3 := Lib.hid hS3
        have hg := (((HI3.out _ _ _).drewN _).2.trans hG3)
        have HG3 := Lib.hid hg.fromAlloc
        obtain ⟨⟨c0, hc0⟩, ⟨c1, hc1⟩, ⟨c2, hc2⟩, ⟨c3, hc3⟩, hcf⟩ := Res.of _ _ _ _ _ hg hin.1
        clear hS3 hG3 hg
        go_wp2_with fail
        exact bodyPost_ret (v := ndv 0 []) (by simp [results, Tryz.results32, go_sem, ndv, hc0, hc1, hc2, hc3]) rfl (VPost.mk 0 [] rfl ((SPost.bad HS3.out HG3.out hk (bad_fail st)).res hin _ _ _ _))
      · have tg : ((g : Int) == 0) = false := by simp; omega
        have hgp : 0 < g := by omega
        have hgin := grp_in (HGR.out hg0)
        have HG0 := Lib.hid hg0
        clear hg0
        obtain ⟨s, hs⟩ : ∃ s : ByteArray, s = ⟨((B.drop k).take (2 + g)).toArray⟩ := ⟨_, rfl⟩
        have hrw := fun (W : World) (hW : SP W pb a C B k st) => raw_z hW 1 ((2 : Int) + g) (2 + g) (by omega) (by omega) (by omega) s hs
        have HRW := Lib.hid hrw
        have HSS := Lib.hid hs
        have hres : NumR B k (2 + g) 1 := .radix H48.out (by rw [HL.out]; decide) (by rw [HL.out, show k + (2 + g) = k + 2 + g by omega]; exact HGR.out HG0.out) (by omega)
        have HRES := Lib.hid hres
        clear hres
        clear hs hrw
        go_wp2_with fail
        refine (HRW.out _ ((HI3.out _ _ _).drewN _).1).mono ?_
        rintro e w3 ⟨rfl, hS3, hG3⟩
        have HS3 := Lib.hid hS3
        have hg := (((HI3.out _ _ _).drewN _).2.trans hG3)
        have HG3 := Lib.hid hg.fromAlloc
        obtain ⟨⟨c0, hc0⟩, ⟨c1, hc1⟩, ⟨c2, hc2⟩, ⟨c3, hc3⟩, hcf⟩ := Res.of _ _ _ _ _ hg hin.1
        clear hS3 hG3 hg
        go_wp2_with fail
        exact bodyPost_ret (v := .agg #[.int .i64 1, .string s, .slice none 0 0, .slice none 0 0]) (by simp [results, Tryz.results32, go_sem, hc0, hc1, hc2, hc3]) rfl (VPost.mk 1 ((B.drop k).take (2 + g)) (by rw [HSS.out]; rfl) ((SPost.mk HS3.out HG3.out (by omega) (by omega) fun h => ⟨h, by rw [Nat.add_sub_cancel_left]; exact ⟨HRES.out, rfl⟩⟩).res hin _ _ _ _))

set_option maxRecDepth 100000 in
set_option maxHeartbeats 4000000 in
theorem number_radix1 {w : World} {pb : Nat} {a : Addr} {C : Nat} {B : List UInt8} {k : Nat} {st : Int} (hS : SP w pb a C B k st) (hk : k ≤ B.length) (hd : ¬ dayB B k) (hh : ¬ hourB B k) (h48 : pk B k = 48) (hL : pk B (k + 1) = 111) :
    Calls Tryz.prog 32 #[.pointer (some ⟨pb, 0, none⟩)] w (VPost pb a C B k st w (NumR B k)) := by
  have hk1 : k + 1 < B.length := pk_in (by rw [hL]; decide)
  have H48 := Lib.hid h48
  have HL := Lib.hid hL
  clear h48 hL
  have HD := Lib.hid hd
  have HH := Lib.hid hh
  clear hd hh
  have hin := hS.in_heap
  have hi0 : NI pb a C B k st w (w.alloc Z38) := ⟨hS.alloc _, Gr.refl _ _⟩
  have HI0 := Lib.hid hi0
  have hl := hS.len
  clear hS hi0
  go_enter Tryz.func32, Tryz.ntmps32
  go_upto_region 1 with fail
  go_cut [21] from 14 to 21 (fun b wx => b = .bool false ∧ NI pb a C B k st w wx)
  case first =>
    go_wp2_with fail
    refine (two_any (HI0.out.drewN 0).1 0 k 4 (by omega) (by omega) (by decide)).mono ?_
    rintro e w' ⟨y, rfl, ly, uy, iy, m1, rfl⟩
    have IY := Lib.hid iy
    clear iy
    by_cases hy : y < 0
    · go_wp2_with fail
      go_meet
      exact ⟨rfl, (HI0.out.drewN _)⟩
    · have hy0 : 0 ≤ y := by omega
      have tp := byte_ne (c := pk B (k + 4)) (d := 45) (n := 45) (fun h => HD.out ⟨IY.out.1 hy0, h⟩) rfl
      obtain ⟨c4, hc4⟩ : ∃ c, pk B (k + 4) = c := ⟨_, rfl⟩
      have HP4 := Lib.hid (fun (W : World) (hW : SP W pb a C B k st) => peek_any hW 4 (k + 4) (by omega) (by omega))
      rw [hc4] at HP4 tp
      clear hc4 hy
      go_wp2_with fail
      refine (HP4.out _ (HI0.out.drewN _).1).mono ?_
      rintro e w' ⟨rfl, m2, rfl⟩
      go_wp2_with fail
      go_meet
      exact ⟨rfl, (HI0.out.drewN _)⟩
  case rest =>
    obtain ⟨rfl, hI⟩ := hcut
    have HI1 := Lib.hid hI
    clear hI
    obtain ⟨wd, rfl⟩ : ∃ wd : World, wd = wc := ⟨_, rfl⟩
    go_upto_region 3 with fail
    clear HI0
    go_cut [31] from 24 to 31 (fun b wx => b = .bool false ∧ NI pb a C B k st w wx)
    case first =>
      go_wp2_with fail
      refine (two_any (HI1.out.drewN 0).1 0 k 2 (by omega) (by omega) (by decide)).mono ?_
      rintro e w' ⟨y, rfl, ly, uy, iy, m1, rfl⟩
      have IY := Lib.hid iy
      clear iy
      by_cases hy : y < 0
      · go_wp2_with fail
        go_meet
        exact ⟨rfl, (HI1.out.drewN _)⟩
      · have hy0 : 0 ≤ y := by omega
        have tp := byte_ne (c := pk B (k + 2)) (d := 58) (n := 58) (fun h => HH.out ⟨IY.out.1 hy0, h⟩) rfl
        obtain ⟨c4, hc4⟩ : ∃ c, pk B (k + 2) = c := ⟨_, rfl⟩
        have HP4 := Lib.hid (fun (W : World) (hW : SP W pb a C B k st) => peek_any hW 2 (k + 2) (by omega) (by omega))
        rw [hc4] at HP4 tp
        clear hc4 hy
        go_wp2_with fail
        refine (HP4.out _ (HI1.out.drewN _).1).mono ?_
        rintro e w' ⟨rfl, m2, rfl⟩
        go_wp2_with fail
        go_meet
        exact ⟨rfl, (HI1.out.drewN _)⟩
    case rest =>
      obtain ⟨rfl, hI⟩ := hcut
      have HI2 := Lib.hid hI
      clear hI HI1
      obtain ⟨we, rfl⟩ : ∃ we : World, we = wc := ⟨_, rfl⟩
      go_wp2_with fail
      refine wp_loop_rounds 4 ?_
      rw [rounds_succ]
      go_wp2_with fail
      refine (hasr (HI2.out.1.alloc _) 120 (by decide) false (by rw [H48.out, HL.out]; rfl)).mono ?_
      rintro e w' ⟨rfl, m1, rfl⟩
      go_wp2_with fail
      rw [rounds_succ]
      go_wp2_with fail
      refine (hasr ((HI2.out.1.alloc _).drewN _) 111 (by decide) true (by rw [H48.out, HL.out]; rfl)).mono ?_
      rintro e w' ⟨rfl, m2, rfl⟩
      go_wp2_with fail
      refine (grouped_any (((HI2.out.1.alloc _).drewN _).alloc _) 2 (k + 2) 8 (by omega) (by omega) (by omega) (by decide)).mono ?_
      rintro e w' ⟨g, rfl, hg7, hgr, m9, rfl⟩
      have HGR := Lib.hid hgr
      have HI3 := Lib.hid (fun (o o2 : Obj) (m : Nat) => ((HI2.out.alloc o).drewN m).alloc o2)
      clear hgr
      by_cases hg0 : g = 0
      · have tg : ((g : Int) == 0) = true := by simp [hg0]
        clear hg0
        go_wp2_with fail
        refine (fail_any ((HI3.out _ _ _).drewN _).1).mono ?_
        rintro e w3 ⟨rfl, hS3, hG3⟩
        have HS3 := Lib.hid hS3
        have hg := (((HI3.out _ _ _).drewN _).2.trans hG3)
        have HG3 := Lib.hid hg.fromAlloc
        obtain ⟨⟨c0, hc0⟩, ⟨c1, hc1⟩, ⟨c2, hc2⟩, ⟨c3, hc3⟩, hcf⟩ := Res.of _ _ _ _ _ hg hin.1
        clear hS3 hG3 hg
        go_wp2_with fail
        exact bodyPost_ret (v := ndv 0 []) (by simp [results, Tryz.results32, go_sem, ndv, hc0, hc1, hc2, hc3]) rfl (VPost.mk 0 [] rfl ((SPost.bad HS3.out HG3.out hk (bad_fail st)).res hin _ _ _ _))
      · have tg : ((g : Int) == 0) = false := by simp; omega
        have hgp : 0 < g := by omega
        have hgin := grp_in (HGR.out hg0)
        have HG0 := Lib.hid hg0
        clear hg0
        obtain ⟨s, hs⟩ : ∃ s : ByteArray, s = ⟨((B.drop k).take (2 + g)).toArray⟩ := ⟨_, rfl⟩
        have hrw := fun (W : World) (hW : SP W pb a C B k st) => raw_z hW 1 ((2 : Int) + g) (2 + g) (by omega) (by omega) (by omega) s hs
        have HRW := Lib.hid hrw
        have HSS := Lib.hid hs
        have hres : NumR B k (2 + g) 1 := .radix H48.out (by rw [HL.out]; decide) (by rw [HL.out, show k + (2 + g) = k + 2 + g by omega]; exact HGR.out HG0.out) (by omega)
        have HRES := Lib.hid hres
        clear hres
        clear hs hrw
        go_wp2_with fail
        refine (HRW.out _ ((HI3.out _ _ _).drewN _).1).mono ?_
        rintro e w3 ⟨rfl, hS3, hG3⟩
        have HS3 := Lib.hid hS3
        have hg := (((HI3.out _ _ _).drewN _).2.trans hG3)
        have HG3 := Lib.hid hg.fromAlloc
        obtain ⟨⟨c0, hc0⟩, ⟨c1, hc1⟩, ⟨c2, hc2⟩, ⟨c3, hc3⟩, hcf⟩ := Res.of _ _ _ _ _ hg hin.1
        clear hS3 hG3 hg
        go_wp2_with fail
        exact bodyPost_ret (v := .agg #[.int .i64 1, .string s, .slice none 0 0, .slice none 0 0]) (by simp [results, Tryz.results32, go_sem, hc0, hc1, hc2, hc3]) rfl (VPost.mk 1 ((B.drop k).take (2 + g)) (by rw [HSS.out]; rfl) ((SPost.mk HS3.out HG3.out (by omega) (by omega) fun h => ⟨h, by rw [Nat.add_sub_cancel_left]; exact ⟨HRES.out, rfl⟩⟩).res hin _ _ _ _))

set_option maxRecDepth 100000 in
set_option maxHeartbeats 4000000 in
theorem number_radix2 {w : World} {pb : Nat} {a : Addr} {C : Nat} {B : List UInt8} {k : Nat} {st : Int} (hS : SP w pb a C B k st) (hk : k ≤ B.length) (hd : ¬ dayB B k) (hh : ¬ hourB B k) (h48 : pk B k = 48) (hL : pk B (k + 1) = 98) :
    Calls Tryz.prog 32 #[.pointer (some ⟨pb, 0, none⟩)] w (VPost pb a C B k st w (NumR B k)) := by
  have hk1 : k + 1 < B.length := pk_in (by rw [hL]; decide)
  have H48 := Lib.hid h48
  have HL := Lib.hid hL
  clear h48 hL
  have HD := Lib.hid hd
  have HH := Lib.hid hh
  clear hd hh
  have hin := hS.in_heap
  have hi0 : NI pb a C B k st w (w.alloc Z38) := ⟨hS.alloc _, Gr.refl _ _⟩
  have HI0 := Lib.hid hi0
  have hl := hS.len
  clear hS hi0
  go_enter Tryz.func32, Tryz.ntmps32
  go_upto_region 1 with fail
  go_cut [21] from 14 to 21 (fun b wx => b = .bool false ∧ NI pb a C B k st w wx)
  case first =>
    go_wp2_with fail
    refine (two_any (HI0.out.drewN 0).1 0 k 4 (by omega) (by omega) (by decide)).mono ?_
    rintro e w' ⟨y, rfl, ly, uy, iy, m1, rfl⟩
    have IY := Lib.hid iy
    clear iy
    by_cases hy : y < 0
    · go_wp2_with fail
      go_meet
      exact ⟨rfl, (HI0.out.drewN _)⟩
    · have hy0 : 0 ≤ y := by omega
      have tp := byte_ne (c := pk B (k + 4)) (d := 45) (n := 45) (fun h => HD.out ⟨IY.out.1 hy0, h⟩) rfl
      obtain ⟨c4, hc4⟩ : ∃ c, pk B (k + 4) = c := ⟨_, rfl⟩
      have HP4 := Lib.hid (fun (W : World) (hW : SP W pb a C B k st) => peek_any hW 4 (k + 4) (by omega) (by omega))
      rw [hc4] at HP4 tp
      clear hc4 hy
      go_wp2_with fail
      refine (HP4.out _ (HI0.out.drewN _).1).mono ?_
      rintro e w' ⟨rfl, m2, rfl⟩
      go_wp2_with fail
      go_meet
      exact ⟨rfl, (HI0.out.drewN _)⟩
  case rest =>
    obtain ⟨rfl, hI⟩ := hcut
    have HI1 := Lib.hid hI
    clear hI
    obtain ⟨wd, rfl⟩ : ∃ wd : World, wd = wc := ⟨_, rfl⟩
    go_upto_region 3 with fail
    clear HI0
    go_cut [31] from 24 to 31 (fun b wx => b = .bool false ∧ NI pb a C B k st w wx)
    case first =>
      go_wp2_with fail
      refine (two_any (HI1.out.drewN 0).1 0 k 2 (by omega) (by omega) (by decide)).mono ?_
      rintro e w' ⟨y, rfl, ly, uy, iy, m1, rfl⟩
      have IY := Lib.hid iy
      clear iy
      by_cases hy : y < 0
      · go_wp2_with fail
        go_meet
        exact ⟨rfl, (HI1.out.drewN _)⟩
      · have hy0 : 0 ≤ y := by omega
        have tp := byte_ne (c := pk B (k + 2)) (d := 58) (n := 58) (fun h => HH.out ⟨IY.out.1 hy0, h⟩) rfl
        obtain ⟨c4, hc4⟩ : ∃ c, pk B (k + 2) = c := ⟨_, rfl⟩
        have HP4 := Lib.hid (fun (W : World) (hW : SP W pb a C B k st) => peek_any hW 2 (k + 2) (by omega) (by omega))
        rw [hc4] at HP4 tp
        clear hc4 hy
        go_wp2_with fail
        refine (HP4.out _ (HI1.out.drewN _).1).mono ?_
        rintro e w' ⟨rfl, m2, rfl⟩
        go_wp2_with fail
        go_meet
        exact ⟨rfl, (HI1.out.drewN _)⟩
    case rest =>
      obtain ⟨rfl, hI⟩ := hcut
      have HI2 := Lib.hid hI
      clear hI HI1
      obtain ⟨we, rfl⟩ : ∃ we : World, we = wc := ⟨_, rfl⟩
      go_wp2_with fail
      refine wp_loop_rounds 4 ?_
      rw [rounds_succ]
      go_wp2_with fail
      refine (hasr (HI2.out.1.alloc _) 120 (by decide) false (by rw [H48.out, HL.out]; rfl)).mono ?_
      rintro e w' ⟨rfl, m1, rfl⟩
      go_wp2_with fail
      rw [rounds_succ]
      go_wp2_with fail
      refine (hasr ((HI2.out.1.alloc _).drewN _) 111 (by decide) false (by rw [H48.out, HL.out]; rfl)).mono ?_
      rintro e w' ⟨rfl, m2, rfl⟩
      go_wp2_with fail
      rw [rounds_succ]
      go_wp2_with fail
      refine (hasr ((HI2.out.1.alloc _).drewN _) 98 (by decide) true (by rw [H48.out, HL.out]; rfl)).mono ?_
      rintro e w' ⟨rfl, m3, rfl⟩
      go_wp2_with fail
      refine (grouped_any (((HI2.out.1.alloc _).drewN _).alloc _) 2 (k + 2) 2 (by omega) (by omega) (by omega) (by decide)).mono ?_
      rintro e w' ⟨g, rfl, hg7, hgr, m9, rfl⟩
      have HGR := Lib.hid hgr
      have HI3 := Lib.hid (fun (o o2 : Obj) (m : Nat) => ((HI2.out.alloc o).drewN m).alloc o2)
      clear hgr
      by_cases hg0 : g = 0
      · have tg : ((g : Int) == 0) = true := by simp [hg0]
        clear hg0
        go_wp2_with fail
        refine (fail_any ((HI3.out _ _ _).drewN _).1).mono ?_
        rintro e w3 ⟨rfl, hS3, hG3⟩
        have HS3 := Lib.hid hS3
        have hg := (((HI3.out _ _ _).drewN _).2.trans hG3)
        have HG3 := Lib.hid hg.fromAlloc
        obtain ⟨⟨c0, hc0⟩, ⟨c1, hc1⟩, ⟨c2, hc2⟩, ⟨c3, hc3⟩, hcf⟩ := Res.of _ _ _ _ _ hg hin.1
        clear hS3 hG3 hg
        go_wp2_with fail
        exact bodyPost_ret (v := ndv 0 []) (by simp [results, Tryz.results32, go_sem, ndv, hc0, hc1, hc2, hc3]) rfl (VPost.mk 0 [] rfl ((SPost.bad HS3.out HG3.out hk (bad_fail st)).res hin _ _ _ _))
      · have tg : ((g : Int) == 0) = false := by simp; omega
        have hgp : 0 < g := by omega
        have hgin := grp_in (HGR.out hg0)
        have HG0 := Lib.hid hg0
        clear hg0
        obtain ⟨s, hs⟩ : ∃ s : ByteArray, s = ⟨((B.drop k).take (2 + g)).toArray⟩ := ⟨_, rfl⟩
        have hrw := fun (W : World) (hW : SP W pb a C B k st) => raw_z hW 1 ((2 : Int) + g) (2 + g) (by omega) (by omega) (by omega) s hs
        have HRW := Lib.hid hrw
        have HSS := Lib.hid hs
        have hres : NumR B k (2 + g) 1 := .radix H48.out (by rw [HL.out]; decide) (by rw [HL.out, show k + (2 + g) = k + 2 + g by omega]; exact HGR.out HG0.out) (by omega)
        have HRES := Lib.hid hres
        clear hres
        clear hs hrw
        go_wp2_with fail
        refine (HRW.out _ ((HI3.out _ _ _).drewN _).1).mono ?_
        rintro e w3 ⟨rfl, hS3, hG3⟩
        have HS3 := Lib.hid hS3
        have hg := (((HI3.out _ _ _).drewN _).2.trans hG3)
        have HG3 := Lib.hid hg.fromAlloc
        obtain ⟨⟨c0, hc0⟩, ⟨c1, hc1⟩, ⟨c2, hc2⟩, ⟨c3, hc3⟩, hcf⟩ := Res.of _ _ _ _ _ hg hin.1
        clear hS3 hG3 hg
        go_wp2_with fail
        exact bodyPost_ret (v := .agg #[.int .i64 1, .string s, .slice none 0 0, .slice none 0 0]) (by simp [results, Tryz.results32, go_sem, hc0, hc1, hc2, hc3]) rfl (VPost.mk 1 ((B.drop k).take (2 + g)) (by rw [HSS.out]; rfl) ((SPost.mk HS3.out HG3.out (by omega) (by omega) fun h => ⟨h, by rw [Nat.add_sub_cancel_left]; exact ⟨HRES.out, rfl⟩⟩).res hin _ _ _ _))
end Go.Proofs.YtalmpddmhakdmaaGreat
