/-
  The walk of a function of the spec's parser: a date, with a time or without. Conditions: the parser lies in memory as stated.
-/
import Derived.Test.YtalmpddmhakdmaaGreatCRaw
namespace Go.Proofs.YtalmpddmhakdmaaGreat
open Go.RowKit

/-- A date. -/
def DayR (B : List UInt8) (i : Nat) : Prop := figsAt B i 4 ∧ pk B (i + 4) = 45 ∧ figsAt B (i + 5) 2 ∧ pk B (i + 7) = 45 ∧ figsAt B (i + 8) 2
/-- A date, with a time or without: of so many signs, of a kind. -/
def DateR (B : List UInt8) (i n : Nat) (kind : Int) : Prop :=
  DayR B i ∧ ((kind = 6 ∧ n = 10) ∨ ((pk B (i + 10) = 84 ∨ pk B (i + 10) = 32) ∧ ∃ c, 0 < c ∧ ClockR B (i + 11) c ∧
    ((kind = 5 ∧ n = 11 + c) ∨ (kind = 4 ∧ n = 12 + c ∧ pk B (i + 11 + c) = 90) ∨
     (kind = 4 ∧ n = 17 + c ∧ (pk B (i + 11 + c) = 43 ∨ pk B (i + 11 + c) = 45) ∧ figsAt B (i + 12 + c) 2 ∧ pk B (i + 14 + c) = 58 ∧ figsAt B (i + 15 + c) 2))))

/-- .. of a function that hands back a value without parts. -/
def VPost (pb : Nat) (a : Addr) (C : Nat) (B : List UInt8) (k : Nat) (st : Int) (w : World) (R : Nat → Int → Prop) (e : Ending) (w' : World) : Prop :=
  ∃ (kind : Int) (t : List UInt8), e = .returned (ndv kind t) ∧ SPost pb a C B k st w (fun j => R (j - k) kind ∧ t = (B.drop k).take (j - k)) w'
theorem VPost.mk {pb : Nat} {a : Addr} {C : Nat} {B : List UInt8} {k : Nat} {st : Int} {w : World} {R : Nat → Int → Prop} {e : Ending} {w' : World} (kind : Int) (t : List UInt8) (h : e = .returned (ndv kind t)) (h2 : SPost pb a C B k st w (fun j => R (j - k) kind ∧ t = (B.drop k).take (j - k)) w') : VPost pb a C B k st w R e w' := ⟨kind, t, h, h2⟩

theorem figs_in {B : List UInt8} {i n : Nat} (h : figsAt B i n) (hn : 0 < n) : i + n ≤ B.length := by
  have h1 := fig_iff.1 (h (n - 1) (by omega))
  have := pk_in (B := B) (k := i + (n - 1)) (by intro e; rw [e] at h1; revert h1; decide)
  omega

theorem clock_in {B : List UInt8} {i n : Nat} (h : ClockR B i n) : i + n ≤ B.length ∧ 8 ≤ n := by
  obtain ⟨_, _, _, _, h6, h8 | ⟨h8, h9, h10⟩⟩ := h
  · have := figs_in h6 (by decide)
    omega
  · have hin : i + 8 < B.length := pk_in (by rw [h8]; decide)
    have := dgN_le B (i + 9) 10
    omega

theorem raw_z {w : World} {pb : Nat} {a : Addr} {C : Nat} {B : List UInt8} {k : Nat} {st : Int} (hS : SP w pb a C B k st) (kind : Int) (z : Int) (n : Nat) (hz : z = (n : Int)) (hn : k + n ≤ B.length) (hn0 : 0 < n) (s : ByteArray) (hs : s = ⟨((B.drop k).take n).toArray⟩) :
    Calls Tryz.prog 29 #[.pointer (some ⟨pb, 0, none⟩), .int .i64 kind, .int .i64 z] w fun e w' => e = .returned (.agg #[.int .i64 kind, .string s, .slice none 0 0, .slice none 0 0]) ∧ SP w' pb a C B (k + n) st ∧ Gr w w' pb := by
  subst hz
  subst hs
  exact raw_any hS kind n hn hn0

/-- The cells of a result that a call has made first. -/
structure Res (w w' : World) : Prop where
  c0 : ∃ v, w'.cell? ⟨w.heap.size, 0, none⟩ = some v
  c1 : ∃ v, w'.cell? ⟨w.heap.size, 1, none⟩ = some v
  c2 : ∃ v, w'.cell? ⟨w.heap.size, 2, none⟩ = some v
  c3 : ∃ v, w'.cell? ⟨w.heap.size, 3, none⟩ = some v
  f : ∀ j, w'.frozen? ⟨w.heap.size, j, none⟩ = false
theorem Res.of {w w' : World} {pb : Nat} (v0 v1 v2 v3 : Value) (t : TypeId) (hg : Gr (w.alloc (.cells #[v0, v1, v2, v3] t)) w' pb) (hp : pb < w.heap.size) : Res w w' := by
  have hb : w'.heap[w.heap.size]? = (w.alloc (.cells #[v0, v1, v2, v3] t)).heap[w.heap.size]? := hg.block _ (by simp) (by intro e; injection e with e; omega)
  have hc : ∀ j, w'.cell? ⟨w.heap.size, j, none⟩ = (#[v0, v1, v2, v3] : Array Value)[j]? := fun j => (World.cell?_of_block (w := w.alloc (.cells #[v0, v1, v2, v3] t)) hb).trans (cell_marked w _ t (0, 0) j)
  refine ⟨⟨v0, hc 0⟩, ⟨v1, hc 1⟩, ⟨v2, hc 2⟩, ⟨v3, hc 3⟩, fun j => ?_⟩
  rw [World.frozen?_of_block (w := w.alloc (.cells #[v0, v1, v2, v3] t)) hb]
  have hh : (w.alloc (.cells #[v0, v1, v2, v3] t)).heap[w.heap.size]? = some (.cells #[v0, v1, v2, v3] t (0, 0)) := by
    show (w.heap.push _)[w.heap.size]? = _
    simp
  unfold World.frozen?
  rw [hh]
  simp
theorem Gr.setNew {w w' : World} {pb : Nat} (h : Gr w w' pb) (p : Addr) (hp : w.heap.size ≤ p.block) (v : Value) : Gr w (w'.setCell p v) pb :=
  h.grown (row := some p.block) ⟨rfl, rfl, rfl, by simp [World.setCell], fun k _ hne => Below.heap_setCell w' p v k (fun e => hne (by rw [e]))⟩ fun k hk => by cases hk; exact hp
theorem SP.setNew {w : World} {pb base : Nat} {a : Addr} {C : Nat} {B : List UInt8} {k : Nat} {st : Int} (h : SP w pb a C B k st) (p : Addr) (hp : base ≤ p.block) (h1 : pb < base) (h2 : B ≠ [] → a.block < base) (v : Value) : SP (w.setCell p v) pb a C B k st :=
  h.blocks (Below.heap_setCell w p v pb (by omega)) fun hne => Below.heap_setCell w p v _ (by have := h2 hne; omega)

/-- The world behind the storing of a result. -/
theorem SPost.res {pb : Nat} {a : Addr} {C : Nat} {B : List UInt8} {k : Nat} {st : Int} {w w3 : World} {R : Nat → Prop} (h : SPost pb a C B k st w R w3) (hin : pb < w.heap.size ∧ (B ≠ [] → a.block < w.heap.size)) (v0 v1 v2 v3 : Value) :
    SPost pb a C B k st w R ((((w3.setCell ⟨w.heap.size, 0, none⟩ v0).setCell ⟨w.heap.size, 1, none⟩ v1).setCell ⟨w.heap.size, 2, none⟩ v2).setCell ⟨w.heap.size, 3, none⟩ v3) := by
  obtain ⟨k', st', hS, hG, h1, h2, h3⟩ := h
  exact ⟨k', st', (((hS.setNew _ (Nat.le_refl w.heap.size) hin.1 hin.2 _).setNew _ (Nat.le_refl w.heap.size) hin.1 hin.2 _).setNew _ (Nat.le_refl w.heap.size) hin.1 hin.2 _).setNew _ (Nat.le_refl w.heap.size) hin.1 hin.2 _,
    (((hG.setNew _ (Nat.le_refl _) _).setNew _ (Nat.le_refl _) _).setNew _ (Nat.le_refl _) _).setNew _ (Nat.le_refl _) _, h1, h2, h3⟩
theorem SPost.bad {pb : Nat} {a : Addr} {C : Nat} {B : List UInt8} {k : Nat} {st st' : Int} {w w3 : World} {R : Nat → Prop} (hS : SP w3 pb a C B B.length st') (hG : Gr w w3 pb) (hk : k ≤ B.length) (h : st' ≠ 0) : SPost pb a C B k st w R w3 :=
  SPost.mk hS hG hk (Nat.le_refl _) fun e => absurd e h
theorem bad_fail (st : Int) : (if st = 0 then 1 else st) ≠ 0 := by split <;> omega

set_option maxRecDepth 100000 in
set_option maxHeartbeats 4000000 in
theorem date_any {w : World} {pb : Nat} {a : Addr} {C : Nat} {B : List UInt8} {k : Nat} {st : Int} (hS : SP w pb a C B k st) (hk : k ≤ B.length) (hy4 : figsAt B k 4) (h45 : pk B (k + 4) = 45) :
    Calls Tryz.prog 52 #[.pointer (some ⟨pb, 0, none⟩)] w (VPost pb a C B k st w (DateR B k)) := by
  have hin := hS.in_heap
  have HS := Lib.hid (fun (o : Obj) (q : Nat) => (hS.alloc o).drewN q)
  have HG := Lib.hid (fun (o : Obj) (q : Nat) => ((Gr.refl w pb).alloc o).drewN q)
  have HY4 := Lib.hid (And.intro hy4 h45)
  have hl := hS.len
  clear hS hy4 h45
  go_enter Tryz.func52, Tryz.ntmps52
  go_wp2_with fail
  refine (two_any (HS.out _ 0) 0 k 4 (by omega) (by omega) (by decide)).mono ?_
  rintro e w' ⟨y, rfl, ly, uy, iy, m1, rfl⟩
  have IY := Lib.hid iy
  clear iy
  go_wp2_with fail
  refine (two_any (HS.out _ _) 5 (k + 5) 2 (by omega) (by omega) (by decide)).mono ?_
  rintro e w' ⟨m, rfl, lm, um, im, m2, rfl⟩
  have IM := Lib.hid im
  clear im
  go_wp2_with fail
  refine (two_any (HS.out _ _) 8 (k + 8) 2 (by omega) (by omega) (by decide)).mono ?_
  rintro e w' ⟨d, rfl, ld, ud, id, m3, rfl⟩
  have ID := Lib.hid id
  clear id
  by_cases hm : m < 0
  · go_wp2_with fail
    refine (fail_any (HS.out _ _)).mono ?_
    rintro e w3 ⟨rfl, hS3, hG3⟩
    have HS3 := Lib.hid hS3
    have HG3 := Lib.hid ((HG.out _ _).trans hG3)
    obtain ⟨⟨c0, hc0⟩, ⟨c1, hc1⟩, ⟨c2, hc2⟩, ⟨c3, hc3⟩, hcf⟩ := Res.of _ _ _ _ _ hG3.ofDrewN hin.1
    clear hS3 hG3
    go_wp2_with fail
    exact bodyPost_ret (v := ndv 0 []) (by simp [results, Tryz.results52, go_sem, ndv, hc0, hc1, hc2, hc3]) rfl (VPost.mk 0 [] rfl ((SPost.bad HS3.out HG3.out hk (bad_fail st)).res hin _ _ _ _))
  · have hm0 : 0 ≤ m := by omega
    clear hm
    obtain ⟨c7, hc7⟩ : ∃ c, pk B (k + 7) = c := ⟨_, rfl⟩
    have HP7 := Lib.hid (fun (W : World) (hW : SP W pb a C B k st) => peek_any hW 7 (k + 7) (by omega) (by omega))
    rw [hc7] at HP7
    have HC7 := Lib.hid hc7
    clear hc7
    go_wp2_with fail
    refine (HP7.out _ (HS.out _ _)).mono ?_
    rintro e w' ⟨rfl, m0, rfl⟩
    by_cases h7 : c7 = 45
    · have t7 := byte_eq' h7 (n := 45) rfl
      have H7 := Lib.hid h7
      clear h7
      by_cases hd : d < 0
      · go_wp2_with fail
        refine (fail_any (HS.out _ _)).mono ?_
        rintro e w3 ⟨rfl, hS3, hG3⟩
        have HS3 := Lib.hid hS3
        have HG3 := Lib.hid ((HG.out _ _).trans hG3)
        obtain ⟨⟨c0, hc0⟩, ⟨c1, hc1⟩, ⟨c2, hc2⟩, ⟨c3, hc3⟩, hcf⟩ := Res.of _ _ _ _ _ hG3.ofDrewN hin.1
        clear hS3 hG3
        go_wp2_with fail
        exact bodyPost_ret (v := ndv 0 []) (by simp [results, Tryz.results52, go_sem, ndv, hc0, hc1, hc2, hc3]) rfl (VPost.mk 0 [] rfl ((SPost.bad HS3.out HG3.out hk (bad_fail st)).res hin _ _ _ _))
      · have hd0 : 0 ≤ d := by omega
        clear hd
        have hday : DayR B k := ⟨HY4.out.1, HY4.out.2, IM.out.1 hm0, by rw [HC7.out]; exact H7.out, ID.out.1 hd0⟩
        have hk10 := figs_in hday.2.2.2.2 (by decide)
        have HDAY := Lib.hid hday
        clear hday
        by_cases hm1 : m < 1
        · go_wp2_with fail
          refine (open_any (HS.out _ _)).mono ?_
          rintro e w3 ⟨rfl, hS3, hG3⟩
          have HS3 := Lib.hid hS3
          have HG3 := Lib.hid ((HG.out _ _).trans hG3)
          obtain ⟨⟨c0, hc0⟩, ⟨c1, hc1⟩, ⟨c2, hc2⟩, ⟨c3, hc3⟩, hcf⟩ := Res.of _ _ _ _ _ hG3.ofDrewN hin.1
          clear hS3 hG3
          go_wp2_with fail
          exact bodyPost_ret (v := ndv 0 []) (by simp [results, Tryz.results52, go_sem, ndv, hc0, hc1, hc2, hc3]) rfl (VPost.mk 0 [] rfl ((SPost.bad HS3.out HG3.out hk (by decide)).res hin _ _ _ _))
        · have hm1' : 1 ≤ m := by omega
          clear hm1
          by_cases hm12 : 12 < m
          · go_wp2_with fail
            refine (open_any (HS.out _ _)).mono ?_
            rintro e w3 ⟨rfl, hS3, hG3⟩
            have HS3 := Lib.hid hS3
            have HG3 := Lib.hid ((HG.out _ _).trans hG3)
            obtain ⟨⟨c0, hc0⟩, ⟨c1, hc1⟩, ⟨c2, hc2⟩, ⟨c3, hc3⟩, hcf⟩ := Res.of _ _ _ _ _ hG3.ofDrewN hin.1
            clear hS3 hG3
            go_wp2_with fail
            exact bodyPost_ret (v := ndv 0 []) (by simp [results, Tryz.results52, go_sem, ndv, hc0, hc1, hc2, hc3]) rfl (VPost.mk 0 [] rfl ((SPost.bad HS3.out HG3.out hk (by decide)).res hin _ _ _ _))
          · have hm12' : m ≤ 12 := by omega
            clear hm12
            by_cases hd1 : d < 1
            · go_wp2_with fail
              refine (open_any (HS.out _ _)).mono ?_
              rintro e w3 ⟨rfl, hS3, hG3⟩
              have HS3 := Lib.hid hS3
              have HG3 := Lib.hid ((HG.out _ _).trans hG3)
              obtain ⟨⟨c0, hc0⟩, ⟨c1, hc1⟩, ⟨c2, hc2⟩, ⟨c3, hc3⟩, hcf⟩ := Res.of _ _ _ _ _ hG3.ofDrewN hin.1
              clear hS3 hG3
              go_wp2_with fail
              exact bodyPost_ret (v := ndv 0 []) (by simp [results, Tryz.results52, go_sem, ndv, hc0, hc1, hc2, hc3]) rfl (VPost.mk 0 [] rfl ((SPost.bad HS3.out HG3.out hk (by decide)).res hin _ _ _ _))
            · have hd1' : 1 ≤ d := by omega
              clear hd1
              go_wp2_with fail
              refine (month_any _ _ _).mono ?_
              rintro e w' ⟨⟨mv, rfl⟩, rfl⟩
              by_cases hmv : mv < d
              · go_wp2_with fail
                refine (open_any (HS.out _ _)).mono ?_
                rintro e w3 ⟨rfl, hS3, hG3⟩
                have HS3 := Lib.hid hS3
                have HG3 := Lib.hid ((HG.out _ _).trans hG3)
                obtain ⟨⟨c0, hc0⟩, ⟨c1, hc1⟩, ⟨c2, hc2⟩, ⟨c3, hc3⟩, hcf⟩ := Res.of _ _ _ _ _ hG3.ofDrewN hin.1
                clear hS3 hG3
                go_wp2_with fail
                exact bodyPost_ret (v := ndv 0 []) (by simp [results, Tryz.results52, go_sem, ndv, hc0, hc1, hc2, hc3]) rfl (VPost.mk 0 [] rfl ((SPost.bad HS3.out HG3.out hk (by decide)).res hin _ _ _ _))
              · have hmv' : d ≤ mv := by omega
                clear hmv
                by_cases hy0 : y = 0
                · have ty : (y == 0) = true := by simp [hy0]
                  clear hy0
                  go_wp2_with fail
                  refine (open_any (HS.out _ _)).mono ?_
                  rintro e w3 ⟨rfl, hS3, hG3⟩
                  have HS3 := Lib.hid hS3
                  have HG3 := Lib.hid ((HG.out _ _).trans hG3)
                  obtain ⟨⟨c0, hc0⟩, ⟨c1, hc1⟩, ⟨c2, hc2⟩, ⟨c3, hc3⟩, hcf⟩ := Res.of _ _ _ _ _ hG3.ofDrewN hin.1
                  clear hS3 hG3
                  go_wp2_with fail
                  exact bodyPost_ret (v := ndv 0 []) (by simp [results, Tryz.results52, go_sem, ndv, hc0, hc1, hc2, hc3]) rfl (VPost.mk 0 [] rfl ((SPost.bad HS3.out HG3.out hk (by decide)).res hin _ _ _ _))
                · have ty : (y == 0) = false := by simpa using hy0
                  clear hy0
                  obtain ⟨b, hb⟩ : ∃ b, pk B (k + 10) = b := ⟨_, rfl⟩
                  have HP10 := Lib.hid (fun (W : World) (hW : SP W pb a C B k st) => peek_any hW 10 (k + 10) (by omega) (by omega))
                  rw [hb] at HP10
                  have HB := Lib.hid hb
                  clear hb
                  go_wp2_with fail
                  refine (HP10.out _ (HS.out _ _)).mono ?_
                  rintro e w' ⟨rfl, m5, rfl⟩
                  by_cases h84 : b = 84
                  · have t84 := byte_eq' h84 (n := 84) rfl
                    have t116 := byte_ne (c := b) (d := 116) (n := 116) (by rw [h84]; decide) rfl
                    have HB10 := Lib.hid (.inl (HB.out.trans h84) : pk B (k + 10) = 84 ∨ pk B (k + 10) = 32)
                    clear h84
                    go_wp2_with fail
                    refine (clock_any (HS.out _ _) 11 (k + 11) (by omega) (by omega)).mono ?_
                    rintro e w' ⟨g, okb, rfl, hg7, hgr, m6, rfl⟩
                    have HCLK := Lib.hid hgr
                    clear hgr
                    by_cases hg0 : g = 0
                    · have tg : ((g : Int) == 0) = true := by simp [hg0]
                      clear hg0
                      go_wp2_with fail
                      refine (fail_any (HS.out _ _)).mono ?_
                      rintro e w3 ⟨rfl, hS3, hG3⟩
                      have HS3 := Lib.hid hS3
                      have HG3 := Lib.hid ((HG.out _ _).trans hG3)
                      obtain ⟨⟨c0, hc0⟩, ⟨c1, hc1⟩, ⟨c2, hc2⟩, ⟨c3, hc3⟩, hcf⟩ := Res.of _ _ _ _ _ hG3.ofDrewN hin.1
                      clear hS3 hG3
                      go_wp2_with fail
                      exact bodyPost_ret (v := ndv 0 []) (by simp [results, Tryz.results52, go_sem, ndv, hc0, hc1, hc2, hc3]) rfl (VPost.mk 0 [] rfl ((SPost.bad HS3.out HG3.out hk (bad_fail st)).res hin _ _ _ _))
                    · have tg : ((g : Int) == 0) = false := by simp; omega
                      have hgin := clock_in (HCLK.out hg0)
                      have HG0 := Lib.hid hg0
                      clear hg0
                      cases okb with
                      | false =>
                        go_wp2_with fail
                        refine (open_any (HS.out _ _)).mono ?_
                        rintro e w3 ⟨rfl, hS3, hG3⟩
                        have HS3 := Lib.hid hS3
                        have HG3 := Lib.hid ((HG.out _ _).trans hG3)
                        obtain ⟨⟨c0, hc0⟩, ⟨c1, hc1⟩, ⟨c2, hc2⟩, ⟨c3, hc3⟩, hcf⟩ := Res.of _ _ _ _ _ hG3.ofDrewN hin.1
                        clear hS3 hG3
                        go_wp2_with fail
                        exact bodyPost_ret (v := ndv 0 []) (by simp [results, Tryz.results52, go_sem, ndv, hc0, hc1, hc2, hc3]) rfl (VPost.mk 0 [] rfl ((SPost.bad HS3.out HG3.out hk (by decide)).res hin _ _ _ _))
                      | true =>
                        obtain ⟨cp, hcp⟩ : ∃ c, pk B (k + 11 + g) = c := ⟨_, rfl⟩
                        have HPP := Lib.hid (fun (W : World) (hW : SP W pb a C B k st) => peek_any hW ((11 : Int) + g) (k + 11 + g) (by omega) (by omega))
                        rw [hcp] at HPP
                        have HCP := Lib.hid hcp
                        clear hcp
                        go_wp2_with fail
                        refine (HPP.out _ (HS.out _ _)).mono ?_
                        rintro e w' ⟨rfl, m7, rfl⟩
                        by_cases h90 : cp = 90
                        · have t90 := byte_eq h90 (n := 90) rfl
                          have hpin : k + 11 + g < B.length := pk_in (by rw [HCP.out, h90]; decide)
                          have H90 := Lib.hid h90
                          clear h90
                          obtain ⟨s, hs⟩ : ∃ s : ByteArray, s = ⟨((B.drop k).take (12 + g)).toArray⟩ := ⟨_, rfl⟩
                          have hrw := fun (W : World) (hW : SP W pb a C B k st) => raw_z hW 4 ((11 : Int) + g + 1) (12 + g) (by omega) (by omega) (by omega) s hs
                          have HRW := Lib.hid hrw
                          have HSS := Lib.hid hs
                          have hres : DateR B k (12 + g) 4 := ⟨HDAY.out, .inr ⟨HB10.out, g, Nat.pos_of_ne_zero HG0.out, HCLK.out HG0.out, .inr (.inl ⟨rfl, rfl, by rw [HCP.out]; exact H90.out⟩)⟩⟩
                          have HRES := Lib.hid hres
                          clear hres
                          clear hs hrw
                          go_wp2_with fail
                          refine (HRW.out _ (HS.out _ _)).mono ?_
                          rintro e w3 ⟨rfl, hS3, hG3⟩
                          have HS3 := Lib.hid hS3
                          have HG3 := Lib.hid ((HG.out _ _).trans hG3)
                          obtain ⟨⟨c0, hc0⟩, ⟨c1, hc1⟩, ⟨c2, hc2⟩, ⟨c3, hc3⟩, hcf⟩ := Res.of _ _ _ _ _ hG3.ofDrewN hin.1
                          clear hS3 hG3
                          go_wp2_with fail
                          exact bodyPost_ret (v := .agg #[.int .i64 4, .string s, .slice none 0 0, .slice none 0 0]) (by simp [results, Tryz.results52, go_sem, hc0, hc1, hc2, hc3]) rfl (VPost.mk 4 ((B.drop k).take (12 + g)) (by rw [HSS.out]; rfl) ((SPost.mk HS3.out HG3.out (by omega) (by omega) fun h => ⟨h, by rw [Nat.add_sub_cancel_left]; exact ⟨HRES.out, rfl⟩⟩).res hin _ _ _ _))
                        · have t90 := byte_ne h90 (n := 90) rfl
                          clear h90
                          by_cases h122 : cp = 122
                          · have t122 := byte_eq h122 (n := 122) rfl
                            clear h122
                            go_wp2_with fail
                            refine (open_any (HS.out _ _)).mono ?_
                            rintro e w3 ⟨rfl, hS3, hG3⟩
                            have HS3 := Lib.hid hS3
                            have HG3 := Lib.hid ((HG.out _ _).trans hG3)
                            obtain ⟨⟨c0, hc0⟩, ⟨c1, hc1⟩, ⟨c2, hc2⟩, ⟨c3, hc3⟩, hcf⟩ := Res.of _ _ _ _ _ hG3.ofDrewN hin.1
                            clear hS3 hG3
                            go_wp2_with fail
                            exact bodyPost_ret (v := ndv 0 []) (by simp [results, Tryz.results52, go_sem, ndv, hc0, hc1, hc2, hc3]) rfl (VPost.mk 0 [] rfl ((SPost.bad HS3.out HG3.out hk (by decide)).res hin _ _ _ _))
                          · have t122 := byte_ne h122 (n := 122) rfl
                            clear h122
                            by_cases h43 : cp = 43
                            · have t43 := byte_eq h43 (n := 43) rfl
                              have HPM := Lib.hid (.inl h43 : cp = 43 ∨ cp = 45)
                              clear h43
                              go_wp2_with fail
                              refine (two_any (HS.out _ _) ((11 : Int) + g + 1) (k + 12 + g) 2 (by omega) (by omega) (by decide)).mono ?_
                              rintro e w' ⟨h, rfl, lh, uh, ih, m8, rfl⟩
                              have IH := Lib.hid ih
                              clear ih
                              go_wp2_with fail
                              refine (two_any (HS.out _ _) ((11 : Int) + g + 4) (k + 15 + g) 2 (by omega) (by omega) (by decide)).mono ?_
                              rintro e w' ⟨mi, rfl, lmi, umi, imi, m9, rfl⟩
                              have IMI := Lib.hid imi
                              clear imi
                              by_cases hh : h < 0
                              · go_wp2_with fail
                                refine (fail_any (HS.out _ _)).mono ?_
                                rintro e w3 ⟨rfl, hS3, hG3⟩
                                have HS3 := Lib.hid hS3
                                have HG3 := Lib.hid ((HG.out _ _).trans hG3)
                                obtain ⟨⟨c0, hc0⟩, ⟨c1, hc1⟩, ⟨c2, hc2⟩, ⟨c3, hc3⟩, hcf⟩ := Res.of _ _ _ _ _ hG3.ofDrewN hin.1
                                clear hS3 hG3
                                go_wp2_with fail
                                exact bodyPost_ret (v := ndv 0 []) (by simp [results, Tryz.results52, go_sem, ndv, hc0, hc1, hc2, hc3]) rfl (VPost.mk 0 [] rfl ((SPost.bad HS3.out HG3.out hk (bad_fail st)).res hin _ _ _ _))
                              · have hh0 : 0 ≤ h := by omega
                                clear hh
                                obtain ⟨c4, hc4⟩ : ∃ c, pk B (k + 14 + g) = c := ⟨_, rfl⟩
                                have HP14 := Lib.hid (fun (W : World) (hW : SP W pb a C B k st) => peek_any hW ((11 : Int) + g + 3) (k + 14 + g) (by omega) (by omega))
                                rw [hc4] at HP14
                                have HC4 := Lib.hid hc4
                                clear hc4
                                go_wp2_with fail
                                refine (HP14.out _ (HS.out _ _)).mono ?_
                                rintro e w' ⟨rfl, m10, rfl⟩
                                by_cases h58 : c4 = 58
                                · have t4 := byte_eq' h58 (n := 58) rfl
                                  have H58 := Lib.hid h58
                                  clear h58
                                  by_cases hmi : mi < 0
                                  · go_wp2_with fail
                                    refine (fail_any (HS.out _ _)).mono ?_
                                    rintro e w3 ⟨rfl, hS3, hG3⟩
                                    have HS3 := Lib.hid hS3
                                    have HG3 := Lib.hid ((HG.out _ _).trans hG3)
                                    obtain ⟨⟨c0, hc0⟩, ⟨c1, hc1⟩, ⟨c2, hc2⟩, ⟨c3, hc3⟩, hcf⟩ := Res.of _ _ _ _ _ hG3.ofDrewN hin.1
                                    clear hS3 hG3
                                    go_wp2_with fail
                                    exact bodyPost_ret (v := ndv 0 []) (by simp [results, Tryz.results52, go_sem, ndv, hc0, hc1, hc2, hc3]) rfl (VPost.mk 0 [] rfl ((SPost.bad HS3.out HG3.out hk (bad_fail st)).res hin _ _ _ _))
                                  · have hmi0 : 0 ≤ mi := by omega
                                    clear hmi
                                    by_cases hh23 : 23 < h
                                    · go_wp2_with fail
                                      refine (open_any (HS.out _ _)).mono ?_
                                      rintro e w3 ⟨rfl, hS3, hG3⟩
                                      have HS3 := Lib.hid hS3
                                      have HG3 := Lib.hid ((HG.out _ _).trans hG3)
                                      obtain ⟨⟨c0, hc0⟩, ⟨c1, hc1⟩, ⟨c2, hc2⟩, ⟨c3, hc3⟩, hcf⟩ := Res.of _ _ _ _ _ hG3.ofDrewN hin.1
                                      clear hS3 hG3
                                      go_wp2_with fail
                                      exact bodyPost_ret (v := ndv 0 []) (by simp [results, Tryz.results52, go_sem, ndv, hc0, hc1, hc2, hc3]) rfl (VPost.mk 0 [] rfl ((SPost.bad HS3.out HG3.out hk (by decide)).res hin _ _ _ _))
                                    · have hh24 : h ≤ 23 := by omega
                                      clear hh23
                                      by_cases hmi59 : 59 < mi
                                      · go_wp2_with fail
                                        refine (open_any (HS.out _ _)).mono ?_
                                        rintro e w3 ⟨rfl, hS3, hG3⟩
                                        have HS3 := Lib.hid hS3
                                        have HG3 := Lib.hid ((HG.out _ _).trans hG3)
                                        obtain ⟨⟨c0, hc0⟩, ⟨c1, hc1⟩, ⟨c2, hc2⟩, ⟨c3, hc3⟩, hcf⟩ := Res.of _ _ _ _ _ hG3.ofDrewN hin.1
                                        clear hS3 hG3
                                        go_wp2_with fail
                                        exact bodyPost_ret (v := ndv 0 []) (by simp [results, Tryz.results52, go_sem, ndv, hc0, hc1, hc2, hc3]) rfl (VPost.mk 0 [] rfl ((SPost.bad HS3.out HG3.out hk (by decide)).res hin _ _ _ _))
                                      · have hfin := figs_in (IMI.out.1 hmi0) (by decide)
                                        obtain ⟨s, hs⟩ : ∃ s : ByteArray, s = ⟨((B.drop k).take (17 + g)).toArray⟩ := ⟨_, rfl⟩
                                        have hrw := fun (W : World) (hW : SP W pb a C B k st) => raw_z hW 4 ((11 : Int) + g + 6) (17 + g) (by omega) (by omega) (by omega) s hs
                                        have HRW := Lib.hid hrw
                                        have HSS := Lib.hid hs
                                        have hres : DateR B k (17 + g) 4 := ⟨HDAY.out, .inr ⟨HB10.out, g, Nat.pos_of_ne_zero HG0.out, HCLK.out HG0.out, .inr (.inr ⟨rfl, rfl, by rw [HCP.out]; exact HPM.out, IH.out.1 hh0, by rw [HC4.out]; exact H58.out, IMI.out.1 hmi0⟩)⟩⟩
                                        have HRES := Lib.hid hres
                                        clear hres
                                        clear hs hrw
                                        go_wp2_with fail
                                        refine (HRW.out _ (HS.out _ _)).mono ?_
                                        rintro e w3 ⟨rfl, hS3, hG3⟩
                                        have HS3 := Lib.hid hS3
                                        have HG3 := Lib.hid ((HG.out _ _).trans hG3)
                                        obtain ⟨⟨c0, hc0⟩, ⟨c1, hc1⟩, ⟨c2, hc2⟩, ⟨c3, hc3⟩, hcf⟩ := Res.of _ _ _ _ _ hG3.ofDrewN hin.1
                                        clear hS3 hG3
                                        go_wp2_with fail
                                        exact bodyPost_ret (v := .agg #[.int .i64 4, .string s, .slice none 0 0, .slice none 0 0]) (by simp [results, Tryz.results52, go_sem, hc0, hc1, hc2, hc3]) rfl (VPost.mk 4 ((B.drop k).take (17 + g)) (by rw [HSS.out]; rfl) ((SPost.mk HS3.out HG3.out (by omega) (by omega) fun h => ⟨h, by rw [Nat.add_sub_cancel_left]; exact ⟨HRES.out, rfl⟩⟩).res hin _ _ _ _))
                                · have t4 := byte_ne' h58 (n := 58) rfl
                                  clear h58
                                  go_wp2_with fail
                                  refine (fail_any (HS.out _ _)).mono ?_
                                  rintro e w3 ⟨rfl, hS3, hG3⟩
                                  have HS3 := Lib.hid hS3
                                  have HG3 := Lib.hid ((HG.out _ _).trans hG3)
                                  obtain ⟨⟨c0, hc0⟩, ⟨c1, hc1⟩, ⟨c2, hc2⟩, ⟨c3, hc3⟩, hcf⟩ := Res.of _ _ _ _ _ hG3.ofDrewN hin.1
                                  clear hS3 hG3
                                  go_wp2_with fail
                                  exact bodyPost_ret (v := ndv 0 []) (by simp [results, Tryz.results52, go_sem, ndv, hc0, hc1, hc2, hc3]) rfl (VPost.mk 0 [] rfl ((SPost.bad HS3.out HG3.out hk (bad_fail st)).res hin _ _ _ _))
                            · have t43 := byte_ne h43 (n := 43) rfl
                              clear h43
                              by_cases h45 : cp = 45
                              · have t45 := byte_eq h45 (n := 45) rfl
                                have HPM := Lib.hid (.inr h45 : cp = 43 ∨ cp = 45)
                                clear h45
                                go_wp2_with fail
                                refine (two_any (HS.out _ _) ((11 : Int) + g + 1) (k + 12 + g) 2 (by omega) (by omega) (by decide)).mono ?_
                                rintro e w' ⟨h, rfl, lh, uh, ih, m8, rfl⟩
                                have IH := Lib.hid ih
                                clear ih
                                go_wp2_with fail
                                refine (two_any (HS.out _ _) ((11 : Int) + g + 4) (k + 15 + g) 2 (by omega) (by omega) (by decide)).mono ?_
                                rintro e w' ⟨mi, rfl, lmi, umi, imi, m9, rfl⟩
                                have IMI := Lib.hid imi
                                clear imi
                                by_cases hh : h < 0
                                · go_wp2_with fail
                                  refine (fail_any (HS.out _ _)).mono ?_
                                  rintro e w3 ⟨rfl, hS3, hG3⟩
                                  have HS3 := Lib.hid hS3
                                  have HG3 := Lib.hid ((HG.out _ _).trans hG3)
                                  obtain ⟨⟨c0, hc0⟩, ⟨c1, hc1⟩, ⟨c2, hc2⟩, ⟨c3, hc3⟩, hcf⟩ := Res.of _ _ _ _ _ hG3.ofDrewN hin.1
                                  clear hS3 hG3
                                  go_wp2_with fail
                                  exact bodyPost_ret (v := ndv 0 []) (by simp [results, Tryz.results52, go_sem, ndv, hc0, hc1, hc2, hc3]) rfl (VPost.mk 0 [] rfl ((SPost.bad HS3.out HG3.out hk (bad_fail st)).res hin _ _ _ _))
                                · have hh0 : 0 ≤ h := by omega
                                  clear hh
                                  obtain ⟨c4, hc4⟩ : ∃ c, pk B (k + 14 + g) = c := ⟨_, rfl⟩
                                  have HP14 := Lib.hid (fun (W : World) (hW : SP W pb a C B k st) => peek_any hW ((11 : Int) + g + 3) (k + 14 + g) (by omega) (by omega))
                                  rw [hc4] at HP14
                                  have HC4 := Lib.hid hc4
                                  clear hc4
                                  go_wp2_with fail
                                  refine (HP14.out _ (HS.out _ _)).mono ?_
                                  rintro e w' ⟨rfl, m10, rfl⟩
                                  by_cases h58 : c4 = 58
                                  · have t4 := byte_eq' h58 (n := 58) rfl
                                    have H58 := Lib.hid h58
                                    clear h58
                                    by_cases hmi : mi < 0
                                    · go_wp2_with fail
                                      refine (fail_any (HS.out _ _)).mono ?_
                                      rintro e w3 ⟨rfl, hS3, hG3⟩
                                      have HS3 := Lib.hid hS3
                                      have HG3 := Lib.hid ((HG.out _ _).trans hG3)
                                      obtain ⟨⟨c0, hc0⟩, ⟨c1, hc1⟩, ⟨c2, hc2⟩, ⟨c3, hc3⟩, hcf⟩ := Res.of _ _ _ _ _ hG3.ofDrewN hin.1
                                      clear hS3 hG3
                                      go_wp2_with fail
                                      exact bodyPost_ret (v := ndv 0 []) (by simp [results, Tryz.results52, go_sem, ndv, hc0, hc1, hc2, hc3]) rfl (VPost.mk 0 [] rfl ((SPost.bad HS3.out HG3.out hk (bad_fail st)).res hin _ _ _ _))
                                    · have hmi0 : 0 ≤ mi := by omega
                                      clear hmi
                                      by_cases hh23 : 23 < h
                                      · go_wp2_with fail
                                        refine (open_any (HS.out _ _)).mono ?_
                                        rintro e w3 ⟨rfl, hS3, hG3⟩
                                        have HS3 := Lib.hid hS3
                                        have HG3 := Lib.hid ((HG.out _ _).trans hG3)
                                        obtain ⟨⟨c0, hc0⟩, ⟨c1, hc1⟩, ⟨c2, hc2⟩, ⟨c3, hc3⟩, hcf⟩ := Res.of _ _ _ _ _ hG3.ofDrewN hin.1
                                        clear hS3 hG3
                                        go_wp2_with fail
                                        exact bodyPost_ret (v := ndv 0 []) (by simp [results, Tryz.results52, go_sem, ndv, hc0, hc1, hc2, hc3]) rfl (VPost.mk 0 [] rfl ((SPost.bad HS3.out HG3.out hk (by decide)).res hin _ _ _ _))
                                      · have hh24 : h ≤ 23 := by omega
                                        clear hh23
                                        by_cases hmi59 : 59 < mi
                                        · go_wp2_with fail
                                          refine (open_any (HS.out _ _)).mono ?_
                                          rintro e w3 ⟨rfl, hS3, hG3⟩
                                          have HS3 := Lib.hid hS3
                                          have HG3 := Lib.hid ((HG.out _ _).trans hG3)
                                          obtain ⟨⟨c0, hc0⟩, ⟨c1, hc1⟩, ⟨c2, hc2⟩, ⟨c3, hc3⟩, hcf⟩ := Res.of _ _ _ _ _ hG3.ofDrewN hin.1
                                          clear hS3 hG3
                                          go_wp2_with fail
                                          exact bodyPost_ret (v := ndv 0 []) (by simp [results, Tryz.results52, go_sem, ndv, hc0, hc1, hc2, hc3]) rfl (VPost.mk 0 [] rfl ((SPost.bad HS3.out HG3.out hk (by decide)).res hin _ _ _ _))
                                        · have hfin := figs_in (IMI.out.1 hmi0) (by decide)
                                          obtain ⟨s, hs⟩ : ∃ s : ByteArray, s = ⟨((B.drop k).take (17 + g)).toArray⟩ := ⟨_, rfl⟩
                                          have hrw := fun (W : World) (hW : SP W pb a C B k st) => raw_z hW 4 ((11 : Int) + g + 6) (17 + g) (by omega) (by omega) (by omega) s hs
                                          have HRW := Lib.hid hrw
                                          have HSS := Lib.hid hs
                                          have hres : DateR B k (17 + g) 4 := ⟨HDAY.out, .inr ⟨HB10.out, g, Nat.pos_of_ne_zero HG0.out, HCLK.out HG0.out, .inr (.inr ⟨rfl, rfl, by rw [HCP.out]; exact HPM.out, IH.out.1 hh0, by rw [HC4.out]; exact H58.out, IMI.out.1 hmi0⟩)⟩⟩
                                          have HRES := Lib.hid hres
                                          clear hres
                                          clear hs hrw
                                          go_wp2_with fail
                                          refine (HRW.out _ (HS.out _ _)).mono ?_
                                          rintro e w3 ⟨rfl, hS3, hG3⟩
                                          have HS3 := Lib.hid hS3
                                          have HG3 := Lib.hid ((HG.out _ _).trans hG3)
                                          obtain ⟨⟨c0, hc0⟩, ⟨c1, hc1⟩, ⟨c2, hc2⟩, ⟨c3, hc3⟩, hcf⟩ := Res.of _ _ _ _ _ hG3.ofDrewN hin.1
                                          clear hS3 hG3
                                          go_wp2_with fail
                                          exact bodyPost_ret (v := .agg #[.int .i64 4, .string s, .slice none 0 0, .slice none 0 0]) (by simp [results, Tryz.results52, go_sem, hc0, hc1, hc2, hc3]) rfl (VPost.mk 4 ((B.drop k).take (17 + g)) (by rw [HSS.out]; rfl) ((SPost.mk HS3.out HG3.out (by omega) (by omega) fun h => ⟨h, by rw [Nat.add_sub_cancel_left]; exact ⟨HRES.out, rfl⟩⟩).res hin _ _ _ _))
                                  · have t4 := byte_ne' h58 (n := 58) rfl
                                    clear h58
                                    go_wp2_with fail
                                    refine (fail_any (HS.out _ _)).mono ?_
                                    rintro e w3 ⟨rfl, hS3, hG3⟩
                                    have HS3 := Lib.hid hS3
                                    have HG3 := Lib.hid ((HG.out _ _).trans hG3)
                                    obtain ⟨⟨c0, hc0⟩, ⟨c1, hc1⟩, ⟨c2, hc2⟩, ⟨c3, hc3⟩, hcf⟩ := Res.of _ _ _ _ _ hG3.ofDrewN hin.1
                                    clear hS3 hG3
                                    go_wp2_with fail
                                    exact bodyPost_ret (v := ndv 0 []) (by simp [results, Tryz.results52, go_sem, ndv, hc0, hc1, hc2, hc3]) rfl (VPost.mk 0 [] rfl ((SPost.bad HS3.out HG3.out hk (bad_fail st)).res hin _ _ _ _))
                              · have t45 := byte_ne h45 (n := 45) rfl
                                clear h45
                                obtain ⟨s, hs⟩ : ∃ s : ByteArray, s = ⟨((B.drop k).take (11 + g)).toArray⟩ := ⟨_, rfl⟩
                                have hrw := fun (W : World) (hW : SP W pb a C B k st) => raw_z hW 5 ((11 : Int) + g) (11 + g) (by omega) (by omega) (by omega) s hs
                                have HRW := Lib.hid hrw
                                have HSS := Lib.hid hs
                                have hres : DateR B k (11 + g) 5 := ⟨HDAY.out, .inr ⟨HB10.out, g, Nat.pos_of_ne_zero HG0.out, HCLK.out HG0.out, .inl ⟨rfl, rfl⟩⟩⟩
                                have HRES := Lib.hid hres
                                clear hres
                                clear hs hrw
                                go_wp2_with fail
                                refine (HRW.out _ (HS.out _ _)).mono ?_
                                rintro e w3 ⟨rfl, hS3, hG3⟩
                                have HS3 := Lib.hid hS3
                                have HG3 := Lib.hid ((HG.out _ _).trans hG3)
                                obtain ⟨⟨c0, hc0⟩, ⟨c1, hc1⟩, ⟨c2, hc2⟩, ⟨c3, hc3⟩, hcf⟩ := Res.of _ _ _ _ _ hG3.ofDrewN hin.1
                                clear hS3 hG3
                                go_wp2_with fail
                                exact bodyPost_ret (v := .agg #[.int .i64 5, .string s, .slice none 0 0, .slice none 0 0]) (by simp [results, Tryz.results52, go_sem, hc0, hc1, hc2, hc3]) rfl (VPost.mk 5 ((B.drop k).take (11 + g)) (by rw [HSS.out]; rfl) ((SPost.mk HS3.out HG3.out (by omega) (by omega) fun h => ⟨h, by rw [Nat.add_sub_cancel_left]; exact ⟨HRES.out, rfl⟩⟩).res hin _ _ _ _))
                  · have t84 := byte_ne' h84 (n := 84) rfl
                    clear h84
                    by_cases h116 : b = 116
                    · have t116 := byte_eq' h116 (n := 116) rfl
                      have u116 := byte_eq h116 (n := 116) rfl
                      clear h116
                      go_wp2_with fail
                      refine (open_any (HS.out _ _)).mono ?_
                      rintro e w3 ⟨rfl, hS3, hG3⟩
                      have HS3 := Lib.hid hS3
                      have HG3 := Lib.hid ((HG.out _ _).trans hG3)
                      obtain ⟨⟨c0, hc0⟩, ⟨c1, hc1⟩, ⟨c2, hc2⟩, ⟨c3, hc3⟩, hcf⟩ := Res.of _ _ _ _ _ hG3.ofDrewN hin.1
                      clear hS3 hG3
                      go_wp2_with fail
                      exact bodyPost_ret (v := ndv 0 []) (by simp [results, Tryz.results52, go_sem, ndv, hc0, hc1, hc2, hc3]) rfl (VPost.mk 0 [] rfl ((SPost.bad HS3.out HG3.out hk (by decide)).res hin _ _ _ _))
                    · have t116 := byte_ne' h116 (n := 116) rfl
                      have u116 := byte_ne h116 (n := 116) rfl
                      clear h116
                      by_cases h32 : b = 32
                      · have t32 := byte_eq' h32 (n := 32) rfl
                        have HB10 := Lib.hid (.inr (HB.out.trans h32) : pk B (k + 10) = 84 ∨ pk B (k + 10) = 32)
                        clear h32
                        go_wp2_with fail
                        refine (two_any (HS.out _ _) 11 (k + 11) 2 (by omega) (by omega) (by decide)).mono ?_
                        rintro e w' ⟨x, rfl, lx, ux, ix, m4, rfl⟩
                        clear ix
                        by_cases hx : x < 0
                        · obtain ⟨s, hs⟩ : ∃ s : ByteArray, s = ⟨((B.drop k).take (10)).toArray⟩ := ⟨_, rfl⟩
                          have hrw := fun (W : World) (hW : SP W pb a C B k st) => raw_z hW 6 (10) (10) (by omega) (by omega) (by omega) s hs
                          have HRW := Lib.hid hrw
                          have HSS := Lib.hid hs
                          have hres : DateR B k 10 6 := ⟨HDAY.out, .inl ⟨rfl, rfl⟩⟩
                          have HRES := Lib.hid hres
                          clear hres
                          clear hs hrw
                          go_wp2_with fail
                          refine (HRW.out _ (HS.out _ _)).mono ?_
                          rintro e w3 ⟨rfl, hS3, hG3⟩
                          have HS3 := Lib.hid hS3
                          have HG3 := Lib.hid ((HG.out _ _).trans hG3)
                          obtain ⟨⟨c0, hc0⟩, ⟨c1, hc1⟩, ⟨c2, hc2⟩, ⟨c3, hc3⟩, hcf⟩ := Res.of _ _ _ _ _ hG3.ofDrewN hin.1
                          clear hS3 hG3
                          go_wp2_with fail
                          exact bodyPost_ret (v := .agg #[.int .i64 6, .string s, .slice none 0 0, .slice none 0 0]) (by simp [results, Tryz.results52, go_sem, hc0, hc1, hc2, hc3]) rfl (VPost.mk 6 ((B.drop k).take (10)) (by rw [HSS.out]; rfl) ((SPost.mk HS3.out HG3.out (by omega) (by omega) fun h => ⟨h, by rw [Nat.add_sub_cancel_left]; exact ⟨HRES.out, rfl⟩⟩).res hin _ _ _ _))
                        · go_wp2_with fail
                          refine (clock_any (HS.out _ _) 11 (k + 11) (by omega) (by omega)).mono ?_
                          rintro e w' ⟨g, okb, rfl, hg7, hgr, m6, rfl⟩
                          have HCLK := Lib.hid hgr
                          clear hgr
                          by_cases hg0 : g = 0
                          · have tg : ((g : Int) == 0) = true := by simp [hg0]
                            clear hg0
                            go_wp2_with fail
                            refine (fail_any (HS.out _ _)).mono ?_
                            rintro e w3 ⟨rfl, hS3, hG3⟩
                            have HS3 := Lib.hid hS3
                            have HG3 := Lib.hid ((HG.out _ _).trans hG3)
                            obtain ⟨⟨c0, hc0⟩, ⟨c1, hc1⟩, ⟨c2, hc2⟩, ⟨c3, hc3⟩, hcf⟩ := Res.of _ _ _ _ _ hG3.ofDrewN hin.1
                            clear hS3 hG3
                            go_wp2_with fail
                            exact bodyPost_ret (v := ndv 0 []) (by simp [results, Tryz.results52, go_sem, ndv, hc0, hc1, hc2, hc3]) rfl (VPost.mk 0 [] rfl ((SPost.bad HS3.out HG3.out hk (bad_fail st)).res hin _ _ _ _))
                          · have tg : ((g : Int) == 0) = false := by simp; omega
                            have hgin := clock_in (HCLK.out hg0)
                            have HG0 := Lib.hid hg0
                            clear hg0
                            cases okb with
                            | false =>
                              go_wp2_with fail
                              refine (open_any (HS.out _ _)).mono ?_
                              rintro e w3 ⟨rfl, hS3, hG3⟩
                              have HS3 := Lib.hid hS3
                              have HG3 := Lib.hid ((HG.out _ _).trans hG3)
                              obtain ⟨⟨c0, hc0⟩, ⟨c1, hc1⟩, ⟨c2, hc2⟩, ⟨c3, hc3⟩, hcf⟩ := Res.of _ _ _ _ _ hG3.ofDrewN hin.1
                              clear hS3 hG3
                              go_wp2_with fail
                              exact bodyPost_ret (v := ndv 0 []) (by simp [results, Tryz.results52, go_sem, ndv, hc0, hc1, hc2, hc3]) rfl (VPost.mk 0 [] rfl ((SPost.bad HS3.out HG3.out hk (by decide)).res hin _ _ _ _))
                            | true =>
                              obtain ⟨cp, hcp⟩ : ∃ c, pk B (k + 11 + g) = c := ⟨_, rfl⟩
                              have HPP := Lib.hid (fun (W : World) (hW : SP W pb a C B k st) => peek_any hW ((11 : Int) + g) (k + 11 + g) (by omega) (by omega))
                              rw [hcp] at HPP
                              have HCP := Lib.hid hcp
                              clear hcp
                              go_wp2_with fail
                              refine (HPP.out _ (HS.out _ _)).mono ?_
                              rintro e w' ⟨rfl, m7, rfl⟩
                              by_cases h90 : cp = 90
                              · have t90 := byte_eq h90 (n := 90) rfl
                                have hpin : k + 11 + g < B.length := pk_in (by rw [HCP.out, h90]; decide)
                                have H90 := Lib.hid h90
                                clear h90
                                obtain ⟨s, hs⟩ : ∃ s : ByteArray, s = ⟨((B.drop k).take (12 + g)).toArray⟩ := ⟨_, rfl⟩
                                have hrw := fun (W : World) (hW : SP W pb a C B k st) => raw_z hW 4 ((11 : Int) + g + 1) (12 + g) (by omega) (by omega) (by omega) s hs
                                have HRW := Lib.hid hrw
                                have HSS := Lib.hid hs
                                have hres : DateR B k (12 + g) 4 := ⟨HDAY.out, .inr ⟨HB10.out, g, Nat.pos_of_ne_zero HG0.out, HCLK.out HG0.out, .inr (.inl ⟨rfl, rfl, by rw [HCP.out]; exact H90.out⟩)⟩⟩
                                have HRES := Lib.hid hres
                                clear hres
                                clear hs hrw
                                go_wp2_with fail
                                refine (HRW.out _ (HS.out _ _)).mono ?_
                                rintro e w3 ⟨rfl, hS3, hG3⟩
                                have HS3 := Lib.hid hS3
                                have HG3 := Lib.hid ((HG.out _ _).trans hG3)
                                obtain ⟨⟨c0, hc0⟩, ⟨c1, hc1⟩, ⟨c2, hc2⟩, ⟨c3, hc3⟩, hcf⟩ := Res.of _ _ _ _ _ hG3.ofDrewN hin.1
                                clear hS3 hG3
                                go_wp2_with fail
                                exact bodyPost_ret (v := .agg #[.int .i64 4, .string s, .slice none 0 0, .slice none 0 0]) (by simp [results, Tryz.results52, go_sem, hc0, hc1, hc2, hc3]) rfl (VPost.mk 4 ((B.drop k).take (12 + g)) (by rw [HSS.out]; rfl) ((SPost.mk HS3.out HG3.out (by omega) (by omega) fun h => ⟨h, by rw [Nat.add_sub_cancel_left]; exact ⟨HRES.out, rfl⟩⟩).res hin _ _ _ _))
                              · have t90 := byte_ne h90 (n := 90) rfl
                                clear h90
                                by_cases h122 : cp = 122
                                · have t122 := byte_eq h122 (n := 122) rfl
                                  clear h122
                                  go_wp2_with fail
                                  refine (open_any (HS.out _ _)).mono ?_
                                  rintro e w3 ⟨rfl, hS3, hG3⟩
                                  have HS3 := Lib.hid hS3
                                  have HG3 := Lib.hid ((HG.out _ _).trans hG3)
                                  obtain ⟨⟨c0, hc0⟩, ⟨c1, hc1⟩, ⟨c2, hc2⟩, ⟨c3, hc3⟩, hcf⟩ := Res.of _ _ _ _ _ hG3.ofDrewN hin.1
                                  clear hS3 hG3
                                  go_wp2_with fail
                                  exact bodyPost_ret (v := ndv 0 []) (by simp [results, Tryz.results52, go_sem, ndv, hc0, hc1, hc2, hc3]) rfl (VPost.mk 0 [] rfl ((SPost.bad HS3.out HG3.out hk (by decide)).res hin _ _ _ _))
                                · have t122 := byte_ne h122 (n := 122) rfl
                                  clear h122
                                  by_cases h43 : cp = 43
                                  · have t43 := byte_eq h43 (n := 43) rfl
                                    have HPM := Lib.hid (.inl h43 : cp = 43 ∨ cp = 45)
                                    clear h43
                                    go_wp2_with fail
                                    refine (two_any (HS.out _ _) ((11 : Int) + g + 1) (k + 12 + g) 2 (by omega) (by omega) (by decide)).mono ?_
                                    rintro e w' ⟨h, rfl, lh, uh, ih, m8, rfl⟩
                                    have IH := Lib.hid ih
                                    clear ih
                                    go_wp2_with fail
                                    refine (two_any (HS.out _ _) ((11 : Int) + g + 4) (k + 15 + g) 2 (by omega) (by omega) (by decide)).mono ?_
                                    rintro e w' ⟨mi, rfl, lmi, umi, imi, m9, rfl⟩
                                    have IMI := Lib.hid imi
                                    clear imi
                                    by_cases hh : h < 0
                                    · go_wp2_with fail
                                      refine (fail_any (HS.out _ _)).mono ?_
                                      rintro e w3 ⟨rfl, hS3, hG3⟩
                                      have HS3 := Lib.hid hS3
                                      have HG3 := Lib.hid ((HG.out _ _).trans hG3)
                                      obtain ⟨⟨c0, hc0⟩, ⟨c1, hc1⟩, ⟨c2, hc2⟩, ⟨c3, hc3⟩, hcf⟩ := Res.of _ _ _ _ _ hG3.ofDrewN hin.1
                                      clear hS3 hG3
                                      go_wp2_with fail
                                      exact bodyPost_ret (v := ndv 0 []) (by simp [results, Tryz.results52, go_sem, ndv, hc0, hc1, hc2, hc3]) rfl (VPost.mk 0 [] rfl ((SPost.bad HS3.out HG3.out hk (bad_fail st)).res hin _ _ _ _))
                                    · have hh0 : 0 ≤ h := by omega
                                      clear hh
                                      obtain ⟨c4, hc4⟩ : ∃ c, pk B (k + 14 + g) = c := ⟨_, rfl⟩
                                      have HP14 := Lib.hid (fun (W : World) (hW : SP W pb a C B k st) => peek_any hW ((11 : Int) + g + 3) (k + 14 + g) (by omega) (by omega))
                                      rw [hc4] at HP14
                                      have HC4 := Lib.hid hc4
                                      clear hc4
                                      go_wp2_with fail
                                      refine (HP14.out _ (HS.out _ _)).mono ?_
                                      rintro e w' ⟨rfl, m10, rfl⟩
                                      by_cases h58 : c4 = 58
                                      · have t4 := byte_eq' h58 (n := 58) rfl
                                        have H58 := Lib.hid h58
                                        clear h58
                                        by_cases hmi : mi < 0
                                        · go_wp2_with fail
                                          refine (fail_any (HS.out _ _)).mono ?_
                                          rintro e w3 ⟨rfl, hS3, hG3⟩
                                          have HS3 := Lib.hid hS3
                                          have HG3 := Lib.hid ((HG.out _ _).trans hG3)
                                          obtain ⟨⟨c0, hc0⟩, ⟨c1, hc1⟩, ⟨c2, hc2⟩, ⟨c3, hc3⟩, hcf⟩ := Res.of _ _ _ _ _ hG3.ofDrewN hin.1
                                          clear hS3 hG3
                                          go_wp2_with fail
                                          exact bodyPost_ret (v := ndv 0 []) (by simp [results, Tryz.results52, go_sem, ndv, hc0, hc1, hc2, hc3]) rfl (VPost.mk 0 [] rfl ((SPost.bad HS3.out HG3.out hk (bad_fail st)).res hin _ _ _ _))
                                        · have hmi0 : 0 ≤ mi := by omega
                                          clear hmi
                                          by_cases hh23 : 23 < h
                                          · go_wp2_with fail
                                            refine (open_any (HS.out _ _)).mono ?_
                                            rintro e w3 ⟨rfl, hS3, hG3⟩
                                            have HS3 := Lib.hid hS3
                                            have HG3 := Lib.hid ((HG.out _ _).trans hG3)
                                            obtain ⟨⟨c0, hc0⟩, ⟨c1, hc1⟩, ⟨c2, hc2⟩, ⟨c3, hc3⟩, hcf⟩ := Res.of _ _ _ _ _ hG3.ofDrewN hin.1
                                            clear hS3 hG3
                                            go_wp2_with fail
                                            exact bodyPost_ret (v := ndv 0 []) (by simp [results, Tryz.results52, go_sem, ndv, hc0, hc1, hc2, hc3]) rfl (VPost.mk 0 [] rfl ((SPost.bad HS3.out HG3.out hk (by decide)).res hin _ _ _ _))
                                          · have hh24 : h ≤ 23 := by omega
                                            clear hh23
                                            by_cases hmi59 : 59 < mi
                                            · go_wp2_with fail
                                              refine (open_any (HS.out _ _)).mono ?_
                                              rintro e w3 ⟨rfl, hS3, hG3⟩
                                              have HS3 := Lib.hid hS3
                                              have HG3 := Lib.hid ((HG.out _ _).trans hG3)
                                              obtain ⟨⟨c0, hc0⟩, ⟨c1, hc1⟩, ⟨c2, hc2⟩, ⟨c3, hc3⟩, hcf⟩ := Res.of _ _ _ _ _ hG3.ofDrewN hin.1
                                              clear hS3 hG3
                                              go_wp2_with fail
                                              exact bodyPost_ret (v := ndv 0 []) (by simp [results, Tryz.results52, go_sem, ndv, hc0, hc1, hc2, hc3]) rfl (VPost.mk 0 [] rfl ((SPost.bad HS3.out HG3.out hk (by decide)).res hin _ _ _ _))
                                            · have hfin := figs_in (IMI.out.1 hmi0) (by decide)
                                              obtain ⟨s, hs⟩ : ∃ s : ByteArray, s = ⟨((B.drop k).take (17 + g)).toArray⟩ := ⟨_, rfl⟩
                                              have hrw := fun (W : World) (hW : SP W pb a C B k st) => raw_z hW 4 ((11 : Int) + g + 6) (17 + g) (by omega) (by omega) (by omega) s hs
                                              have HRW := Lib.hid hrw
                                              have HSS := Lib.hid hs
                                              have hres : DateR B k (17 + g) 4 := ⟨HDAY.out, .inr ⟨HB10.out, g, Nat.pos_of_ne_zero HG0.out, HCLK.out HG0.out, .inr (.inr ⟨rfl, rfl, by rw [HCP.out]; exact HPM.out, IH.out.1 hh0, by rw [HC4.out]; exact H58.out, IMI.out.1 hmi0⟩)⟩⟩
                                              have HRES := Lib.hid hres
                                              clear hres
                                              clear hs hrw
                                              go_wp2_with fail
                                              refine (HRW.out _ (HS.out _ _)).mono ?_
                                              rintro e w3 ⟨rfl, hS3, hG3⟩
                                              have HS3 := Lib.hid hS3
                                              have HG3 := Lib.hid ((HG.out _ _).trans hG3)
                                              obtain ⟨⟨c0, hc0⟩, ⟨c1, hc1⟩, ⟨c2, hc2⟩, ⟨c3, hc3⟩, hcf⟩ := Res.of _ _ _ _ _ hG3.ofDrewN hin.1
                                              clear hS3 hG3
                                              go_wp2_with fail
                                              exact bodyPost_ret (v := .agg #[.int .i64 4, .string s, .slice none 0 0, .slice none 0 0]) (by simp [results, Tryz.results52, go_sem, hc0, hc1, hc2, hc3]) rfl (VPost.mk 4 ((B.drop k).take (17 + g)) (by rw [HSS.out]; rfl) ((SPost.mk HS3.out HG3.out (by omega) (by omega) fun h => ⟨h, by rw [Nat.add_sub_cancel_left]; exact ⟨HRES.out, rfl⟩⟩).res hin _ _ _ _))
                                      · have t4 := byte_ne' h58 (n := 58) rfl
                                        clear h58
                                        go_wp2_with fail
                                        refine (fail_any (HS.out _ _)).mono ?_
                                        rintro e w3 ⟨rfl, hS3, hG3⟩
                                        have HS3 := Lib.hid hS3
                                        have HG3 := Lib.hid ((HG.out _ _).trans hG3)
                                        obtain ⟨⟨c0, hc0⟩, ⟨c1, hc1⟩, ⟨c2, hc2⟩, ⟨c3, hc3⟩, hcf⟩ := Res.of _ _ _ _ _ hG3.ofDrewN hin.1
                                        clear hS3 hG3
                                        go_wp2_with fail
                                        exact bodyPost_ret (v := ndv 0 []) (by simp [results, Tryz.results52, go_sem, ndv, hc0, hc1, hc2, hc3]) rfl (VPost.mk 0 [] rfl ((SPost.bad HS3.out HG3.out hk (bad_fail st)).res hin _ _ _ _))
                                  · have t43 := byte_ne h43 (n := 43) rfl
                                    clear h43
                                    by_cases h45 : cp = 45
                                    · have t45 := byte_eq h45 (n := 45) rfl
                                      have HPM := Lib.hid (.inr h45 : cp = 43 ∨ cp = 45)
                                      clear h45
                                      go_wp2_with fail
                                      refine (two_any (HS.out _ _) ((11 : Int) + g + 1) (k + 12 + g) 2 (by omega) (by omega) (by decide)).mono ?_
                                      rintro e w' ⟨h, rfl, lh, uh, ih, m8, rfl⟩
                                      have IH := Lib.hid ih
                                      clear ih
                                      go_wp2_with fail
                                      refine (two_any (HS.out _ _) ((11 : Int) + g + 4) (k + 15 + g) 2 (by omega) (by omega) (by decide)).mono ?_
                                      rintro e w' ⟨mi, rfl, lmi, umi, imi, m9, rfl⟩
                                      have IMI := Lib.hid imi
                                      clear imi
                                      by_cases hh : h < 0
                                      · go_wp2_with fail
                                        refine (fail_any (HS.out _ _)).mono ?_
                                        rintro e w3 ⟨rfl, hS3, hG3⟩
                                        have HS3 := Lib.hid hS3
                                        have HG3 := Lib.hid ((HG.out _ _).trans hG3)
                                        obtain ⟨⟨c0, hc0⟩, ⟨c1, hc1⟩, ⟨c2, hc2⟩, ⟨c3, hc3⟩, hcf⟩ := Res.of _ _ _ _ _ hG3.ofDrewN hin.1
                                        clear hS3 hG3
                                        go_wp2_with fail
                                        exact bodyPost_ret (v := ndv 0 []) (by simp [results, Tryz.results52, go_sem, ndv, hc0, hc1, hc2, hc3]) rfl (VPost.mk 0 [] rfl ((SPost.bad HS3.out HG3.out hk (bad_fail st)).res hin _ _ _ _))
                                      · have hh0 : 0 ≤ h := by omega
                                        clear hh
                                        obtain ⟨c4, hc4⟩ : ∃ c, pk B (k + 14 + g) = c := ⟨_, rfl⟩
                                        have HP14 := Lib.hid (fun (W : World) (hW : SP W pb a C B k st) => peek_any hW ((11 : Int) + g + 3) (k + 14 + g) (by omega) (by omega))
                                        rw [hc4] at HP14
                                        have HC4 := Lib.hid hc4
                                        clear hc4
                                        go_wp2_with fail
                                        refine (HP14.out _ (HS.out _ _)).mono ?_
                                        rintro e w' ⟨rfl, m10, rfl⟩
                                        by_cases h58 : c4 = 58
                                        · have t4 := byte_eq' h58 (n := 58) rfl
                                          have H58 := Lib.hid h58
                                          clear h58
                                          by_cases hmi : mi < 0
                                          · go_wp2_with fail
                                            refine (fail_any (HS.out _ _)).mono ?_
                                            rintro e w3 ⟨rfl, hS3, hG3⟩
                                            have HS3 := Lib.hid hS3
                                            have HG3 := Lib.hid ((HG.out _ _).trans hG3)
                                            obtain ⟨⟨c0, hc0⟩, ⟨c1, hc1⟩, ⟨c2, hc2⟩, ⟨c3, hc3⟩, hcf⟩ := Res.of _ _ _ _ _ hG3.ofDrewN hin.1
                                            clear hS3 hG3
                                            go_wp2_with fail
                                            exact bodyPost_ret (v := ndv 0 []) (by simp [results, Tryz.results52, go_sem, ndv, hc0, hc1, hc2, hc3]) rfl (VPost.mk 0 [] rfl ((SPost.bad HS3.out HG3.out hk (bad_fail st)).res hin _ _ _ _))
                                          · have hmi0 : 0 ≤ mi := by omega
                                            clear hmi
                                            by_cases hh23 : 23 < h
                                            · go_wp2_with fail
                                              refine (open_any (HS.out _ _)).mono ?_
                                              rintro e w3 ⟨rfl, hS3, hG3⟩
                                              have HS3 := Lib.hid hS3
                                              have HG3 := Lib.hid ((HG.out _ _).trans hG3)
                                              obtain ⟨⟨c0, hc0⟩, ⟨c1, hc1⟩, ⟨c2, hc2⟩, ⟨c3, hc3⟩, hcf⟩ := Res.of _ _ _ _ _ hG3.ofDrewN hin.1
                                              clear hS3 hG3
                                              go_wp2_with fail
                                              exact bodyPost_ret (v := ndv 0 []) (by simp [results, Tryz.results52, go_sem, ndv, hc0, hc1, hc2, hc3]) rfl (VPost.mk 0 [] rfl ((SPost.bad HS3.out HG3.out hk (by decide)).res hin _ _ _ _))
                                            · have hh24 : h ≤ 23 := by omega
                                              clear hh23
                                              by_cases hmi59 : 59 < mi
                                              · go_wp2_with fail
                                                refine (open_any (HS.out _ _)).mono ?_
                                                rintro e w3 ⟨rfl, hS3, hG3⟩
                                                have HS3 := Lib.hid hS3
                                                have HG3 := Lib.hid ((HG.out _ _).trans hG3)
                                                obtain ⟨⟨c0, hc0⟩, ⟨c1, hc1⟩, ⟨c2, hc2⟩, ⟨c3, hc3⟩, hcf⟩ := Res.of _ _ _ _ _ hG3.ofDrewN hin.1
                                                clear hS3 hG3
                                                go_wp2_with fail
                                                exact bodyPost_ret (v := ndv 0 []) (by simp [results, Tryz.results52, go_sem, ndv, hc0, hc1, hc2, hc3]) rfl (VPost.mk 0 [] rfl ((SPost.bad HS3.out HG3.out hk (by decide)).res hin _ _ _ _))
                                              · have hfin := figs_in (IMI.out.1 hmi0) (by decide)
                                                obtain ⟨s, hs⟩ : ∃ s : ByteArray, s = ⟨((B.drop k).take (17 + g)).toArray⟩ := ⟨_, rfl⟩
                                                have hrw := fun (W : World) (hW : SP W pb a C B k st) => raw_z hW 4 ((11 : Int) + g + 6) (17 + g) (by omega) (by omega) (by omega) s hs
                                                have HRW := Lib.hid hrw
                                                have HSS := Lib.hid hs
                                                have hres : DateR B k (17 + g) 4 := ⟨HDAY.out, .inr ⟨HB10.out, g, Nat.pos_of_ne_zero HG0.out, HCLK.out HG0.out, .inr (.inr ⟨rfl, rfl, by rw [HCP.out]; exact HPM.out, IH.out.1 hh0, by rw [HC4.out]; exact H58.out, IMI.out.1 hmi0⟩)⟩⟩
                                                have HRES := Lib.hid hres
                                                clear hres
                                                clear hs hrw
                                                go_wp2_with fail
                                                refine (HRW.out _ (HS.out _ _)).mono ?_
                                                rintro e w3 ⟨rfl, hS3, hG3⟩
                                                have HS3 := Lib.hid hS3
                                                have HG3 := Lib.hid ((HG.out _ _).trans hG3)
                                                obtain ⟨⟨c0, hc0⟩, ⟨c1, hc1⟩, ⟨c2, hc2⟩, ⟨c3, hc3⟩, hcf⟩ := Res.of _ _ _ _ _ hG3.ofDrewN hin.1
                                                clear hS3 hG3
                                                go_wp2_with fail
                                                exact bodyPost_ret (v := .agg #[.int .i64 4, .string s, .slice none 0 0, .slice none 0 0]) (by simp [results, Tryz.results52, go_sem, hc0, hc1, hc2, hc3]) rfl (VPost.mk 4 ((B.drop k).take (17 + g)) (by rw [HSS.out]; rfl) ((SPost.mk HS3.out HG3.out (by omega) (by omega) fun h => ⟨h, by rw [Nat.add_sub_cancel_left]; exact ⟨HRES.out, rfl⟩⟩).res hin _ _ _ _))
                                        · have t4 := byte_ne' h58 (n := 58) rfl
                                          clear h58
                                          go_wp2_with fail
                                          refine (fail_any (HS.out _ _)).mono ?_
                                          rintro e w3 ⟨rfl, hS3, hG3⟩
                                          have HS3 := Lib.hid hS3
                                          have HG3 := Lib.hid ((HG.out _ _).trans hG3)
                                          obtain ⟨⟨c0, hc0⟩, ⟨c1, hc1⟩, ⟨c2, hc2⟩, ⟨c3, hc3⟩, hcf⟩ := Res.of _ _ _ _ _ hG3.ofDrewN hin.1
                                          clear hS3 hG3
                                          go_wp2_with fail
                                          exact bodyPost_ret (v := ndv 0 []) (by simp [results, Tryz.results52, go_sem, ndv, hc0, hc1, hc2, hc3]) rfl (VPost.mk 0 [] rfl ((SPost.bad HS3.out HG3.out hk (bad_fail st)).res hin _ _ _ _))
                                    · have t45 := byte_ne h45 (n := 45) rfl
                                      clear h45
                                      obtain ⟨s, hs⟩ : ∃ s : ByteArray, s = ⟨((B.drop k).take (11 + g)).toArray⟩ := ⟨_, rfl⟩
                                      have hrw := fun (W : World) (hW : SP W pb a C B k st) => raw_z hW 5 ((11 : Int) + g) (11 + g) (by omega) (by omega) (by omega) s hs
                                      have HRW := Lib.hid hrw
                                      have HSS := Lib.hid hs
                                      have hres : DateR B k (11 + g) 5 := ⟨HDAY.out, .inr ⟨HB10.out, g, Nat.pos_of_ne_zero HG0.out, HCLK.out HG0.out, .inl ⟨rfl, rfl⟩⟩⟩
                                      have HRES := Lib.hid hres
                                      clear hres
                                      clear hs hrw
                                      go_wp2_with fail
                                      refine (HRW.out _ (HS.out _ _)).mono ?_
                                      rintro e w3 ⟨rfl, hS3, hG3⟩
                                      have HS3 := Lib.hid hS3
                                      have HG3 := Lib.hid ((HG.out _ _).trans hG3)
                                      obtain ⟨⟨c0, hc0⟩, ⟨c1, hc1⟩, ⟨c2, hc2⟩, ⟨c3, hc3⟩, hcf⟩ := Res.of _ _ _ _ _ hG3.ofDrewN hin.1
                                      clear hS3 hG3
                                      go_wp2_with fail
                                      exact bodyPost_ret (v := .agg #[.int .i64 5, .string s, .slice none 0 0, .slice none 0 0]) (by simp [results, Tryz.results52, go_sem, hc0, hc1, hc2, hc3]) rfl (VPost.mk 5 ((B.drop k).take (11 + g)) (by rw [HSS.out]; rfl) ((SPost.mk HS3.out HG3.out (by omega) (by omega) fun h => ⟨h, by rw [Nat.add_sub_cancel_left]; exact ⟨HRES.out, rfl⟩⟩).res hin _ _ _ _))
                      · have t32 := byte_ne' h32 (n := 32) rfl
                        clear h32
                        obtain ⟨s, hs⟩ : ∃ s : ByteArray, s = ⟨((B.drop k).take (10)).toArray⟩ := ⟨_, rfl⟩
                        have hrw := fun (W : World) (hW : SP W pb a C B k st) => raw_z hW 6 (10) (10) (by omega) (by omega) (by omega) s hs
                        have HRW := Lib.hid hrw
                        have HSS := Lib.hid hs
                        have hres : DateR B k 10 6 := ⟨HDAY.out, .inl ⟨rfl, rfl⟩⟩
                        have HRES := Lib.hid hres
                        clear hres
                        clear hs hrw
                        go_wp2_with fail
                        refine (HRW.out _ (HS.out _ _)).mono ?_
                        rintro e w3 ⟨rfl, hS3, hG3⟩
                        have HS3 := Lib.hid hS3
                        have HG3 := Lib.hid ((HG.out _ _).trans hG3)
                        obtain ⟨⟨c0, hc0⟩, ⟨c1, hc1⟩, ⟨c2, hc2⟩, ⟨c3, hc3⟩, hcf⟩ := Res.of _ _ _ _ _ hG3.ofDrewN hin.1
                        clear hS3 hG3
                        go_wp2_with fail
                        exact bodyPost_ret (v := .agg #[.int .i64 6, .string s, .slice none 0 0, .slice none 0 0]) (by simp [results, Tryz.results52, go_sem, hc0, hc1, hc2, hc3]) rfl (VPost.mk 6 ((B.drop k).take (10)) (by rw [HSS.out]; rfl) ((SPost.mk HS3.out HG3.out (by omega) (by omega) fun h => ⟨h, by rw [Nat.add_sub_cancel_left]; exact ⟨HRES.out, rfl⟩⟩).res hin _ _ _ _))
    · have t7 := byte_ne' h7 (n := 45) rfl
      clear h7
      go_wp2_with fail
      refine (fail_any (HS.out _ _)).mono ?_
      rintro e w3 ⟨rfl, hS3, hG3⟩
      have HS3 := Lib.hid hS3
      have HG3 := Lib.hid ((HG.out _ _).trans hG3)
      obtain ⟨⟨c0, hc0⟩, ⟨c1, hc1⟩, ⟨c2, hc2⟩, ⟨c3, hc3⟩, hcf⟩ := Res.of _ _ _ _ _ hG3.ofDrewN hin.1
      clear hS3 hG3
      go_wp2_with fail
      exact bodyPost_ret (v := ndv 0 []) (by simp [results, Tryz.results52, go_sem, ndv, hc0, hc1, hc2, hc3]) rfl (VPost.mk 0 [] rfl ((SPost.bad HS3.out HG3.out hk (bad_fail st)).res hin _ _ _ _))
end Go.Proofs.YtalmpddmhakdmaaGreat
