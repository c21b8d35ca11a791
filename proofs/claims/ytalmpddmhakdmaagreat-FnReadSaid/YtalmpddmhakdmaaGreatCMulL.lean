/-
  The walk of a function of the parser: a text of several lines, in single quotes. Conditions: the text lies in memory as stated.
-/
import Derived.Test.YtalmpddmhakdmaaGreatCJ23
namespace Go.Proofs.YtalmpddmhakdmaaGreat
open Go.RowKit

set_option maxRecDepth 100000 in
set_option maxHeartbeats 4000000 in
theorem lines_lit {w : World} {db C : Nat} {B : List UInt8} {o n m j : Nat} {t : List UInt8} (pv : Value) (hD : Dt w db B) (h1 : o + n = B.length) (h2 : n ≤ m) (h3 : o + m = C) (hr : LnR 39 B (o + 3 + lnN B (o + 3)) j t) (hf : pk B j ≠ 39) :
    Calls Tryz.prog 75 #[pv, .slice (some ⟨db, o, none⟩) n m] w (ScP db C B j t w) := by
  obtain ⟨nl, hnl⟩ : ∃ nl, lnN B (o + 3) = nl := ⟨_, rfl⟩
  have hlen := hr.len (by decide)
  rw [hnl] at hr hlen
  have hj : j ≤ B.length := hlen.2
  have hn6 : 6 ≤ n := by omega
  have HD := Lib.hid hD
  have HR := Lib.hid hr
  have HF := Lib.hid hf
  have hl := hD.len
  have hc3 := hD.pk (i := o + 3) (by omega)
  have hc4 := hD.pk (i := o + 4) (by omega)
  obtain ⟨c3, hcc3⟩ : ∃ c3, pk B (o + 3) = c3 := ⟨_, rfl⟩
  obtain ⟨c4, hcc4⟩ : ∃ c4, pk B (o + 4) = c4 := ⟨_, rfl⟩
  have hnc : nl = if c3 = 10 then 1 else if c3 = 13 ∧ c4 = 10 then 2 else 0 := by
    rw [← hnl, ← hcc3, ← hcc4]
    rfl
  rw [hcc3] at hc3
  rw [hcc4] at hc4
  have HNC := Lib.hid hnc
  have hn3 : 3 < n := by omega
  have hn4 : 4 < n := by omega
  clear hD hr hf hnl hcc3 hcc4 hnc hlen
  go_enter Tryz.func75, Tryz.ntmps75
  go_upto_if 25 with fail
  go_cut [8] from 15 to 49 (fun v wx => v = .int .i64 ((3 + nl : Nat) : Int) ∧ w = wx)
  case first =>
    by_cases h10 : c3 = 10
    · have t1 := byte_eq h10 (n := 10) rfl
      have hv : ((3 + nl : Nat) : Int) = 4 := by rw [HNC.out, if_pos h10]; rfl
      clear h10
      go_wp2_with fail
      go_meet
      exact ⟨congrArg (Value.int .i64) (by omega), rfl⟩
    · have t1 := byte_ne h10 (n := 10) rfl
      by_cases h13 : c3 = 13
      · have t2 := byte_eq h13 (n := 13) rfl
        by_cases h10b : c4 = 10
        · have t3 := byte_eq h10b (n := 10) rfl
          have hv : ((3 + nl : Nat) : Int) = 5 := by rw [HNC.out, if_neg h10, if_pos ⟨h13, h10b⟩]; rfl
          clear h10 h13 h10b
          go_wp2_with fail
          go_meet
          exact ⟨congrArg (Value.int .i64) (by omega), rfl⟩
        · have t3 := byte_ne h10b (n := 10) rfl
          have hv : ((3 + nl : Nat) : Int) = 3 := by rw [HNC.out, if_neg h10, if_neg (fun e => h10b e.2)]; rfl
          clear h10 h13 h10b
          go_wp2_with fail
          go_meet
          exact ⟨congrArg (Value.int .i64) (by omega), rfl⟩
      · have t2 := byte_ne h13 (n := 13) rfl
        have hv : ((3 + nl : Nat) : Int) = 3 := by rw [HNC.out, if_neg h10, if_neg (fun e => h13 e.1)]; rfl
        clear h10 h13
        go_wp2_with fail
        go_meet
        exact ⟨congrArg (Value.int .i64) (by omega), rfl⟩
  case rest =>
    obtain ⟨rfl, hww⟩ := hcut
    subst hww
    obtain ⟨cs, hcs⟩ : ∃ cs, 3 + nl = cs := ⟨_, rfl⟩
    rw [hcs]
    have hr := HR.out
    rw [Nat.add_assoc, hcs] at hr
    have HR2 := Lib.hid (Trk.start (B := B) (R := fun i u => LnR 39 B i j u) hr)
    have hlen := hr.len (by decide)
    have hcsn : o + cs + 3 ≤ B.length := by omega
    clear hr HR hcs HNC hc3 hc4 hlen
    go_wp2_with fail
    go_loopw [8] (fun v wr => ∃ y : Nat, v = .int .i64 y ∧ wr = w ∧ cs ≤ y ∧ Trk B (fun i u => LnR 39 B i j u) (o + cs) (o + y) t) (fun v _ => B.length - (intOf v).toNat)
    case atStart => exact ⟨cs, rfl, rfl, Nat.le_refl _, HR2.out⟩
    case round =>
      obtain ⟨y, rfl, rfl, hcy, hy⟩ := hrel
      obtain ⟨w, rfl⟩ : ∃ w0 : World, w0 = wr := ⟨_, rfl⟩
      have hin3 : o + y + 3 ≤ B.length := by
        obtain ⟨_, u, hu, _⟩ := hy
        have := hu.len (by decide)
        omega
      have HY := Lib.hid hy
      have hyn : y < n := by omega
      have hin : o + y < B.length := by omega
      have hc := HD.out.pk hin
      clear hy HR2
      by_cases hqq : pk B (o + y) = 39
      · have t1 := byte_eq hqq (n := 39) rfl
        have HQQ := Lib.hid hqq
        clear hqq
        go_upto_block 3 with fail
        go_cut [11] from 77 to 89 (fun v wx => ∃ y2 : Nat, v = .int .i64 y2 ∧ w = wx ∧ y < y2 ∧ y2 ≤ n ∧ (∀ k, k < y2 - y → pk B (o + y + k) = 39) ∧ pk B (o + y + (y2 - y)) ≠ 39)
        case first =>
          go_wp2_with fail
          go_loopw [11] (fun v wr => ∃ y2 : Nat, v = .int .i64 y2 ∧ w = wr ∧ y ≤ y2 ∧ y2 ≤ n ∧ (∀ k, k < y2 - y → pk B (o + y + k) = 39)) (fun v _ => B.length - (intOf v).toNat)
          case atStart => exact ⟨y, rfl, rfl, Nat.le_refl _, by omega, fun k hk => by omega⟩
          case round =>
            obtain ⟨y2, rfl, hw2, hy2, hy2n, hall⟩ := hrel
            subst hw2
            have HA := Lib.hid hall
            clear hall hc
            by_cases hlt : y2 < n
            · have hc2 := HD.out.pk (i := o + y2) (by omega)
              by_cases hq2 : pk B (o + y2) = 39
              · have t2 := byte_eq hq2 (n := 39) rfl
                have HQ2 := Lib.hid hq2
                clear hq2
                go_wp2_with fail
                exact ⟨⟨y2 + 1, rfl, by trivial, by omega, by omega, fun k hk => by
                  rcases Nat.lt_or_ge k (y2 - y) with h | h
                  · exact HA.out k h
                  · rw [show o + y + k = o + y2 by omega]
                    exact HQ2.out⟩, by show B.length - (intOf (.int .i64 ((y2 : Int) + 1))).toNat < B.length - (intOf (.int .i64 (y2 : Int))).toNat; simp only [intOf]; omega⟩
              · have t2 := byte_ne hq2 (n := 39) rfl
                have hne : y ≠ y2 := fun e => hq2 (by rw [← e]; exact HQQ.out)
                have HQ2 := Lib.hid hq2
                clear hq2
                go_wp2_with fail
                go_meet
                exact ⟨y2, rfl, rfl, by omega, hy2n, HA.out, by rw [show o + y + (y2 - y) = o + y2 by omega]; exact HQ2.out⟩
            · go_wp2_with fail
              go_meet
              exact ⟨y2, rfl, rfl, by omega, hy2n, HA.out, by rw [pk_out (by omega)]; decide⟩
        case rest =>
          obtain ⟨y2, rfl, hw2, hy2, hy2n, hall, hne⟩ := hcut
          subst hw2
          have HA := Lib.hid (And.intro hall hne)
          clear hall hne hc t1
          by_cases h3r : 3 ≤ y2 - y
          · have hend : y2 - y ≤ 5 ∧ j = o + y2 ∧ t = cutB B (o + cs) (y2 - 3 - cs) := by
              obtain ⟨_, u, hu, ht⟩ := HY.out
              obtain ⟨e1, e2, e3⟩ := hu.many h3r HA.out.1 HA.out.2 HF.out
              refine ⟨e1, by omega, ?_⟩
              rw [ht, e3, ← cut_same (B := B) (i := o + y) (n := y2 - y - 3) (fun k hk => HA.out.1 k (by omega)) (by omega)]
              have := cut_add B (o + cs) (o + y - (o + cs)) (y2 - y - 3)
              rw [show o + cs + (o + y - (o + cs)) = o + y by omega] at this
              rw [this]
              congr 1
              omega
            obtain ⟨h5, rfl, ht⟩ := hend
            have HT := Lib.hid ht
            clear ht HY
            go_wp2_with fail
            go_quiet (fail)
            all_goals go_wp2_with fail
            all_goals
              (try simp only [Exit.inBlock, Exit.then])
              refine bodyPost_ret (results_tmp4 rfl _ _ _) rfl ?_
              have htx := fun c' => TxtAt.piece (HD.out.drewN nq) (fun b => b = db ∨ (w.heap.size ≤ b ∧ b < (w.drewN nq).heap.size)) (.inl rfl) (o + cs) (y + (y2 - y) - 3 - cs) c' (by omega)
              rw [show cutB B (o + cs) (y + (y2 - y) - 3 - cs) = t by rw [HT.out]; congr 1; omega] at htx
              exact ScP.mk _ _ _ rfl ⟨_, _, _, o, rfl, by omega, by omega⟩ (htx _) ⟨_, _, _, rfl, by omega, by omega, by omega, by omega⟩ (grown_drewN w nq)
          · have HK := Lib.hid (HY.out.go (n := y2 - y) fun u hu => hu.few (by decide) (by omega) HA.out.1 HA.out.2)
            clear HY
            go_wp2_with fail
            exact ⟨⟨y2, rfl, by trivial, by omega, by have := HK.out; rwa [show o + y + (y2 - y) = o + y2 by omega] at this⟩, by show B.length - (intOf (.int .i64 (y2 : Int))).toNat < B.length - (intOf (.int .i64 (y : Int))).toNat; simp only [intOf]; omega⟩
      · have t1 := byte_ne hqq (n := 39) rfl
        have h3q : ¬ three 39 B (o + y) := fun e => hqq e.1
        have hst : (lnN B (o + y) ≠ 0 ∧ Trk B (fun i u => LnR 39 B i j u) (o + cs) (o + y + lnN B (o + y)) t) ∨ (lnN B (o + y) = 0 ∧ 0 < sgN B (o + y)) := by
          obtain ⟨_, u, hu, _⟩ := HY.out
          rcases hu.step h3q (fun e => absurd e.2 (by decide)) with ⟨g1, _⟩ | ⟨g1, g2, _⟩
          · refine .inl ⟨g1, HY.out.go fun u hu => ?_⟩
            rcases hu.step h3q (fun e => absurd e.2 (by decide)) with ⟨_, g⟩ | ⟨g2, _⟩
            · exact g
            · exact absurd g2 g1
          · exact .inr ⟨g1, g2⟩
        rcases hst with ⟨hln, hk⟩ | ⟨hln, hsg⟩
        · have HK := Lib.hid hk
          rcases lnN_cases hln with h10 | ⟨h13, h10⟩
          · have hl1 : lnN B (o + y) = 1 := by unfold lnN; rw [if_pos h10]
            have HL := Lib.hid hl1
            have t10 := byte_eq h10 (n := 10) rfl
            have t9 : (((pk B (o + y)).toNat : Int) == 9) = false := by rw [h10]; decide
            have l32 : ¬ 32 ≤ ((pk B (o + y)).toNat : Int) := by rw [h10]; decide
            clear hk hln h10 hl1 h3q hqq HY
            generalize pk B (o + y) = c at *
            go_wp2_with fail
            exact ⟨⟨y + 1, rfl, by trivial, by omega, by have := HK.out; rwa [HL.out] at this⟩, by show B.length - (intOf (.int .i64 ((y : Int) + 1 : Int))).toNat < B.length - (intOf (.int .i64 (y : Int))).toNat; simp only [intOf]; omega⟩
          · have hl1 : lnN B (o + y) = 2 := by unfold lnN; rw [if_neg (by rw [h13]; decide), if_pos ⟨h13, h10⟩]
            have HL := Lib.hid hl1
            have t13 := byte_eq h13 (n := 13) rfl
            have t10 : (((pk B (o + y)).toNat : Int) == 10) = false := by rw [h13]; decide
            have t9 : (((pk B (o + y)).toNat : Int) == 9) = false := by rw [h13]; decide
            have l32 : ¬ 32 ≤ ((pk B (o + y)).toNat : Int) := by rw [h13]; decide
            have hc2 := HD.out.pk (i := o + (y + 1)) (by omega)
            rw [show pk B (o + (y + 1)) = 10 from h10] at hc2
            have hyn1 : y + 1 < n := by omega
            clear hk hln h10 h13 hl1 h3q hqq HY
            generalize pk B (o + y) = c at *
            go_wp2_with fail
            exact ⟨⟨y + 2, rfl, by trivial, by omega, by have := HK.out; rwa [HL.out] at this⟩, by show B.length - (intOf (.int .i64 ((y : Int) + 2 : Int))).toNat < B.length - (intOf (.int .i64 (y : Int))).toNat; simp only [intOf]; omega⟩
        · by_cases hhi : 128 ≤ (pk B (o + y)).toNat
          · obtain ⟨k, hk1, hk2⟩ : ∃ k, Rn B (o + y) k ∧ Trk B (fun i u => LnR 39 B i j u) (o + cs) k t := by
              obtain ⟨h0, u, hu, ht⟩ := HY.out
              obtain ⟨k, g1, _⟩ := hu.run (by decide)
              refine ⟨k, g1, ?_⟩
              have hle := g1.lt.1
              have := Trk.go (n := k - (o + y)) HY.out fun u hu => by
                obtain ⟨k', g1', u', g2', g3'⟩ := hu.run (by decide)
                have : k' = k := Rn.uniq g1' g1
                subst this
                exact ⟨u', g2', by rwa [show o + y + (k' - (o + y)) = k' by omega]⟩
              rwa [show o + y + (k - (o + y)) = k by omega] at this
            have hk5 := hk1.lt.2.2 hin hhi
            have hk4 := hk1.lt.2.1
            have HRUN := Lib.hid (run_any (m := m) HD.out h1 hk1)
            have HK := Lib.hid hk2
            have t9 : (((pk B (o + y)).toNat : Int) == 9) = false := by simp; omega
            have t10 : (((pk B (o + y)).toNat : Int) == 10) = false := by simp; omega
            have t13 : (((pk B (o + y)).toNat : Int) == 13) = false := by simp; omega
            clear hk1 hk2 HY hsg hqq h3q hln
            generalize pk B (o + y) = c at *
            go_wp2_with fail
            with_reducible refine HRUN.out.mono ?_
            rintro e w' ⟨⟨y3, rfl, hy3⟩, rfl⟩
            obtain ⟨w, rfl⟩ : ∃ w0 : World, w0 = w' := ⟨_, rfl⟩
            subst hy3
            go_wp2_with fail
            exact ⟨⟨y3, rfl, by trivial, by omega, HK.out⟩, by show B.length - (intOf (.int .i64 (y3 : Int))).toNat < B.length - (intOf (.int .i64 (y : Int))).toNat; simp only [intOf]; omega⟩
          · have hpl := (sgN_cases hsg).resolve_right hhi
            have HK := Lib.hid (HY.out.go (n := 1) fun u hu => hu.plain h3q (fun e => absurd e.2 (by decide)) hpl)
            clear HY hsg hln h3q
            by_cases h9 : pk B (o + y) = 9
            · have t9 := byte_eq h9 (n := 9) rfl
              have l32 : ¬ 32 ≤ ((pk B (o + y)).toNat : Int) := by rw [h9]; decide
              clear h9 hpl hhi hqq
              generalize pk B (o + y) = c at *
              go_wp2_with fail
              exact ⟨⟨y + 1, rfl, by trivial, by omega, HK.out⟩, by show B.length - (intOf (.int .i64 ((y : Int) + 1 : Int))).toNat < B.length - (intOf (.int .i64 (y : Int))).toNat; simp only [intOf]; omega⟩
            · have hb := hpl.resolve_left h9
              clear h9 hpl hhi hqq
              generalize pk B (o + y) = c at *
              go_wp2_with fail
              exact ⟨⟨y + 1, rfl, by trivial, by omega, HK.out⟩, by show B.length - (intOf (.int .i64 ((y : Int) + 1 : Int))).toNat < B.length - (intOf (.int .i64 (y : Int))).toNat; simp only [intOf]; omega⟩

end Go.Proofs.YtalmpddmhakdmaaGreat
