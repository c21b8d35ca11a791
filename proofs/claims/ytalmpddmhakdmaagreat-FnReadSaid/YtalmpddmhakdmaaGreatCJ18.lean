/-
  The walk of a function of the parser: a remark. Conditions: the text lies in memory as stated.
-/
import Derived.Test.YtalmpddmhakdmaaGreatCTree
import Derived.Test.YtalmpddmhakdmaaGreatCRun
namespace Go.Proofs.YtalmpddmhakdmaaGreat
open Go.RowKit

theorem Rn.lt {B : List UInt8} {i j : Nat} (h : Rn B i j) : i ≤ j ∧ j ≤ B.length ∧ (i < B.length → 128 ≤ (pk B i).toNat → i < j) := by
  induction h with
  | stop h1 h2 => exact ⟨Nat.le_refl _, h1, fun h3 h4 => by omega⟩
  | step h1 h2 h3 h4 ih => exact ⟨by omega, ih.2.1, fun _ _ => by omega⟩
/-- Eight bytes of the text. -/
def octB (B : List UInt8) (p : Nat) : Oct := ⟨pk B p, pk B (p + 1), pk B (p + 2), pk B (p + 3), pk B (p + 4), pk B (p + 5), pk B (p + 6), pk B (p + 7)⟩
theorem le_B {w : World} {db : Nat} {B : List UInt8} (hD : Dt w db B) (p n m : Nat) (hp : p + 8 ≤ B.length) (hn : 8 ≤ n) :
    Calls Tryz.prog 55 #[.slice (some ⟨db, p, none⟩) n m] w fun e w' => e = .returned (.int .u64 ((octB B p).word : Int)) ∧ ∃ q, w' = w.drewN q := by
  refine (le_any hn (hD.pk (i := p) (by omega)) (hD.pk (i := p + 1) (by omega)) (hD.pk (i := p + 2) (by omega)) (hD.pk (i := p + 3) (by omega)) (hD.pk (i := p + 4) (by omega)) (hD.pk (i := p + 5) (by omega)) (hD.pk (i := p + 6) (by omega)) (hD.pk (i := p + 7) (by omega))).mono ?_
  rintro e w' ⟨rfl, h⟩
  exact ⟨by rw [← leW_word (octB B p)]; rfl, h⟩
theorem oct_at {B : List UInt8} {p : Nat} {q : Nat → Prop} (h : (octB B p).all q) (k : Nat) (hk : k < 8) : q (pk B (p + k)).toNat := by
  obtain ⟨h0, h1, h2, h3, h4, h5, h6, h7⟩ := h
  match k, hk with
  | 0, _ => exact h0
  | 1, _ => exact h1
  | 2, _ => exact h2
  | 3, _ => exact h3
  | 4, _ => exact h4
  | 5, _ => exact h5
  | 6, _ => exact h6
  | 7, _ => exact h7
theorem lnN_plain {B : List UInt8} {i : Nat} (h : (pk B i).toNat ≠ 10) (h2 : (pk B i).toNat ≠ 13) : lnN B i = 0 := by
  unfold lnN
  rw [if_neg (fun e => h (by rw [e]; rfl)), if_neg (fun e => h2 (by rw [e.1]; rfl))]
theorem sgN_plain {B : List UInt8} {i : Nat} (h : pk B i = 9 ∨ (32 ≤ (pk B i).toNat ∧ (pk B i).toNat < 127)) : sgN B i = 1 := by
  unfold sgN
  rw [if_pos h]
theorem sgN_high {B : List UInt8} {i : Nat} (h : 128 ≤ (pk B i).toNat) : sgN B i = hiN B i := by
  unfold sgN
  rw [if_neg (fun e => by rcases e with e | e; · rw [e] at h; revert h; decide
                          · omega), if_neg (by omega)]
/-- A remark goes on over a plain sign. -/
theorem Cm.plain {B : List UInt8} {i j : Nat} (h : Cm B i j) (hi : i < B.length) (hp : pk B i = 9 ∨ (32 ≤ (pk B i).toNat ∧ (pk B i).toNat < 127)) : Cm B (i + 1) j := by
  have hl : lnN B i = 0 := lnN_plain (by rcases hp with h | h; · rw [h]; decide
                                         · omega) (by rcases hp with h | h; · rw [h]; decide
                                                      · omega)
  cases h with
  | stop h => rcases h with h | h
              · omega
              · exact absurd hl h
  | step _ _ _ h => rwa [sgN_plain hp] at h
theorem Cm.eight {B : List UInt8} {i j : Nat} (h : Cm B i j) (hi : i + 8 ≤ B.length) (hp : ∀ k, k < 8 → 32 ≤ (pk B (i + k)).toNat ∧ (pk B (i + k)).toNat < 127) : Cm B (i + 8) j := by
  have h1 := h.plain (by omega) (.inr (hp 0 (by decide)))
  have h2 := h1.plain (by omega) (.inr (hp 1 (by decide)))
  have h3 := h2.plain (by omega) (.inr (hp 2 (by decide)))
  have h4 := h3.plain (by omega) (.inr (hp 3 (by decide)))
  have h5 := h4.plain (by omega) (.inr (hp 4 (by decide)))
  have h6 := h5.plain (by omega) (.inr (hp 5 (by decide)))
  have h7 := h6.plain (by omega) (.inr (hp 6 (by decide)))
  exact h7.plain (by omega) (.inr (hp 7 (by decide)))
theorem Cm.run {B : List UInt8} {i j : Nat} (h : Cm B i j) (hi : i ≤ B.length) : ∃ k, Rn B i k ∧ Cm B k j ∧ i ≤ k ∧ k ≤ B.length := by
  induction h with
  | stop h => exact ⟨_, .stop hi (h.imp (fun h => h) fun h => by
      unfold lnN at h
      split at h
      · rename_i e; rw [e]; decide
      · split at h
        · rename_i e; rw [e.1]; decide
        · exact absurd rfl h), .stop h, Nat.le_refl _, hi⟩
  | step h1 h2 h3 h4 ih =>
    rename_i i j
    rcases Nat.lt_or_ge (pk B i).toNat 128 with hp | hp
    · exact ⟨i, .stop hi (.inr hp), .step h1 h2 h3 h4, Nat.le_refl _, hi⟩
    · have hs := sgN_high hp
      obtain ⟨k, g1, g2, g3, g4⟩ := ih (by have := sgN_in h3; omega)
      exact ⟨k, .step h1 hp (by omega) (by rwa [← hs]), g2, by omega, g4⟩
theorem lnN_cases {B : List UInt8} {i : Nat} (h : lnN B i ≠ 0) : pk B i = 10 ∨ (pk B i = 13 ∧ pk B (i + 1) = 10) := by
  unfold lnN at h
  by_cases h1 : pk B i = 10
  · exact .inl h1
  · rw [if_neg h1] at h
    by_cases h2 : pk B i = 13 ∧ pk B (i + 1) = 10
    · exact .inr h2
    · rw [if_neg h2] at h
      exact absurd rfl h
theorem sgN_cases {B : List UInt8} {i : Nat} (h : 0 < sgN B i) : (pk B i = 9 ∨ (32 ≤ (pk B i).toNat ∧ (pk B i).toNat < 127)) ∨ 128 ≤ (pk B i).toNat := by
  unfold sgN at h
  by_cases h1 : pk B i = 9 ∨ (32 ≤ (pk B i).toNat ∧ (pk B i).toNat < 127)
  · exact .inl h1
  · rw [if_neg h1] at h
    by_cases h2 : (pk B i).toNat < 128
    · rw [if_pos h2] at h
      exact absurd h (Nat.lt_irrefl 0)
    · exact .inr (by omega)
theorem Cm.line {B : List UInt8} {i j : Nat} (h : Cm B i j) (hi : i < B.length) (h1 : ¬ 128 ≤ (pk B i).toNat) (h2 : ¬ (pk B i = 9 ∨ (32 ≤ (pk B i).toNat ∧ (pk B i).toNat < 127))) : i = j ∧ (pk B i = 10 ∨ (pk B i = 13 ∧ pk B (i + 1) = 10)) := by
  cases h with
  | stop h => exact ⟨rfl, lnN_cases (h.resolve_left (by omega))⟩
  | step _ _ h _ => rcases sgN_cases h with h | h
                    · exact absurd h h2
                    · exact absurd h h1
theorem Cm.le {B : List UInt8} {i j : Nat} (h : Cm B i j) (hi : i ≤ B.length) : i ≤ j ∧ j ≤ B.length := by
  induction h with
  | stop h => exact ⟨Nat.le_refl _, hi⟩
  | step h1 h2 h3 h4 ih => have := sgN_in h3; have := ih (by omega); omega

set_option maxRecDepth 100000 in
set_option maxHeartbeats 2000000 in
theorem remark_any {w : World} {db C : Nat} {B : List UInt8} {o n m j : Nat} (hD : Dt w db B) (h1 : o + n = B.length) (h2 : n ≤ m) (h3 : o + m = C) (h35 : pk B o = 35) (hr : Cm B o j) :
    Calls Tryz.prog 36 #[.slice (some ⟨db, o, none⟩) n m] w fun e w' => (∃ v v', e = .returned (.tuple #[v, v', .nilIface]) ∧ At db C B j v') ∧ ∃ q, w' = w.drewN q := by
  have ho : o < B.length := pk_in (by rw [h35]; decide)
  have HD := Lib.hid (fun q => hD.drewN q)
  have HR := Lib.hid (hr.plain ho (by rw [h35]; exact .inr (by decide)))
  have hl := hD.len
  clear hD hr h35
  go_enter Tryz.func36, Tryz.ntmps36
  go_wp2_with fail
  go_loopw [5] (fun v wr => ∃ y q : Nat, v = .int .i64 y ∧ wr = w.drewN q ∧ Cm B (o + y) j ∧ y ≤ n) (fun v _ => B.length - (intOf v).toNat)
  case atStart => exact ⟨1, 0, rfl, rfl, HR.out, by omega⟩
  case round =>
    obtain ⟨y0, q, rfl, rfl, hy, hyn⟩ := hrel
    have HY := Lib.hid hy
    clear hy HR
    by_cases hlt : y0 < n
    · go_upto_block 2 with fail
      go_cut [5] (fun v wx => ∃ y q : Nat, v = .int .i64 y ∧ wx = w.drewN q ∧ Cm B (o + y) j ∧ y ≤ n ∧ y0 ≤ y)
      case first =>
        go_wp2_with fail
        go_loopw [5] (fun v wr => ∃ y q : Nat, v = .int .i64 y ∧ wr = w.drewN q ∧ Cm B (o + y) j ∧ y ≤ n ∧ y0 ≤ y) (fun v _ => B.length - (intOf v).toNat)
        case atStart => exact ⟨y0, q, rfl, rfl, HY.out, hyn, Nat.le_refl _⟩
        case round =>
          obtain ⟨y2, q2, rfl, rfl, hy2, hyn2, hyy⟩ := hrel
          have HY2 := Lib.hid hy2
          clear hy2 HY
          by_cases h8 : y2 + 8 ≤ n
          · have hmy : ¬ m = y2 := by omega
            have HLE := Lib.hid (fun (a b : Nat) (hb : 8 ≤ a) => le_B (HD.out q2) (o + y2) a b (by omega) hb)
            obtain ⟨W, hW⟩ : ∃ W : Int, ((octB B (o + y2)).word : Int) = W := ⟨_, rfl⟩
            rw [hW] at HLE
            have HBE := Lib.hid (fun (V : World) => below_any V W 32)
            have HEQ := Lib.hid (fun (V : World) => equal_any V W 127)
            have HW := Lib.hid hW
            clear hW
            go_wp2_with fail
            with_reducible refine (HLE.out _ _ (by omega)).mono ?_
            rintro e w' ⟨rfl, q3, rfl⟩
            go_wp2_with fail
            with_reducible refine (HBE.out _).mono ?_
            rintro e w' ⟨rfl, rfl⟩
            go_wp2_with fail
            with_reducible refine (HEQ.out _).mono ?_
            rintro e w' ⟨rfl, rfl⟩
            by_cases ht : tst3 W = 0
            · have t1 : (bits BinOp.or IntKind.u64 (bits BinOp.or IntKind.u64 (bits BinOp.and IntKind.u64 W 9259542123273814144) (belowW W 32)) (equalW W 127) != 0) = false := by simpa [tst3] using ht
              have HT := Lib.hid (tst3_zero (octB B (o + y2)) (by rw [HW.out]; exact ht))
              clear ht
              go_wp2_with fail
              exact ⟨⟨y2 + 8, q2 + q3, rfl, rfl, HY2.out.eight (by omega) (oct_at HT.out), h8, by omega⟩, by show B.length - (intOf (.int .i64 ((y2 : Int) + 8))).toNat < B.length - (intOf (.int .i64 (y2 : Int))).toNat; simp only [intOf]; omega⟩
            · have t1 : (bits BinOp.or IntKind.u64 (bits BinOp.or IntKind.u64 (bits BinOp.and IntKind.u64 W 9259542123273814144) (belowW W 32)) (equalW W 127) != 0) = true := by simpa [tst3] using ht
              clear ht
              go_wp2_with fail
              go_meet
              exact ⟨y2, q2 + q3, rfl, rfl, HY2.out, hyn2, hyy⟩
          · go_wp2_with fail
            go_meet
            exact ⟨y2, q2, rfl, rfl, HY2.out, hyn2, hyy⟩
      case rest =>
        clear HY hyn hlt
        obtain ⟨y, q, rfl, rfl, hy, hyn, hyy⟩ := hcut
        have HY := Lib.hid hy
        clear hy
        by_cases hlt : y < n
        · have hin : o + y < B.length := by omega
          have hc := (HD.out q).pk hin
          by_cases hhi : 128 ≤ (pk B (o + y)).toNat
          · obtain ⟨k, hk1, hk2, hk3, hk4⟩ := HY.out.run (by omega)
            have hk5 := hk1.lt.2.2 hin hhi
            have HRUN := Lib.hid (run_any (m := m) (HD.out q) h1 hk1)
            have HK := Lib.hid hk2
            clear hk1 hk2 HY
            generalize pk B (o + y) = c at *
            go_wp2_with fail
            with_reducible refine HRUN.out.mono ?_
            rintro e w' ⟨⟨y3, rfl, hy3⟩, rfl⟩
            subst hy3
            go_wp2_with fail
            exact ⟨⟨y3, q, rfl, rfl, HK.out, by omega⟩, by show B.length - (intOf (.int .i64 ((y3 : Int) : Int))).toNat < B.length - (intOf (.int .i64 (y0 : Int))).toNat; simp only [intOf]; omega⟩
          · by_cases hpl : pk B (o + y) = 9 ∨ (32 ≤ (pk B (o + y)).toNat ∧ (pk B (o + y)).toNat < 127)
            · have HK := Lib.hid (HY.out.plain hin hpl)
              clear HY
              by_cases h9 : pk B (o + y) = 9
              · have t9 := byte_eq h9 (n := 9) rfl
                have h9' : (pk B (o + y)).toNat = 9 := by rw [h9]; rfl
                have t10 : (((pk B (o + y)).toNat : Int) == 10) = false := by simp; omega
                have t13 : (((pk B (o + y)).toNat : Int) == 13) = false := by simp; omega
                have l32 : ¬ 32 ≤ ((pk B (o + y)).toNat : Int) := by omega
                clear h9 h9' hpl hhi
                generalize pk B (o + y) = c at *
                go_wp2_with fail
                exact ⟨⟨y + 1, q, rfl, rfl, HK.out, by omega⟩, by show B.length - (intOf (.int .i64 ((y : Int) + 1 : Int))).toNat < B.length - (intOf (.int .i64 (y0 : Int))).toNat; simp only [intOf]; omega⟩
              · have hb := hpl.resolve_left h9
                clear h9 hpl hhi
                generalize pk B (o + y) = c at *
                go_wp2_with fail
                exact ⟨⟨y + 1, q, rfl, rfl, HK.out, by omega⟩, by show B.length - (intOf (.int .i64 ((y : Int) + 1 : Int))).toNat < B.length - (intOf (.int .i64 (y0 : Int))).toNat; simp only [intOf]; omega⟩
            · obtain ⟨hj, hln⟩ := HY.out.line hin hhi hpl
              subst hj
              clear HY
              rcases hln with h10 | ⟨h13, h10⟩
              · have t10 := byte_eq h10 (n := 10) rfl
                have l32 : ¬ 32 ≤ ((pk B (o + y)).toNat : Int) := by rw [h10]; decide
                clear h10 hpl
                generalize pk B (o + y) = c at *
                go_wp2_with fail
                go_quiet (fail)
                all_goals go_wp2_with fail
                all_goals
                  go_ret3
                  exact ⟨⟨_, _, rfl, _, _, _, rfl, by omega, by omega, by omega, by omega⟩, q + nq, by first | rfl | exact World.drewN_drewN _ _ _⟩
              · have t13 := byte_eq h13 (n := 13) rfl
                have t10 : (((pk B (o + y)).toNat : Int) == 10) = false := by rw [h13]; decide
                have l32 : ¬ 32 ≤ ((pk B (o + y)).toNat : Int) := by rw [h13]; decide
                have hin2 : o + (y + 1) < B.length := pk_in (by rw [show o + (y + 1) = o + y + 1 by omega, h10]; decide)
                have hc2 := (HD.out q).pk hin2
                rw [show pk B (o + (y + 1)) = 10 from h10] at hc2
                have hyn1 : y + 1 < n := by omega
                clear h13 h10 hpl
                generalize pk B (o + y) = c at *
                go_wp2_with fail
                go_quiet (fail)
                all_goals go_wp2_with fail
                all_goals
                  go_ret3
                  exact ⟨⟨_, _, rfl, _, _, _, rfl, by omega, by omega, by omega, by omega⟩, q + nq, by first | rfl | exact World.drewN_drewN _ _ _⟩
        · have hj : o + y = j := by
            have := HY.out.le (by omega)
            omega
          subst hj
          clear HY
          go_wp2_with fail
          go_quiet (fail)
          all_goals go_wp2_with fail
          all_goals
            go_ret3
            exact ⟨⟨_, _, rfl, _, _, _, rfl, by omega, by omega, by omega, by omega⟩, q + nq, by first | rfl | exact World.drewN_drewN _ _ _⟩
    · have hj : o + y0 = j := by
        have := HY.out.le (by omega)
        omega
      subst hj
      clear HY
      go_wp2_with fail
      go_quiet (fail)
      all_goals go_wp2_with fail
      all_goals
        go_ret3
        exact ⟨⟨_, _, rfl, _, _, _, rfl, by omega, by omega, by omega, by omega⟩, q + nq, by first | rfl | exact World.drewN_drewN _ _ _⟩
end Go.Proofs.YtalmpddmhakdmaaGreat

/-
  Plain: how much of a text has been read; what a scan of a text hands back. Conditions: as each lemma states.
-/
namespace Go.Proofs.YtalmpddmhakdmaaGreat
open Go.RowKit

theorem cut_add (B : List UInt8) (i a n : Nat) : cutB B i a ++ cutB B (i + a) n = cutB B i (a + n) := by
  unfold cutB
  rw [List.take_add, List.drop_drop]
theorem cut_len {B : List UInt8} {i n : Nat} (h : i + n ≤ B.length) : (cutB B i n).length = n := by
  unfold cutB
  rw [List.length_take, List.length_drop]
  omega
theorem cut_get {B : List UInt8} {i n j : Nat} {x : UInt8} (h : (cutB B i n)[j]? = some x) : B[i + j]? = some x ∧ j < n := by
  unfold cutB at h
  rw [List.getElem?_take] at h
  split at h
  · rw [List.getElem?_drop] at h
    exact ⟨h, by assumption⟩
  · cases h
/-- So much of a text has been read as it stands; from here on it goes on as R says. -/
def Trk (B : List UInt8) (R : Nat → List UInt8 → Prop) (i0 i : Nat) (t : List UInt8) : Prop := i0 ≤ i ∧ ∃ u, R i u ∧ t = cutB B i0 (i - i0) ++ u
theorem Trk.start {B : List UInt8} {R : Nat → List UInt8 → Prop} {i : Nat} {t : List UInt8} (h : R i t) : Trk B R i i t := ⟨Nat.le_refl _, t, h, by rw [Nat.sub_self]; rfl⟩
theorem Trk.go {B : List UInt8} {R : Nat → List UInt8 → Prop} {i0 i n : Nat} {t : List UInt8} (h : Trk B R i0 i t) (hs : ∀ u, R i u → ∃ u', u = cutB B i n ++ u' ∧ R (i + n) u') : Trk B R i0 (i + n) t := by
  obtain ⟨hle, u, hu, rfl⟩ := h
  obtain ⟨u', rfl, hr⟩ := hs u hu
  refine ⟨by omega, u', hr, ?_⟩
  rw [← List.append_assoc]
  have := cut_add B i0 (i - i0) n
  rw [show i0 + (i - i0) = i by omega] at this
  rw [this, show i - i0 + n = i + n - i0 by omega]
/-- A sign of a text in one line. -/
theorem TxR.step {q : UInt8} {B : List UInt8} {i j : Nat} {u : List UInt8} (h : TxR q B i j u) (h1 : pk B i ≠ q) (h2 : ¬ (pk B i = 92 ∧ q = 34)) : 0 < sgN B i ∧ ∃ u', u = cutB B i (sgN B i) ++ u' ∧ TxR q B (i + sgN B i) j u' := by
  cases h with
  | stop _ h => exact absurd h h1
  | esc _ _ h3 h4 _ _ => exact absurd ⟨h3, h4⟩ h2
  | sgn _ _ _ h3 h4 => exact ⟨h3, _, rfl, h4⟩
theorem TxR.plain {q : UInt8} {B : List UInt8} {i j : Nat} {u : List UInt8} (h : TxR q B i j u) (h1 : pk B i ≠ q) (h2 : ¬ (pk B i = 92 ∧ q = 34)) (hp : pk B i = 9 ∨ (32 ≤ (pk B i).toNat ∧ (pk B i).toNat < 127)) : ∃ u', u = cutB B i 1 ++ u' ∧ TxR q B (i + 1) j u' := by
  have := (h.step h1 h2).2
  rwa [sgN_plain hp] at this
theorem TxR.end {q : UInt8} {B : List UInt8} {i j : Nat} {u : List UInt8} (h : TxR q B i j u) (h1 : pk B i = q) : j = i + 1 ∧ u = [] := by
  cases h with
  | stop => exact ⟨rfl, rfl⟩
  | esc _ h _ _ _ _ => exact absurd h1 h
  | sgn _ h _ _ _ => exact absurd h1 h
theorem TxR.in {q : UInt8} {B : List UInt8} {i j : Nat} {u : List UInt8} (h : TxR q B i j u) : i < B.length := by
  cases h <;> assumption
theorem TxR.eight {q : UInt8} {B : List UInt8} {i j : Nat} {u : List UInt8} (h : TxR q B i j u) (hp : ∀ k, k < 8 → 32 ≤ (pk B (i + k)).toNat ∧ (pk B (i + k)).toNat < 127 ∧ pk B (i + k) ≠ q ∧ ¬ (pk B (i + k) = 92 ∧ q = 34)) :
    ∃ u', u = cutB B i 8 ++ u' ∧ TxR q B (i + 8) j u' := by
  have key : ∀ n, n ≤ 8 → ∃ u', u = cutB B i n ++ u' ∧ TxR q B (i + n) j u' := fun n => by
    induction n with
    | zero => exact fun _ => ⟨u, rfl, h⟩
    | succ n ih =>
      intro hn
      obtain ⟨u', rfl, hr⟩ := ih (by omega)
      have hk := hp n (by omega)
      obtain ⟨u2, rfl, hr2⟩ := hr.plain hk.2.2.1 hk.2.2.2 (.inr ⟨hk.1, hk.2.1⟩)
      exact ⟨u2, by rw [← List.append_assoc, cut_add], hr2⟩
  exact key 8 (Nat.le_refl _)
theorem TxR.run {q : UInt8} {B : List UInt8} {i j : Nat} {u : List UInt8} (hq : q.toNat < 128) (h : TxR q B i j u) : ∃ k, Rn B i k ∧ ∃ u', u = cutB B i (k - i) ++ u' ∧ TxR q B k j u' := by
  induction h with
  | stop h1 h2 =>
    exact ⟨_, .stop (Nat.le_of_lt h1) (.inr (by rw [h2]; exact hq)), [], by rw [Nat.sub_self]; rfl, .stop h1 h2⟩
  | esc h1 h2 h3 h4 h5 h6 ih =>
    exact ⟨_, .stop (Nat.le_of_lt h1) (.inr (by rw [h3]; decide)), _, by rw [Nat.sub_self]; rfl, .esc h1 h2 h3 h4 h5 h6⟩
  | sgn h1 h2 h3 h4 h5 ih =>
    rename_i i j u
    rcases Nat.lt_or_ge (pk B i).toNat 128 with hp | hp
    · exact ⟨i, .stop (Nat.le_of_lt h1) (.inr hp), _, by rw [Nat.sub_self]; rfl, .sgn h1 h2 h3 h4 h5⟩
    · have hs := sgN_high hp
      obtain ⟨k, g1, u', g2, g3⟩ := ih
      have hk := g1.lt.1
      refine ⟨k, .step h1 hp (by omega) (by rwa [← hs]), u', ?_, g3⟩
      rw [g2, ← List.append_assoc]
      have := cut_add B i (sgN B i) (k - (i + sgN B i))
      rw [show sgN B i + (k - (i + sgN B i)) = k - i by omega] at this
      rw [← this]
      rfl

/-- A slice of the text, of which the place is told. -/
def RawAt (C : Nat) (B : List UInt8) (v : Value) : Prop := ∃ x l m i, v = .slice x l m ∧ i + m = C ∧ i + l ≤ B.length
/-- A slice reads as a text; in a block of those that nobody writes. -/
def TxtAt (P : Nat → Prop) (w : World) (v : Value) (t : List UInt8) : Prop :=
  ∃ a c, v = .slice (some a) t.length c ∧ (t = [] ∨ P a.block) ∧ ∀ j x, t[j]? = some x → w.cell? (a.add j) = some (.int .u8 (x.toNat : Int))
theorem TxtAt.frame {P Q : Nat → Prop} {w w' : World} {v : Value} {t : List UInt8} (h : TxtAt P w v t) (hb : ∀ b, P b → w'.heap[b]? = w.heap[b]?) (hq : ∀ b, P b → Q b) : TxtAt Q w' v t := by
  obtain ⟨a, c, h1, h2, h3⟩ := h
  rcases h2 with rfl | h2
  · exact ⟨a, c, h1, .inl rfl, fun j x hj => by cases hj⟩
  · exact ⟨a, c, h1, .inr (hq _ h2), fun j x hj => (World.cell?_of_block (w := w) (by rw [add_block]; exact hb _ h2)).trans (h3 j x hj)⟩
theorem TxtAt.piece {w : World} {db : Nat} {B : List UInt8} (hD : Dt w db B) (P : Nat → Prop) (hP : P db) (i n c : Nat) (h : i + n ≤ B.length) : TxtAt P w (.slice (some ⟨db, i, none⟩) n c) (cutB B i n) := by
  refine ⟨⟨db, i, none⟩, c, by rw [cut_len h], .inr hP, fun j x hj => ?_⟩
  have hg := cut_get hj
  have e : (⟨db, i, none⟩ : Addr).add j = ⟨db, i + j, none⟩ := by unfold Addr.add; split <;> simp_all
  rw [e]
  exact hD.data _ _ hg.1
/-- What a scan of a text leaves. -/
def ScP (db C : Nat) (B : List UInt8) (j : Nat) (t : List UInt8) (w : World) (e : Ending) (w' : World) : Prop :=
  ∃ raw val rest, e = .returned (.tuple #[raw, val, rest, .nilIface]) ∧ RawAt C B raw ∧ TxtAt (fun b => b = db ∨ (w.heap.size ≤ b ∧ b < w'.heap.size)) w' val t ∧ At db C B j rest ∧ w.grownBy w' none
theorem ScP.mk {db C : Nat} {B : List UInt8} {j : Nat} {t : List UInt8} {w : World} {e : Ending} {w' : World} (raw val rest : Value) (h : e = .returned (.tuple #[raw, val, rest, .nilIface])) (h1 : RawAt C B raw) (h2 : TxtAt (fun b => b = db ∨ (w.heap.size ≤ b ∧ b < w'.heap.size)) w' val t) (h3 : At db C B j rest) (h4 : w.grownBy w' none) : ScP db C B j t w e w' := ⟨raw, val, rest, h, h1, h2, h3, h4⟩
theorem grown_drewN (w : World) (q : Nat) : w.grownBy (w.drewN q) none := ⟨rfl, rfl, rfl, Nat.le_refl _, fun _ _ _ => rfl⟩
end Go.Proofs.YtalmpddmhakdmaaGreat

/-
  The parser in memory: its cells, its row of nodes; the walks of functions that tell a place. Conditions: the parser lies in memory as stated.
-/
namespace Go.Proofs.YtalmpddmhakdmaaGreat
open Go.RowKit

/-- A node of the parser's row. -/
structure PN where
  kind : Int
  off : Int
  len : Int
  data : Value
  next : Int
  child : Int
/-- Its cells. -/
def PN.cells (pp : Nat) (x : PN) : List Value := [.int .i64 x.kind, .int .u32 x.off, .int .u32 x.len, x.data, .pointer (some ⟨pp, 0, none⟩), .int .i32 x.next, .int .i32 x.child]
/-- The cells of a row of nodes. -/
def arC (pp : Nat) : List PN → List Value
  | [] => []
  | x :: l => x.cells pp ++ arC pp l
theorem arC_len (pp : Nat) (l : List PN) : (arC pp l).length = l.length * 7 := by
  induction l with
  | nil => rfl
  | cons x l ih => rw [arC, List.length_append, ih]; simp [PN.cells]; omega
theorem arC_app (pp : Nat) (l k : List PN) : arC pp (l ++ k) = arC pp l ++ arC pp k := by
  induction l with
  | nil => rfl
  | cons x l ih => rw [List.cons_append, arC, arC, ih, List.append_assoc]
/-- The parser in memory: in block pp; its text in block db; its nodes in a row that is owned. -/
structure PS (w : World) (pp db C : Nat) (B : List UInt8) (nv : Value) (ns : List PN) (g : Int) : Prop where
  dt : Dt w db B
  keep : w.cell? ⟨pp, 0, none⟩ = some (.bool false)
  data : w.cell? ⟨pp, 1, none⟩ = some (.slice (some ⟨db, 0, none⟩) B.length C)
  nodes : w.cell? ⟨pp, 3, none⟩ = some nv
  nest : w.cell? ⟨pp, 5, none⟩ = some (.int .i64 g)
  f3 : w.frozen? ⟨pp, 3, none⟩ = false
  f5 : w.frozen? ⟨pp, 5, none⟩ = false
  own : w.ownsRow 0 60 7 nv ns.length (arC pp ns)
  ne1 : db ≠ pp
  ne2 : nv.ownBlock ≠ some pp
  ne3 : nv.ownBlock ≠ some db
  cap : B.length ≤ C
  capm : C ≤ maxLen
  dbh : db < w.heap.size
  one : ∀ x ∈ ns, x.data.oneCell' = true
  lf : ∃ v, w.cell? ⟨pp, 2, none⟩ = some v
  f2 : w.frozen? ⟨pp, 2, none⟩ = false
  er : w.cell? ⟨pp, 4, none⟩ = some .nilIface
/-- What a function of the parser leaves as it was: all old blocks but the parser's own and its nodes'. -/
structure Fr (w w' : World) (pp : Nat) (nv nv' : Value) : Prop where
  os : w'.os = w.os
  tape : w'.tape = w.tape
  output : w'.output = w.output
  size : w.heap.size ≤ w'.heap.size
  block : ∀ k, k < w.heap.size → k ≠ pp → nv.ownBlock ≠ some k → w'.heap[k]? = w.heap[k]?
  row : nv'.ownBlock = nv.ownBlock ∨ ∀ k, nv'.ownBlock = some k → w.heap.size ≤ k
theorem Fr.refl (w : World) (pp : Nat) (nv : Value) : Fr w w pp nv nv := ⟨rfl, rfl, rfl, Nat.le_refl _, fun _ _ _ _ => rfl, .inl rfl⟩
theorem Fr.trans {w1 w2 w3 : World} {pp : Nat} {v1 v2 v3 : Value} (h : Fr w1 w2 pp v1 v2) (g : Fr w2 w3 pp v2 v3) : Fr w1 w3 pp v1 v3 where
  os := g.os.trans h.os
  tape := g.tape.trans h.tape
  output := g.output.trans h.output
  size := Nat.le_trans h.size g.size
  block := fun k hk hne hne2 => by
    refine (g.block k (Nat.lt_of_lt_of_le hk h.size) hne ?_).trans (h.block k hk hne hne2)
    rcases h.row with e | e
    · rw [e]; exact hne2
    · intro e2
      have := e k e2
      omega
  row := by
    rcases g.row with e | e
    · rw [e]; exact h.row
    · exact .inr fun k hk => Nat.le_trans h.size (e k hk)
theorem Fr.grown {w w' : World} (pp : Nat) (nv : Value) (h : w.grownBy w' none) : Fr w w' pp nv nv := ⟨h.os, h.tape, h.output, h.size, fun k hk _ _ => h.block k hk (by simp), .inl rfl⟩
theorem PS.in_heap {w : World} {pp db C : Nat} {B : List UInt8} {nv : Value} {ns : List PN} {g : Int} (h : PS w pp db C B nv ns g) : pp < w.heap.size ∧ (B ≠ [] → db < w.heap.size) :=
  ⟨cell_lt h.keep, fun hne => by
    obtain ⟨c, l, rfl⟩ := List.exists_cons_of_ne_nil hne
    exact cell_lt (h.dt.data 0 c rfl)⟩
/-- The parser is as it was where only new blocks have been made. -/
theorem PS.grown {w w' : World} {pp db C : Nat} {B : List UInt8} {nv : Value} {ns : List PN} {g : Int} (h : PS w pp db C B nv ns g) (hg : w.grownBy w' none) : PS w' pp db C B nv ns g := by
  have hb : w'.heap[pp]? = w.heap[pp]? := hg.block pp h.in_heap.1 (by simp)
  have hc : ∀ j v, w.cell? ⟨pp, j, none⟩ = some v → w'.cell? ⟨pp, j, none⟩ = some v := fun j v hv => (World.cell?_of_block (w := w) hb).trans hv
  exact ⟨h.dt.of fun hne => hg.block db (h.in_heap.2 hne) (by simp), hc _ _ h.keep, hc _ _ h.data, hc _ _ h.nodes, hc _ _ h.nest, (World.frozen?_of_block (w := w) hb).trans h.f3, (World.frozen?_of_block (w := w) hb).trans h.f5,
    World.ownsRow.kept h.own hg (by
      rcases hv : nv.ownBlock with _ | k
      · exact .inl rfl
      · exact .inr (by simp)), h.ne1, h.ne2, h.ne3, h.cap, h.capm, Nat.lt_of_lt_of_le h.dbh hg.size, h.one, h.lf.elim fun v hv => ⟨v, hc _ _ hv⟩, (World.frozen?_of_block (w := w) hb).trans h.f2, hc _ _ h.er⟩

theorem PN.cells_one {pp : Nat} {x : PN} (hx : x.data.oneCell' = true) : ∀ u ∈ x.cells pp, u.oneCell' = true := by
  intro u hu
  simp [PN.cells] at hu
  rcases hu with rfl | rfl | rfl | rfl | rfl | rfl | rfl <;> first | rfl | exact hx
theorem arC_one (pp : Nat) (l : List PN) (h : ∀ x ∈ l, x.data.oneCell' = true) : ∀ u ∈ arC pp l, u.oneCell' = true := by
  induction l with
  | nil => intro u hu; simp [arC] at hu
  | cons x l ih =>
    intro u hu
    rw [arC, List.mem_append] at hu
    rcases hu with hu | hu
    · exact PN.cells_one (h x (by simp)) u hu
    · exact ih (fun y hy => h y (by simp [hy])) u hu
/-- Where the row's cells lie. -/
theorem PS.src {w : World} {pp db C k cap : Nat} {B : List UInt8} {sp : Option Addr} {ns : List PN} {g : Int} (h : PS w pp db C B (.slice sp k cap) ns g) :
    (sp = none ∧ arC pp ns = []) ∨ ∃ a, sp = some a ∧ ∀ j v, (arC pp ns)[j]? = some v → w.cell? (a.add j) = some v := by
  rcases h.own.2 with ⟨h1, h2⟩ | ⟨gb, c2, cur, h1, _, h3, h4, h5, h6, h7⟩
  · cases h1
    exact .inl ⟨rfl, by rw [List.length_eq_zero_iff.mp h2]; rfl⟩
  · cases h1
    refine .inr ⟨_, rfl, fun j v hj => ?_⟩
    have e : (⟨gb, 0, none⟩ : Addr).add j = ⟨gb, j, none⟩ := by unfold Addr.add; split <;> simp_all
    rw [e, cell_of_row w gb j _ _ _ h3]
    rw [← h7, List.getElem?_take] at hj
    split at hj
    · simpa using hj
    · cases hj

set_option maxHeartbeats 1000000 in
theorem range_any {w : World} {pp db C : Nat} {B : List UInt8} {nv : Value} {ns : List PN} {g : Int} {v : Value} (hP : PS w pp db C B nv ns g) (hv : RawAt C B v) :
    Calls Tryz.prog 39 #[.pointer (some ⟨pp, 0, none⟩), v] w fun e w' => (∃ x l : Int, e = .returned (.agg #[.int .u32 x, .int .u32 l])) ∧ w.grownBy w' none := by
  obtain ⟨x, l, m, i, rfl, h1, h2⟩ := hv
  have hd := hP.data
  have hl := hP.dt.len
  have hcap := hP.cap
  have hin := hP.in_heap.1
  have hm : C ≤ 9223372036854775807 := by have := hP.capm; simp [maxLen] at this; omega
  have hs1 : decide ((C : Int) - (m : Int) < 0) = false := by simp; omega
  clear hP
  go_enter Tryz.func39, Tryz.ntmps39
  go_wp2_with fail
  exact bodyPost_ret (v := .agg #[.int .u32 ((C : Int) - (m : Int)), .int .u32 (l : Int)]) (by simp [results, Tryz.results39, go_sem]) rfl ⟨⟨_, _, rfl⟩, World.grownBy_alloc w _ none⟩
end Go.Proofs.YtalmpddmhakdmaaGreat

/-
  The walk of a function of the parser: a text in one line, in single quotes. Conditions: the text lies in memory as stated.
-/
namespace Go.Proofs.YtalmpddmhakdmaaGreat
open Go.RowKit

theorem Rn.uniq {B : List UInt8} {i j k : Nat} (h : Rn B i j) (g : Rn B i k) : j = k := by
  induction h with
  | stop h1 h2 =>
    cases g with
    | stop => rfl
    | step g1 g2 _ _ => omega
  | step h1 h2 h3 h4 ih =>
    cases g with
    | stop g1 g2 => omega
    | step _ _ _ g4 => exact ih g4

set_option maxRecDepth 100000 in
set_option maxHeartbeats 4000000 in
theorem literal_any {w : World} {db C : Nat} {B : List UInt8} {o n m j : Nat} {t : List UInt8} (pv : Value) (hD : Dt w db B) (h1 : o + n = B.length) (h2 : n ≤ m) (h3 : o + m = C) (hr : TxR 39 B (o + 1) j t) :
    Calls Tryz.prog 76 #[pv, .slice (some ⟨db, o, none⟩) n m] w (ScP db C B j t w) := by
  have ho : o + 1 < B.length := hr.in
  have HD := Lib.hid (fun q => hD.drewN q)
  have HR := Lib.hid (Trk.start (B := B) (R := fun i u => TxR 39 B i j u) hr)
  have hl := hD.len
  clear hD hr
  go_enter Tryz.func76, Tryz.ntmps76
  go_wp2_with fail
  go_loopw [8] (fun v wr => ∃ y q : Nat, v = .int .i64 y ∧ wr = w.drewN q ∧ 1 ≤ y ∧ Trk B (fun i u => TxR 39 B i j u) (o + 1) (o + y) t ∧ y ≤ n) (fun v _ => B.length - (intOf v).toNat)
  case atStart => exact ⟨1, 0, rfl, rfl, Nat.le_refl _, HR.out, by omega⟩
  case round =>
    obtain ⟨y0, q0, rfl, rfl, hy1, hy, hyn⟩ := hrel
    have HY := Lib.hid hy
    clear hy HR
    go_upto_block 2 with fail
    go_cut [8] (fun v wx => ∃ y q : Nat, v = .int .i64 y ∧ wx = w.drewN q ∧ Trk B (fun i u => TxR 39 B i j u) (o + 1) (o + y) t ∧ y ≤ n ∧ y0 ≤ y)
    case first =>
      go_wp2_with fail
      go_loopw [8] (fun v wr => ∃ y q : Nat, v = .int .i64 y ∧ wr = w.drewN q ∧ Trk B (fun i u => TxR 39 B i j u) (o + 1) (o + y) t ∧ y ≤ n ∧ y0 ≤ y) (fun v _ => B.length - (intOf v).toNat)
      case atStart => exact ⟨y0, q0, rfl, rfl, HY.out, hyn, Nat.le_refl _⟩
      case round =>
        obtain ⟨y2, q2, rfl, rfl, hy2, hyn2, hyy⟩ := hrel
        have HY2 := Lib.hid hy2
        clear hy2 HY
        by_cases h8 : y2 + 8 ≤ n
        · have hmy : ¬ m = y2 := by omega
          have HLE := Lib.hid (fun (a b : Nat) (hb : 8 ≤ a) => le_B (HD.out q2) (o + y2) a b (by omega) hb)
          obtain ⟨W, hW⟩ : ∃ W : Int, ((octB B (o + y2)).word : Int) = W := ⟨_, rfl⟩
          rw [hW] at HLE
          have HBE := Lib.hid (fun (V : World) => below_any V W 32)
          have HEQ39 := Lib.hid (fun (V : World) => equal_any V W 39)
          have HEQ127 := Lib.hid (fun (V : World) => equal_any V W 127)
          have HW := Lib.hid hW
          clear hW
          go_wp2_with fail
          with_reducible refine (HLE.out _ _ (by omega)).mono ?_
          rintro e w' ⟨rfl, q3, rfl⟩
          go_wp2_with fail
          with_reducible refine (HBE.out _).mono ?_
          rintro e w' ⟨rfl, rfl⟩
          go_wp2_with fail
          with_reducible refine (HEQ39.out _).mono ?_
          rintro e w' ⟨rfl, rfl⟩
          go_wp2_with fail
          with_reducible refine (HEQ127.out _).mono ?_
          rintro e w' ⟨rfl, rfl⟩
          by_cases ht : tst4 W 39 = 0
          · have t1 : (bits BinOp.or IntKind.u64 (bits BinOp.or IntKind.u64 (bits BinOp.or IntKind.u64 (bits BinOp.and IntKind.u64 W 9259542123273814144) (belowW W 32)) (equalW W 39)) (equalW W 127) != 0) = false := by simpa [tst4] using ht
            have HT := Lib.hid (tst4_zero (octB B (o + y2)) 39 (by decide) (by rw [HW.out]; exact ht))
            clear ht
            go_wp2_with fail
            exact ⟨⟨y2 + 8, q2 + q3, rfl, rfl, HY2.out.go fun u hu => hu.eight fun k hk => by
                have h1 := oct_at HT.out k hk
                refine ⟨h1.1, h1.2.1, fun e => ?_, fun e => ?_⟩
                · rw [e] at h1; revert h1; decide
                · exact absurd e.2 (by decide), h8, by omega⟩, by show B.length - (intOf (.int .i64 ((y2 : Int) + 8 : Int))).toNat < B.length - (intOf (.int .i64 (y2 : Int))).toNat; simp only [intOf]; omega⟩
          · have t1 : (bits BinOp.or IntKind.u64 (bits BinOp.or IntKind.u64 (bits BinOp.or IntKind.u64 (bits BinOp.and IntKind.u64 W 9259542123273814144) (belowW W 32)) (equalW W 39)) (equalW W 127) != 0) = true := by simpa [tst4] using ht
            clear ht
            go_wp2_with fail
            go_meet
            exact ⟨y2, q2 + q3, rfl, rfl, HY2.out, hyn2, hyy⟩
        · go_wp2_with fail
          go_meet
          exact ⟨y2, q2, rfl, rfl, HY2.out, hyn2, hyy⟩
    case rest =>
      clear HY hyn
      obtain ⟨y, q, rfl, rfl, hy, hyn, hyy⟩ := hcut
      have hin : o + y < B.length := by
        obtain ⟨_, u, hu, _⟩ := hy
        exact hu.in
      have HY := Lib.hid hy
      have hyn' : y < n := by omega
      have hc := (HD.out q).pk hin
      clear hy hyn
      by_cases hqq : pk B (o + y) = 39
      · have hfin : j = o + y + 1 ∧ t = cutB B (o + 1) (y - 1) := by
          obtain ⟨_, u, hu, ht⟩ := HY.out
          have he := hu.end hqq
          rw [he.2, List.append_nil] at ht
          exact ⟨he.1, by rw [ht]; congr 1; omega⟩
        obtain ⟨rfl, ht⟩ := hfin
        have HT := Lib.hid ht
        have t1 := byte_eq hqq (n := 39) rfl
        have hyn2 : y + 1 ≤ n := by omega
        have hy1' : 1 ≤ y := by omega
        clear HY ht
        generalize pk B (o + y) = c at *
        go_wp2_with fail
        go_quiet (fail)
        all_goals go_wp2_with fail
        all_goals
          (try simp only [Exit.inBlock, Exit.then])
          refine bodyPost_ret (results_tmp4 rfl _ _ _) rfl ?_
          have htx := fun c' => TxtAt.piece (HD.out (q + nq)) (fun b => b = db ∨ (w.heap.size ≤ b ∧ b < (w.drewN (q + nq)).heap.size)) (.inl rfl) (o + 1) (y - 1) c' (by omega)
          rw [← HT.out] at htx
          exact ScP.mk _ _ _ rfl ⟨_, _, _, o, rfl, by omega, by omega⟩ (htx _) ⟨_, _, _, rfl, by omega, by omega, by omega, by omega⟩ (grown_drewN w (q + nq))
      · have t1 := byte_ne hqq (n := 39) rfl
        obtain ⟨hsg, hst⟩ : 0 < sgN B (o + y) ∧ True := by
          obtain ⟨_, u, hu, _⟩ := HY.out
          exact ⟨(hu.step hqq (fun e => absurd e.2 (by decide))).1, trivial⟩
        clear hst
        by_cases hhi : 128 ≤ (pk B (o + y)).toNat
        · obtain ⟨k, hk1, hk2⟩ : ∃ k, Rn B (o + y) k ∧ Trk B (fun i u => TxR 39 B i j u) (o + 1) k t := by
            obtain ⟨h0, u, hu, ht⟩ := HY.out
            obtain ⟨k, g1, _⟩ := hu.run (by decide)
            refine ⟨k, g1, ?_⟩
            have hle := g1.lt.1
            have := Trk.go (n := k - (o + y)) HY.out fun u hu => by
              obtain ⟨k', g1', u', g2', g3'⟩ := hu.run (by decide)
              have : k' = k := Rn.uniq g1' g1
              subst this
              exact ⟨u', g2', by rwa [show o + y + (k' - (o + y)) = k' by omega]⟩
            rwa [show o + y + (k - (o + y)) = k by omega] at this
          have hk5 := hk1.lt.2.2 hin hhi
          have hk4 := hk1.lt.2.1
          have HRUN := Lib.hid (run_any (m := m) (HD.out q) h1 hk1)
          have HK := Lib.hid hk2
          clear hk1 hk2 HY hsg hqq
          generalize pk B (o + y) = c at *
          have t9 : ((c.toNat : Int) == 9) = false := by simp; omega
          have t10 : ((c.toNat : Int) == 10) = false := by simp; omega
          have t13 : ((c.toNat : Int) == 13) = false := by simp; omega
          go_wp2_with fail
          with_reducible refine HRUN.out.mono ?_
          rintro e w' ⟨⟨y3, rfl, hy3⟩, rfl⟩
          subst hy3
          go_wp2_with fail
          exact ⟨⟨y3, q, rfl, rfl, by omega, HK.out, by omega⟩, by show B.length - (intOf (.int .i64 (y3 : Int))).toNat < B.length - (intOf (.int .i64 (y0 : Int))).toNat; simp only [intOf]; omega⟩
        · have hpl := (sgN_cases hsg).resolve_right hhi
          have HK := Lib.hid (HY.out.go (n := 1) fun u hu => hu.plain hqq (fun e => absurd e.2 (by decide)) hpl)
          clear HY hsg
          by_cases h9 : pk B (o + y) = 9
          · have t9 := byte_eq h9 (n := 9) rfl
            have l32 : ¬ 32 ≤ ((pk B (o + y)).toNat : Int) := by rw [h9]; decide
            clear h9 hpl hhi hqq
            generalize pk B (o + y) = c at *
            go_wp2_with fail
            exact ⟨⟨y + 1, q, rfl, rfl, by omega, HK.out, by omega⟩, by show B.length - (intOf (.int .i64 ((y : Int) + 1 : Int))).toNat < B.length - (intOf (.int .i64 (y0 : Int))).toNat; simp only [intOf]; omega⟩
          · have hb := hpl.resolve_left h9
            clear h9 hpl hhi hqq
            generalize pk B (o + y) = c at *
            go_wp2_with fail
            exact ⟨⟨y + 1, q, rfl, rfl, by omega, HK.out, by omega⟩, by show B.length - (intOf (.int .i64 ((y : Int) + 1 : Int))).toNat < B.length - (intOf (.int .i64 (y0 : Int))).toNat; simp only [intOf]; omega⟩

end Go.Proofs.YtalmpddmhakdmaaGreat

/-
  The walk of a function of the parser: a word. Conditions: the text lies in memory as stated.
-/
namespace Go.Proofs.YtalmpddmhakdmaaGreat
open Go.RowKit

/-- What a scan of a value without quotes leaves: its kind, the value as it stands. -/
def KdP (db C : Nat) (B : List UInt8) (i j : Nat) (kd : Int) (w : World) (e : Ending) (w' : World) : Prop :=
  ∃ raw val rest, e = .returned (.tuple #[.int .i64 kd, raw, val, rest, .nilIface]) ∧ RawAt C B raw ∧ TxtAt (fun b => b = db) w' raw (cutB B i (j - i)) ∧ At db C B j rest ∧ w.grownBy w' none
theorem KdP.mk {db C : Nat} {B : List UInt8} {i j : Nat} {kd : Int} {w : World} {e : Ending} {w' : World} (raw val rest : Value) (h : e = .returned (.tuple #[.int .i64 kd, raw, val, rest, .nilIface])) (h1 : RawAt C B raw) (h2 : TxtAt (fun b => b = db) w' raw (cutB B i (j - i))) (h3 : At db C B j rest) (h4 : w.grownBy w' none) : KdP db C B i j kd w e w' := ⟨raw, val, rest, h, h1, h2, h3, h4⟩
theorem Dt.conv {w : World} {db : Nat} {B : List UInt8} (hD : Dt w db B) (i n c : Nat) (h : i + n ≤ B.length) (s : ByteArray) (hs : s.toList = cutB B i n) : (convert 22 9 (.slice (some ⟨db, i, none⟩) n c)).run Tryz.prog w = .ok (.string s) w := by
  have e : s = ⟨(cutB B i n).toArray⟩ := by
    rw [← hs, ByteArray.toList_eq]
  rw [e]
  refine run_conv _ _ _ _ (cut_len h) fun j x hj => ?_
  have hg := cut_get hj
  have e2 : (⟨db, i, none⟩ : Addr).add j = ⟨db, i + j, none⟩ := by unfold Addr.add; split <;> simp_all
  rw [e2]
  exact hD.data _ _ hg.1

theorem TxtAt.part {w : World} {db : Nat} {B : List UInt8} (hD : Dt w db B) {i j n c : Nat} (hn : n = j - i) (hij : i ≤ j) (hj : j ≤ B.length) : TxtAt (fun b => b = db) w (.slice (some ⟨db, i, none⟩) n c) (cutB B i (j - i)) := by
  subst hn
  exact TxtAt.piece hD (fun b => b = db) rfl i (j - i) c (by omega)

set_option maxRecDepth 100000 in
set_option maxHeartbeats 2000000 in
theorem keyword_any {w : World} {db C : Nat} {B : List UInt8} {o n m : Nat} (kw : ByteArray) (kd : Int) (hD : Dt w db B) (h1 : o + n = B.length) (h2 : n ≤ m) (h3 : o + m = C) (hk : kw.size ≤ n) (hk0 : 0 < kw.size) (hkw : kw.toList = cutB B o kw.size) :
    Calls Tryz.prog 86 #[.slice (some ⟨db, o, none⟩) n m, .string kw, .int .i64 kd] w (KdP db C B o (o + kw.size) kd w) := by
  have HD := Lib.hid hD
  have hl := hD.len
  have hcv := fun c => hD.conv o kw.size c (by omega) kw hkw
  obtain ⟨l, hkl⟩ : ∃ l, kw.size = l := ⟨_, rfl⟩
  rw [hkl] at hk hk0 hcv ⊢
  clear hD hkw
  go_enter Tryz.func86, Tryz.ntmps86
  go_wp2_with fail
  go_quiet (fail)
  all_goals go_wp2_with fail
  all_goals
    (try simp only [Exit.inBlock, Exit.then])
    refine bodyPost_ret (results_tmp5 rfl _ _ _) rfl ?_
    exact KdP.mk _ _ _ rfl ⟨_, _, _, o, rfl, by omega, by omega⟩ (TxtAt.part (HD.out.drewN nq) (by omega) (by omega) (by omega)) ⟨_, _, _, rfl, by omega, by omega, by omega, by omega⟩ (grown_drewN w nq)
end Go.Proofs.YtalmpddmhakdmaaGreat

/-
  The walks of functions of the parser: which bytes are figures of a base, which may stand in a key. Conditions: as stated.
-/
namespace Go.Proofs.YtalmpddmhakdmaaGreat
open Go.RowKit

/-- A function of a byte that tells whether it is a figure of a base; it changes nothing. -/
def FigF (f : FuncId) (base : Nat) : Prop := ∀ (w : World) (c : UInt8), Calls Tryz.prog f #[.int .u8 (c.toNat : Int)] w fun e w' => e = .returned (.bool (decide (vD c < base))) ∧ w' = w
theorem vD_ten (c : UInt8) : vD c < 10 ↔ 48 ≤ c.toNat ∧ c.toNat ≤ 57 := by
  unfold vD
  by_cases h : 48 ≤ c.toNat ∧ c.toNat ≤ 57
  · rw [if_pos h]; omega
  · rw [if_neg h]
    by_cases h2 : 97 ≤ c.toNat ∧ c.toNat ≤ 102
    · rw [if_pos h2]; omega
    · rw [if_neg h2]
      by_cases h3 : 65 ≤ c.toNat ∧ c.toNat ≤ 70
      · rw [if_pos h3]; omega
      · rw [if_neg h3]; omega
theorem vD_low (c : UInt8) (b : Nat) (hb : b ≤ 10) : vD c < b ↔ 48 ≤ c.toNat ∧ c.toNat < 48 + b := by
  by_cases h : 48 ≤ c.toNat ∧ c.toNat ≤ 57
  · unfold vD
    rw [if_pos h]
    omega
  · have := mt (vD_ten c).1 h
    omega
theorem vD_hex (c : UInt8) : vD c < 16 ↔ (48 ≤ c.toNat ∧ c.toNat ≤ 57) ∨ (97 ≤ c.toNat ∧ c.toNat ≤ 102) ∨ (65 ≤ c.toNat ∧ c.toNat ≤ 70) := by
  unfold vD
  by_cases h : 48 ≤ c.toNat ∧ c.toNat ≤ 57
  · rw [if_pos h]; omega
  · rw [if_neg h]
    by_cases h2 : 97 ≤ c.toNat ∧ c.toNat ≤ 102
    · rw [if_pos h2]; omega
    · rw [if_neg h2]
      by_cases h3 : 65 ≤ c.toNat ∧ c.toNat ≤ 70
      · rw [if_pos h3]; omega
      · rw [if_neg h3]; omega
theorem digit_any : FigF 90 10 := by
  intro w c
  by_cases h : vD c < 10
  · rw [decide_eq_true h]
    obtain ⟨h1, h2⟩ := (vD_ten c).1 h
    have d57 : decide ((c.toNat : Int) ≤ 57) = true := by simp; omega
    clear h
    go_enter Tryz.func90, Tryz.ntmps90
    go_wp2_with fail
    go_ret
    exact ⟨rfl, rfl⟩
  · rw [decide_eq_false h]
    have hr : c.toNat < 48 ∨ 57 < c.toNat := by have := mt (vD_ten c).2 h; omega
    clear h
    rcases hr with h | h
    · go_enter Tryz.func90, Tryz.ntmps90
      go_wp2_with fail
      go_ret
      exact ⟨rfl, rfl⟩
    · have d57 : decide ((c.toNat : Int) ≤ 57) = false := by simp; omega
      go_enter Tryz.func90, Tryz.ntmps90
      go_wp2_with fail
      go_ret
      exact ⟨rfl, rfl⟩
theorem octal_any : FigF 97 8 := by
  intro w c
  by_cases h : vD c < 8
  · rw [decide_eq_true h]
    obtain ⟨h1, h2⟩ := (vD_low c 8 (by decide)).1 h
    have h3 : c.toNat ≤ 55 := by omega
    have d55 : decide ((c.toNat : Int) ≤ 55) = true := by simp; omega
    clear h h2
    go_enter Tryz.func97, Tryz.ntmps97
    go_wp2_with fail
    go_ret
    exact ⟨rfl, rfl⟩
  · rw [decide_eq_false h]
    have hr : c.toNat < 48 ∨ 55 < c.toNat := by have := mt (vD_low c 8 (by decide)).2 h; omega
    clear h
    rcases hr with h | h
    · go_enter Tryz.func97, Tryz.ntmps97
      go_wp2_with fail
      go_ret
      exact ⟨rfl, rfl⟩
    · have d57 : decide ((c.toNat : Int) ≤ 55) = false := by simp; omega
      go_enter Tryz.func97, Tryz.ntmps97
      go_wp2_with fail
      go_ret
      exact ⟨rfl, rfl⟩
theorem binary_any : FigF 98 2 := by
  intro w c
  have hv := vD_low c 2 (by decide)
  by_cases h48 : c.toNat = 48
  · rw [decide_eq_true (hv.2 (by omega))]
    have t : ((c.toNat : Int) == 48) = true := by simp; omega
    clear hv h48
    go_enter Tryz.func98, Tryz.ntmps98
    go_wp2_with fail
    go_ret
    exact ⟨rfl, rfl⟩
  · have t : ((c.toNat : Int) == 48) = false := by simp; omega
    by_cases h49 : c.toNat = 49
    · rw [decide_eq_true (hv.2 (by omega))]
      have t2 : ((c.toNat : Int) == 49) = true := by simp; omega
      clear hv h48 h49
      go_enter Tryz.func98, Tryz.ntmps98
      go_wp2_with fail
      go_ret
      exact ⟨rfl, rfl⟩
    · rw [decide_eq_false (fun h => by have := hv.1 h; omega)]
      have t2 : ((c.toNat : Int) == 49) = false := by simp; omega
      clear hv h48 h49
      go_enter Tryz.func98, Tryz.ntmps98
      go_wp2_with fail
      go_ret
      exact ⟨rfl, rfl⟩
theorem hex_any : FigF 96 16 := by
  intro w c
  have HDG := Lib.hid (fun (W : World) => digit_any W c)
  by_cases h : vD c < 16
  · rw [decide_eq_true h]
    have hr := (vD_hex c).1 h
    clear h
    rcases hr with ⟨h1, h2⟩ | ⟨h1, h2⟩ | ⟨h1, h2⟩
    · have HD2 := Lib.hid (fun (W : World) => (by have := HDG.out W; rwa [decide_eq_true ((vD_ten c).2 ⟨h1, h2⟩)] at this : Calls Tryz.prog 90 #[.int .u8 (c.toNat : Int)] W fun e w' => e = .returned (.bool true) ∧ w' = W))
      clear HDG
      go_enter Tryz.func96, Tryz.ntmps96
      go_wp2_with fail
      with_reducible refine (HD2.out _).mono ?_
      rintro e w' ⟨rfl, rfl⟩
      go_wp2_with fail
      go_ret
      exact ⟨rfl, rfl⟩
    · have HD2 := Lib.hid (fun (W : World) => (by have := HDG.out W; rwa [decide_eq_false (fun h => by have := (vD_ten c).1 h; omega)] at this : Calls Tryz.prog 90 #[.int .u8 (c.toNat : Int)] W fun e w' => e = .returned (.bool false) ∧ w' = W))
      clear HDG
      go_enter Tryz.func96, Tryz.ntmps96
      go_wp2_with fail
      with_reducible refine (HD2.out _).mono ?_
      rintro e w' ⟨rfl, rfl⟩
      go_wp2_with fail
      go_ret
      exact ⟨rfl, rfl⟩
    · have HD2 := Lib.hid (fun (W : World) => (by have := HDG.out W; rwa [decide_eq_false (fun h => by have := (vD_ten c).1 h; omega)] at this : Calls Tryz.prog 90 #[.int .u8 (c.toNat : Int)] W fun e w' => e = .returned (.bool false) ∧ w' = W))
      have l97 : ¬ 97 ≤ (c.toNat : Int) := by omega
      have d70 : decide ((c.toNat : Int) ≤ 70) = true := by simp; omega
      clear HDG
      go_enter Tryz.func96, Tryz.ntmps96
      go_wp2_with fail
      with_reducible refine (HD2.out _).mono ?_
      rintro e w' ⟨rfl, rfl⟩
      go_wp2_with fail
      go_ret
      exact ⟨rfl, rfl⟩
  · rw [decide_eq_false h]
    have hr := mt (vD_hex c).2 h
    have HD2 := Lib.hid (fun (W : World) => (by have := HDG.out W; rwa [decide_eq_false (fun h => hr (.inl ((vD_ten c).1 h)))] at this : Calls Tryz.prog 90 #[.int .u8 (c.toNat : Int)] W fun e w' => e = .returned (.bool false) ∧ w' = W))
    have hr2 : c.toNat < 65 ∨ (70 < c.toNat ∧ c.toNat < 97) ∨ 102 < c.toNat := by omega
    clear HDG h hr
    rcases hr2 with h | ⟨h, h'⟩ | h
    · go_enter Tryz.func96, Tryz.ntmps96
      go_wp2_with fail
      with_reducible refine (HD2.out _).mono ?_
      rintro e w' ⟨rfl, rfl⟩
      go_wp2_with fail
      go_ret
      exact ⟨rfl, rfl⟩
    · have d70 : decide ((c.toNat : Int) ≤ 70) = false := by simp; omega
      go_enter Tryz.func96, Tryz.ntmps96
      go_wp2_with fail
      with_reducible refine (HD2.out _).mono ?_
      rintro e w' ⟨rfl, rfl⟩
      go_wp2_with fail
      go_ret
      exact ⟨rfl, rfl⟩
    · have d70 : decide ((c.toNat : Int) ≤ 70) = false := by simp; omega
      have d102 : decide ((c.toNat : Int) ≤ 102) = false := by simp; omega
      go_enter Tryz.func96, Tryz.ntmps96
      go_wp2_with fail
      with_reducible refine (HD2.out _).mono ?_
      rintro e w' ⟨rfl, rfl⟩
      go_wp2_with fail
      go_ret
      exact ⟨rfl, rfl⟩
end Go.Proofs.YtalmpddmhakdmaaGreat

/-
  Plain: what may stand behind a value. Conditions: as each lemma states.
-/
namespace Go.Proofs.YtalmpddmhakdmaaGreat
open Go.RowKit

/-- Behind a value: blanks, then the end, a remark, the end of a line, a comma, a bracket. -/
def Fol (B : List UInt8) (j : Nat) : Prop := B.length ≤ skp B j ∨ pk B (skp B j) = 35 ∨ pk B (skp B j) = 10 ∨ pk B (skp B j) = 13 ∨ pk B (skp B j) = 44 ∨ pk B (skp B j) = 93 ∨ pk B (skp B j) = 125
/-- The byte behind a value: none, a blank, or one of those. -/
theorem Fol.byte {B : List UInt8} {j : Nat} (h : Fol B j) : B.length ≤ j ∨ pk B j = 32 ∨ pk B j = 9 ∨ pk B j = 35 ∨ pk B j = 10 ∨ pk B j = 13 ∨ pk B j = 44 ∨ pk B j = 93 ∨ pk B j = 125 := by
  cases hb : bl (pk B j) with
  | true =>
    have : pk B j = 32 ∨ pk B j = 9 := by simpa [bl] using hb
    rcases this with h | h
    · exact .inr (.inl h)
    · exact .inr (.inr (.inl h))
  | false =>
    have hs := skp_stop hb
    unfold Fol at h
    rw [hs] at h
    rcases h with h | h | h | h | h | h | h
    · exact .inl h
    all_goals simp [h]
theorem Fol.ne {B : List UInt8} {j : Nat} (h : Fol B j) {c : UInt8} (hc : c ≠ 0 ∧ c ≠ 32 ∧ c ≠ 9 ∧ c ≠ 35 ∧ c ≠ 10 ∧ c ≠ 13 ∧ c ≠ 44 ∧ c ≠ 93 ∧ c ≠ 125) : pk B j ≠ c := by
  intro e
  obtain ⟨h0, h1, h2, h3, h4, h5, h6, h7, h8⟩ := hc
  rcases h.byte with h | h | h | h | h | h | h | h | h
  · rw [pk_out h] at e
    exact h0 e.symm
  all_goals rw [h] at e
  · exact h1 e.symm
  · exact h2 e.symm
  · exact h3 e.symm
  · exact h4 e.symm
  · exact h5 e.symm
  · exact h6 e.symm
  · exact h7 e.symm
  · exact h8 e.symm
/-- Behind a value with a blank stands no figure behind the blank. -/
theorem Fol.blank {B : List UInt8} {j : Nat} (h : Fol B j) (hb : pk B j = 32) : ¬ vD (pk B (j + 1)) < 10 := by
  have hs : skp B j = skp B (j + 1) := skp_more (by rw [hb]; rfl)
  have h1 : Fol B (j + 1) := by
    unfold Fol at h ⊢
    rw [hs] at h
    exact h
  intro hv
  have hz := (vD_ten _).1 hv
  rcases h1.byte with h | h | h | h | h | h | h | h | h
  · rw [pk_out h] at hz
    revert hz
    decide
  all_goals
    rw [h] at hz
    revert hz
    decide
theorem Fol.letter {B : List UInt8} {j : Nat} (h : Fol B j) : ¬ (97 ≤ (pk B j).toNat ∧ (pk B j).toNat ≤ 122) ∧ ¬ (65 ≤ (pk B j).toNat ∧ (pk B j).toNat ≤ 90) := by
  rcases h.byte with h | h | h | h | h | h | h | h | h
  · rw [pk_out h]
    decide
  all_goals
    rw [h]
    decide
theorem Sp.fol {B : List UInt8} {n o : Nat} (h : Sp B n o) (ho : pk B o = 93 ∨ pk B o = 44) : Fol B n := by
  cases h with
  | stop h1 h2 =>
    rcases h1 with ⟨h35, _⟩ | ⟨_, rfl⟩
    · exact .inr (.inl h35)
    · rcases ho with h | h
      · exact .inr (.inr (.inr (.inr (.inr (.inl h)))))
      · exact .inr (.inr (.inr (.inr (.inl h))))
  | more h1 h2 h3 =>
    rcases h1 with ⟨h35, _⟩ | ⟨_, rfl⟩
    · exact .inr (.inl h35)
    · rcases lnN_cases h2 with h | ⟨h, _⟩
      · exact .inr (.inr (.inl h))
      · exact .inr (.inr (.inr (.inl h)))
theorem EndR.fol {B : List UInt8} {n j : Nat} (h : EndR B n j) : Fol B n := by
  obtain ⟨m, hm, h2⟩ := h
  rcases hm with ⟨h35, _⟩ | ⟨_, rfl⟩
  · exact .inr (.inl h35)
  · rcases h2 with ⟨h2, _⟩ | ⟨_, h2, _⟩
    · exact .inl h2
    · rcases lnN_cases h2 with h | ⟨h, _⟩
      · exact .inr (.inr (.inl h))
      · exact .inr (.inr (.inr (.inl h)))
end Go.Proofs.YtalmpddmhakdmaaGreat
