/-
  The walk of a function of the parser: figures in groups. Conditions: the text lies in memory as stated.
-/
import Derived.Test.YtalmpddmhakdmaaGreatCJ18
namespace Go.Proofs.YtalmpddmhakdmaaGreat
open Go.RowKit

/-- The rest of figures in groups, in the middle of a group. -/
def GM (B : List UInt8) (base p e : Nat) : Prop := (pk B (p + dgN B p base) ≠ 95 ∧ e = p + dgN B p base) ∨ (pk B (p + dgN B p base) = 95 ∧ GrpR B base (p + dgN B p base + 1) e)
theorem GrpR.gm {B : List UInt8} {base i e : Nat} (h : GrpR B base i e) : GM B base i e ∧ 0 < dgN B i base := by
  cases h with
  | stop h1 h2 => exact ⟨.inl ⟨h2, rfl⟩, h1⟩
  | more h1 h2 h3 => exact ⟨.inr ⟨h2, h3⟩, h1⟩
theorem GM.fig {B : List UInt8} {base p e : Nat} (hb : base ≤ 99) (h : GM B base p e) (hp : vD (pk B p) < base) : GM B base (p + 1) e := by
  have hd := dgN_more hb hp
  have e1 : p + 1 + dgN B (p + 1) base = p + dgN B p base := by omega
  unfold GM
  rw [e1]
  exact h
theorem GM.fin {B : List UInt8} {base p e : Nat} (h : GM B base p e) (hp : ¬ vD (pk B p) < base) (h95 : pk B p ≠ 95) : e = p := by
  have hd := dgN_stop hp
  unfold GM at h
  rw [hd, Nat.add_zero] at h
  rcases h with ⟨_, h⟩ | ⟨h, _⟩
  · exact h
  · exact absurd h h95
theorem GM.bar {B : List UInt8} {base p e : Nat} (hb : base ≤ 99) (h : GM B base p e) (h95 : pk B p = 95) (hp : ¬ vD (pk B p) < base) : vD (pk B (p + 1)) < base ∧ GM B base (p + 2) e := by
  have hd := dgN_stop hp
  unfold GM at h
  rw [hd, Nat.add_zero] at h
  rcases h with ⟨h, _⟩ | ⟨_, h⟩
  · exact absurd h95 h
  · obtain ⟨g1, g2⟩ := h.gm
    have hv : vD (pk B (p + 1)) < base := by
      refine Classical.byContradiction fun hn => ?_
      rw [dgN_stop hn] at g2
      omega
    exact ⟨hv, g1.fig hb hv⟩
theorem vD_in {B : List UInt8} {p base : Nat} (hb : base ≤ 99) (h : vD (pk B p) < base) : p < B.length := by
  refine Classical.byContradiction fun hn => ?_
  rw [pk_out (by omega)] at h
  have : vD 0 = 99 := by decide
  omega

set_option maxRecDepth 100000 in
set_option maxHeartbeats 2000000 in
theorem digs_ten {w : World} {db : Nat} {B : List UInt8} {o n m x e : Nat} (hD : Dt w db B) (h1 : o + n = B.length) (hx : x ≤ n) (hr : GM B 10 (o + x) e) :
    Calls Tryz.prog 99 #[.slice (some ⟨db, o, none⟩) n m, .int .i64 x, .func (.func 90) #[] #[]] w fun e' w' => (∃ y : Nat, e' = .returned (.tuple #[.int .i64 y, .nilIface]) ∧ o + y = e ∧ y ≤ n) ∧ w' = w := by
  have HD := Lib.hid hD
  have HR := Lib.hid hr
  have HF := Lib.hid digit_any
  have hl := hD.len
  clear hD hr
  go_enter Tryz.func99, Tryz.ntmps99
  go_wp2_with fail
  go_loopw [1] (fun v wr => wr = w ∧ ∃ y : Nat, v = .int .i64 y ∧ y ≤ n ∧ GM B 10 (o + y) e) (fun v _ => n - (intOf v).toNat)
  case atStart => exact ⟨rfl, x, rfl, hx, HR.out⟩
  case round =>
    obtain ⟨rfl, y, rfl, hyn, hy⟩ := hrel
    obtain ⟨w, rfl⟩ : ∃ w0 : World, w0 = wr := ⟨_, rfl⟩
    have HY := Lib.hid hy
    clear hy HR
    by_cases hlt : y < n
    · have hc := HD.out.pk (i := o + y) (by omega)
      by_cases hv : vD (pk B (o + y)) < 10
      · have HC := (HF.out : FigF 90 10) w (pk B (o + y))
        rw [decide_eq_true hv] at HC
        have HC2 := Lib.hid HC
        have HK := Lib.hid (HY.out.fig (by omega) hv)
        clear HC hv HY
        generalize pk B (o + y) = c at *
        go_wp2_with fail
        with_reducible refine HC2.out.mono ?_
        rintro e' w' ⟨rfl, rfl⟩
        go_wp2_with fail
        exact ⟨⟨trivial, y + 1, rfl, by omega, HK.out⟩, by show n - (intOf (.int .i64 ((y : Int) + 1))).toNat < n - (intOf (.int .i64 (y : Int))).toNat; simp only [intOf]; omega⟩
      · have HC := (HF.out : FigF 90 10) w (pk B (o + y))
        rw [decide_eq_false hv] at HC
        have HC2 := Lib.hid HC
        by_cases h95 : pk B (o + y) = 95
        · have t1 := byte_eq h95 (n := 95) rfl
          obtain ⟨hv2, hk⟩ := HY.out.bar (by omega) h95 hv
          have hin := vD_in (by omega) hv2
          have hyn1 : y + 1 < n := by omega
          have hc3 := HD.out.pk (i := o + (y + 1)) (by omega)
          have HC3 := (HF.out : FigF 90 10) w (pk B (o + (y + 1)))
          rw [decide_eq_true (show vD (pk B (o + (y + 1))) < 10 from hv2)] at HC3
          have HC4 := Lib.hid HC3
          have HK := Lib.hid hk
          clear HC HC3 hv hv2 h95 hk HY
          generalize pk B (o + (y + 1)) = d at *
          generalize pk B (o + y) = c at *
          go_wp2_with fail
          with_reducible refine HC2.out.mono ?_
          rintro e' w' ⟨rfl, rfl⟩
          go_wp2_with fail
          with_reducible refine HC4.out.mono ?_
          rintro e' w2 ⟨rfl, rfl⟩
          go_wp2_with fail
          exact ⟨⟨trivial, y + 2, rfl, by omega, HK.out⟩, by show n - (intOf (.int .i64 ((y : Int) + 2))).toNat < n - (intOf (.int .i64 (y : Int))).toNat; simp only [intOf]; omega⟩
        · have t1 := byte_ne h95 (n := 95) rfl
          have HE := Lib.hid (HY.out.fin hv h95)
          clear HC hv h95 HY
          generalize pk B (o + y) = c at *
          go_wp2_with fail
          with_reducible refine HC2.out.mono ?_
          rintro e' w' ⟨rfl, rfl⟩
          go_wp2_with fail
          go_ret2
          exact ⟨⟨y, rfl, HE.out.symm, hyn⟩, rfl⟩
    · have HE := Lib.hid (HY.out.fin (by rw [pk_out (by omega)]; have : vD 0 = 99 := by decide
                                         omega) (by rw [pk_out (by omega)]; decide))
      clear HY
      go_wp2_with fail
      go_ret2
      exact ⟨⟨y, rfl, HE.out.symm, hyn⟩, rfl⟩
set_option maxRecDepth 100000 in
set_option maxHeartbeats 2000000 in
theorem digs_hex {w : World} {db : Nat} {B : List UInt8} {o n m x e : Nat} (hD : Dt w db B) (h1 : o + n = B.length) (hx : x ≤ n) (hr : GM B 16 (o + x) e) :
    Calls Tryz.prog 99 #[.slice (some ⟨db, o, none⟩) n m, .int .i64 x, .func (.func 96) #[] #[]] w fun e' w' => (∃ y : Nat, e' = .returned (.tuple #[.int .i64 y, .nilIface]) ∧ o + y = e ∧ y ≤ n) ∧ w' = w := by
  have HD := Lib.hid hD
  have HR := Lib.hid hr
  have HF := Lib.hid hex_any
  have hl := hD.len
  clear hD hr
  go_enter Tryz.func99, Tryz.ntmps99
  go_wp2_with fail
  go_loopw [1] (fun v wr => wr = w ∧ ∃ y : Nat, v = .int .i64 y ∧ y ≤ n ∧ GM B 16 (o + y) e) (fun v _ => n - (intOf v).toNat)
  case atStart => exact ⟨rfl, x, rfl, hx, HR.out⟩
  case round =>
    obtain ⟨rfl, y, rfl, hyn, hy⟩ := hrel
    obtain ⟨w, rfl⟩ : ∃ w0 : World, w0 = wr := ⟨_, rfl⟩
    have HY := Lib.hid hy
    clear hy HR
    by_cases hlt : y < n
    · have hc := HD.out.pk (i := o + y) (by omega)
      by_cases hv : vD (pk B (o + y)) < 16
      · have HC := (HF.out : FigF 96 16) w (pk B (o + y))
        rw [decide_eq_true hv] at HC
        have HC2 := Lib.hid HC
        have HK := Lib.hid (HY.out.fig (by omega) hv)
        clear HC hv HY
        generalize pk B (o + y) = c at *
        go_wp2_with fail
        with_reducible refine HC2.out.mono ?_
        rintro e' w' ⟨rfl, rfl⟩
        go_wp2_with fail
        exact ⟨⟨trivial, y + 1, rfl, by omega, HK.out⟩, by show n - (intOf (.int .i64 ((y : Int) + 1))).toNat < n - (intOf (.int .i64 (y : Int))).toNat; simp only [intOf]; omega⟩
      · have HC := (HF.out : FigF 96 16) w (pk B (o + y))
        rw [decide_eq_false hv] at HC
        have HC2 := Lib.hid HC
        by_cases h95 : pk B (o + y) = 95
        · have t1 := byte_eq h95 (n := 95) rfl
          obtain ⟨hv2, hk⟩ := HY.out.bar (by omega) h95 hv
          have hin := vD_in (by omega) hv2
          have hyn1 : y + 1 < n := by omega
          have hc3 := HD.out.pk (i := o + (y + 1)) (by omega)
          have HC3 := (HF.out : FigF 96 16) w (pk B (o + (y + 1)))
          rw [decide_eq_true (show vD (pk B (o + (y + 1))) < 16 from hv2)] at HC3
          have HC4 := Lib.hid HC3
          have HK := Lib.hid hk
          clear HC HC3 hv hv2 h95 hk HY
          generalize pk B (o + (y + 1)) = d at *
          generalize pk B (o + y) = c at *
          go_wp2_with fail
          with_reducible refine HC2.out.mono ?_
          rintro e' w' ⟨rfl, rfl⟩
          go_wp2_with fail
          with_reducible refine HC4.out.mono ?_
          rintro e' w2 ⟨rfl, rfl⟩
          go_wp2_with fail
          exact ⟨⟨trivial, y + 2, rfl, by omega, HK.out⟩, by show n - (intOf (.int .i64 ((y : Int) + 2))).toNat < n - (intOf (.int .i64 (y : Int))).toNat; simp only [intOf]; omega⟩
        · have t1 := byte_ne h95 (n := 95) rfl
          have HE := Lib.hid (HY.out.fin hv h95)
          clear HC hv h95 HY
          generalize pk B (o + y) = c at *
          go_wp2_with fail
          with_reducible refine HC2.out.mono ?_
          rintro e' w' ⟨rfl, rfl⟩
          go_wp2_with fail
          go_ret2
          exact ⟨⟨y, rfl, HE.out.symm, hyn⟩, rfl⟩
    · have HE := Lib.hid (HY.out.fin (by rw [pk_out (by omega)]; have : vD 0 = 99 := by decide
                                         omega) (by rw [pk_out (by omega)]; decide))
      clear HY
      go_wp2_with fail
      go_ret2
      exact ⟨⟨y, rfl, HE.out.symm, hyn⟩, rfl⟩
set_option maxRecDepth 100000 in
set_option maxHeartbeats 2000000 in
theorem digs_oct {w : World} {db : Nat} {B : List UInt8} {o n m x e : Nat} (hD : Dt w db B) (h1 : o + n = B.length) (hx : x ≤ n) (hr : GM B 8 (o + x) e) :
    Calls Tryz.prog 99 #[.slice (some ⟨db, o, none⟩) n m, .int .i64 x, .func (.func 97) #[] #[]] w fun e' w' => (∃ y : Nat, e' = .returned (.tuple #[.int .i64 y, .nilIface]) ∧ o + y = e ∧ y ≤ n) ∧ w' = w := by
  have HD := Lib.hid hD
  have HR := Lib.hid hr
  have HF := Lib.hid octal_any
  have hl := hD.len
  clear hD hr
  go_enter Tryz.func99, Tryz.ntmps99
  go_wp2_with fail
  go_loopw [1] (fun v wr => wr = w ∧ ∃ y : Nat, v = .int .i64 y ∧ y ≤ n ∧ GM B 8 (o + y) e) (fun v _ => n - (intOf v).toNat)
  case atStart => exact ⟨rfl, x, rfl, hx, HR.out⟩
  case round =>
    obtain ⟨rfl, y, rfl, hyn, hy⟩ := hrel
    obtain ⟨w, rfl⟩ : ∃ w0 : World, w0 = wr := ⟨_, rfl⟩
    have HY := Lib.hid hy
    clear hy HR
    by_cases hlt : y < n
    · have hc := HD.out.pk (i := o + y) (by omega)
      by_cases hv : vD (pk B (o + y)) < 8
      · have HC := (HF.out : FigF 97 8) w (pk B (o + y))
        rw [decide_eq_true hv] at HC
        have HC2 := Lib.hid HC
        have HK := Lib.hid (HY.out.fig (by omega) hv)
        clear HC hv HY
        generalize pk B (o + y) = c at *
        go_wp2_with fail
        with_reducible refine HC2.out.mono ?_
        rintro e' w' ⟨rfl, rfl⟩
        go_wp2_with fail
        exact ⟨⟨trivial, y + 1, rfl, by omega, HK.out⟩, by show n - (intOf (.int .i64 ((y : Int) + 1))).toNat < n - (intOf (.int .i64 (y : Int))).toNat; simp only [intOf]; omega⟩
      · have HC := (HF.out : FigF 97 8) w (pk B (o + y))
        rw [decide_eq_false hv] at HC
        have HC2 := Lib.hid HC
        by_cases h95 : pk B (o + y) = 95
        · have t1 := byte_eq h95 (n := 95) rfl
          obtain ⟨hv2, hk⟩ := HY.out.bar (by omega) h95 hv
          have hin := vD_in (by omega) hv2
          have hyn1 : y + 1 < n := by omega
          have hc3 := HD.out.pk (i := o + (y + 1)) (by omega)
          have HC3 := (HF.out : FigF 97 8) w (pk B (o + (y + 1)))
          rw [decide_eq_true (show vD (pk B (o + (y + 1))) < 8 from hv2)] at HC3
          have HC4 := Lib.hid HC3
          have HK := Lib.hid hk
          clear HC HC3 hv hv2 h95 hk HY
          generalize pk B (o + (y + 1)) = d at *
          generalize pk B (o + y) = c at *
          go_wp2_with fail
          with_reducible refine HC2.out.mono ?_
          rintro e' w' ⟨rfl, rfl⟩
          go_wp2_with fail
          with_reducible refine HC4.out.mono ?_
          rintro e' w2 ⟨rfl, rfl⟩
          go_wp2_with fail
          exact ⟨⟨trivial, y + 2, rfl, by omega, HK.out⟩, by show n - (intOf (.int .i64 ((y : Int) + 2))).toNat < n - (intOf (.int .i64 (y : Int))).toNat; simp only [intOf]; omega⟩
        · have t1 := byte_ne h95 (n := 95) rfl
          have HE := Lib.hid (HY.out.fin hv h95)
          clear HC hv h95 HY
          generalize pk B (o + y) = c at *
          go_wp2_with fail
          with_reducible refine HC2.out.mono ?_
          rintro e' w' ⟨rfl, rfl⟩
          go_wp2_with fail
          go_ret2
          exact ⟨⟨y, rfl, HE.out.symm, hyn⟩, rfl⟩
    · have HE := Lib.hid (HY.out.fin (by rw [pk_out (by omega)]; have : vD 0 = 99 := by decide
                                         omega) (by rw [pk_out (by omega)]; decide))
      clear HY
      go_wp2_with fail
      go_ret2
      exact ⟨⟨y, rfl, HE.out.symm, hyn⟩, rfl⟩
set_option maxRecDepth 100000 in
set_option maxHeartbeats 2000000 in
theorem digs_bin {w : World} {db : Nat} {B : List UInt8} {o n m x e : Nat} (hD : Dt w db B) (h1 : o + n = B.length) (hx : x ≤ n) (hr : GM B 2 (o + x) e) :
    Calls Tryz.prog 99 #[.slice (some ⟨db, o, none⟩) n m, .int .i64 x, .func (.func 98) #[] #[]] w fun e' w' => (∃ y : Nat, e' = .returned (.tuple #[.int .i64 y, .nilIface]) ∧ o + y = e ∧ y ≤ n) ∧ w' = w := by
  have HD := Lib.hid hD
  have HR := Lib.hid hr
  have HF := Lib.hid binary_any
  have hl := hD.len
  clear hD hr
  go_enter Tryz.func99, Tryz.ntmps99
  go_wp2_with fail
  go_loopw [1] (fun v wr => wr = w ∧ ∃ y : Nat, v = .int .i64 y ∧ y ≤ n ∧ GM B 2 (o + y) e) (fun v _ => n - (intOf v).toNat)
  case atStart => exact ⟨rfl, x, rfl, hx, HR.out⟩
  case round =>
    obtain ⟨rfl, y, rfl, hyn, hy⟩ := hrel
    obtain ⟨w, rfl⟩ : ∃ w0 : World, w0 = wr := ⟨_, rfl⟩
    have HY := Lib.hid hy
    clear hy HR
    by_cases hlt : y < n
    · have hc := HD.out.pk (i := o + y) (by omega)
      by_cases hv : vD (pk B (o + y)) < 2
      · have HC := (HF.out : FigF 98 2) w (pk B (o + y))
        rw [decide_eq_true hv] at HC
        have HC2 := Lib.hid HC
        have HK := Lib.hid (HY.out.fig (by omega) hv)
        clear HC hv HY
        generalize pk B (o + y) = c at *
        go_wp2_with fail
        with_reducible refine HC2.out.mono ?_
        rintro e' w' ⟨rfl, rfl⟩
        go_wp2_with fail
        exact ⟨⟨trivial, y + 1, rfl, by omega, HK.out⟩, by show n - (intOf (.int .i64 ((y : Int) + 1))).toNat < n - (intOf (.int .i64 (y : Int))).toNat; simp only [intOf]; omega⟩
      · have HC := (HF.out : FigF 98 2) w (pk B (o + y))
        rw [decide_eq_false hv] at HC
        have HC2 := Lib.hid HC
        by_cases h95 : pk B (o + y) = 95
        · have t1 := byte_eq h95 (n := 95) rfl
          obtain ⟨hv2, hk⟩ := HY.out.bar (by omega) h95 hv
          have hin := vD_in (by omega) hv2
          have hyn1 : y + 1 < n := by omega
          have hc3 := HD.out.pk (i := o + (y + 1)) (by omega)
          have HC3 := (HF.out : FigF 98 2) w (pk B (o + (y + 1)))
          rw [decide_eq_true (show vD (pk B (o + (y + 1))) < 2 from hv2)] at HC3
          have HC4 := Lib.hid HC3
          have HK := Lib.hid hk
          clear HC HC3 hv hv2 h95 hk HY
          generalize pk B (o + (y + 1)) = d at *
          generalize pk B (o + y) = c at *
          go_wp2_with fail
          with_reducible refine HC2.out.mono ?_
          rintro e' w' ⟨rfl, rfl⟩
          go_wp2_with fail
          with_reducible refine HC4.out.mono ?_
          rintro e' w2 ⟨rfl, rfl⟩
          go_wp2_with fail
          exact ⟨⟨trivial, y + 2, rfl, by omega, HK.out⟩, by show n - (intOf (.int .i64 ((y : Int) + 2))).toNat < n - (intOf (.int .i64 (y : Int))).toNat; simp only [intOf]; omega⟩
        · have t1 := byte_ne h95 (n := 95) rfl
          have HE := Lib.hid (HY.out.fin hv h95)
          clear HC hv h95 HY
          generalize pk B (o + y) = c at *
          go_wp2_with fail
          with_reducible refine HC2.out.mono ?_
          rintro e' w' ⟨rfl, rfl⟩
          go_wp2_with fail
          go_ret2
          exact ⟨⟨y, rfl, HE.out.symm, hyn⟩, rfl⟩
    · have HE := Lib.hid (HY.out.fin (by rw [pk_out (by omega)]; have : vD 0 = 99 := by decide
                                         omega) (by rw [pk_out (by omega)]; decide))
      clear HY
      go_wp2_with fail
      go_ret2
      exact ⟨⟨y, rfl, HE.out.symm, hyn⟩, rfl⟩
end Go.Proofs.YtalmpddmhakdmaaGreat
