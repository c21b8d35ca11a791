/-
  The walks of the two functions by which the reference makes a number's text: the figures of a number, and the text with its point, strokes, exponent and sign beside the number that it tells. Conditions: the numbers lie in the ranges that the statement draws them from.
-/
import Derived.Test.YtalmpddmhakdmaaDoorRows
import Derived.Test.YtalmpddmhakdmaaDoorPlain
import Derived.Test.YtalmpddmhakdmaaDoorFloat
import Derived.WalkKit
import Derived.WalkSpells
import Derived.WalkLawsBesides
import Derived.Lib.Hide
import Derived.Deep.DeepCutAuto
import Derived.Deep.CutBlock
import Derived.Laws.BitsAllLaws
import Derived.Laws.BitsLemmas
namespace Go.Proofs.YtalmpddmhakdmaaDoor
open Go.RowKit

theorem str_append (l r : List UInt8) : (⟨l.toArray⟩ : ByteArray) ++ ⟨r.toArray⟩ = ⟨(l ++ r).toArray⟩ := by
  apply ByteArray.ext
  simp

theorem encode_dig (a : Nat) : Utf8.encode (48 + (a : Int) % 10) = ⟨[UInt8.ofNat (48 + a % 10)].toArray⟩ := by
  unfold Utf8.encode
  have hv : Utf8.valid (48 + (a : Int) % 10) = true := by unfold Utf8.valid; simp; omega
  simp only [hv, if_true]
  rw [show (48 + (a : Int) % 10).toNat = 48 + a % 10 by omega, if_pos (by omega)]

theorem ret_str {a b : List UInt8} (h : a = b) : Ending.returned (.string ⟨a.toArray⟩) = .returned (.string ⟨b.toArray⟩) := by rw [h]

set_option maxHeartbeats 400000 in
theorem figures_any (v n : Nat) (w : World) (hv : v ≤ 4294967295) (hn : n ≤ 20) :
    Calls Tryd.prog 6 #[.int .i64 v, .int .i64 n] w fun e w' => e = .returned (.string ⟨(Pl.figs v n).toArray⟩) ∧ w = w' := by
  have hlen : (Pl.figs v n).length ≤ 30 := by
    have := Pl.figs_any 10 v n (by omega)
    omega
  go_enter Tryd.func6, Tryd.ntmps6
  go_wp2
  go_loop [0, 1, 5] (fun x y o => ∃ (a : Nat) (b : Int) (l : List UInt8), a ≤ 4294967295 ∧ b + (l.length : Int) = n ∧ Hid (Pl.figs a b.toNat ++ l = Pl.figs v n) ∧ l.length ≤ 30 ∧ x = .int .i64 a ∧ y = .int .i64 b ∧ o = .string ⟨l.toArray⟩) (fun x y _ => (intOf x).toNat + (intOf y).toNat)
  case atStart => exact ⟨v, n, [], by omega, by simp, by simp [Hid], by simp, rfl, rfl, rfl⟩
  case round =>
    obtain ⟨a, b, l, ha, hb, hf, hl, rfl, rfl, rfl⟩ := hrel
    have hE := encode_dig a
    by_cases hc : 0 < a ∨ 0 < b
    · have hstep := Pl.figs_step (v := a) (n := b.toNat) (by omega)
      have hl' : l.length + 1 ≤ 30 := by
        have := congrArg List.length hf.out
        rw [hstep] at this
        simp at this
        omega
      have hf' : Hid (Pl.figs (a / 10) (b - 1).toNat ++ (UInt8.ofNat (48 + a % 10) :: l) = Pl.figs v n) := by
        have := hf.out
        rw [hstep] at this
        rw [show (b - 1).toNat = b.toNat - 1 by omega]
        show _ = _
        rw [← this]
        simp
      clear hstep hf
      by_cases h0 : 0 < a
      · go_wp2
        go_round
        case rel => exact ⟨a / 10, b - 1, UInt8.ofNat (48 + a % 10) :: l, by omega, by simp; omega, hf', by simp; omega, by go_num, rfl, by simp [str_append]⟩
        case measure => simp [intOf]; omega
      · obtain rfl : a = 0 := by omega
        clear hE
        have hE0 : Utf8.encode 48 = ⟨[48].toArray⟩ := rfl
        go_wp2
        go_round
        case rel => exact ⟨0, b - 1, 48 :: l, by omega, by simp; omega, hf', by simp; omega, rfl, rfl, by simp [str_append]⟩
        case measure => simp [intOf]; omega
    · have h0 : a = 0 := by omega
      subst h0
      have hb0 : b.toNat = 0 := by omega
      have hfin : Hid (l = Pl.figs v n) := by
        have := hf.out
        rw [hb0, Pl.figs_nil] at this
        exact Lib.hid this
      clear hb0 hf
      go_wp2
      go_ret
      exact ⟨ret_str hfin.out, rfl⟩
theorem figures_i (v n : Int) (w : World) (h0 : 0 ≤ v) (hv : v ≤ 4294967295) (h1 : 0 ≤ n) (hn : n ≤ 20) :
    Calls Tryd.prog 6 #[.int .i64 v, .int .i64 n] w fun e w' => e = .returned (.string ⟨(Pl.figs v.toNat n.toNat).toArray⟩) ∧ w = w' := by
  have h := figures_any v.toNat n.toNat w (by omega) (by omega)
  rw [Int.toNat_of_nonneg h0, Int.toNat_of_nonneg h1] at h
  exact h
theorem ofInt_i64 (a : Nat) (ha : a < 9223372036854775808) : (BitVec.ofInt 64 (a : Int)).toNat = a := by
  rw [BitVec.ofInt_natCast, BitVec.toNat_ofNat]; exact Nat.mod_eq_of_lt (by omega)
theorem i64_and_nat (a b : Nat) (ha : a < 9223372036854775808) (hb : b < 9223372036854775808) : bits .and .i64 (a : Int) (b : Int) = ((a &&& b : Nat) : Int) := by
  have hx : a &&& b < 2 ^ 63 := Nat.and_lt_two_pow _ (by omega)
  show IntKind.i64.wrap ((BitVec.ofInt 64 (a : Int) &&& BitVec.ofInt 64 (b : Int)).toNat : Int) = _
  rw [BitVec.toNat_and, ofInt_i64 a ha, ofInt_i64 b hb, IntKind.wrap_i64]
  omega
theorem and_one (a : Nat) (ha : a < 9223372036854775808) : bits .and .i64 (a : Int) 1 = ((a % 2 : Nat) : Int) := by
  have h := i64_and_nat a 1 ha (by omega)
  rw [Nat.and_one_is_mod] at h
  exact h
theorem expo_length (p : Int) (b s : Nat) (h : p.natAbs < 100) : (Pl.expo p b s).length ≤ 10 := by
  have := Pl.figs_any 2 p.natAbs (1 + s / 2 % 2) (by omega)
  unfold Pl.expo
  split
  · rw [List.length_cons, List.length_append]
    split
    · simp; omega
    · split <;> simp <;> omega
  · simp
theorem float_ofNat (m : Nat) : floatOfInt .f64 (m : Int) = Fl.ofNat m := by
  show Ieee.double.nearest (decide ((m : Int) < 0)) (m : Int).natAbs 0 = Ieee.double.nearest false m 0
  rw [show decide ((m : Int) < 0) = false from decide_eq_false (by omega), Int.natAbs_natCast]
theorem unary_neg_float (b : Nat) : Op.unary .neg (.float .f64 b) = pure (.float .f64 (Fl.flip b)) := rfl
attribute [local go_sem] unary_neg_float
theorem and_half (s : Nat) (hs : s ≤ 65535) : bits BinOp.and IntKind.i64 ((s : Int) / 2) 1 = (s : Int) / 2 % 2 := by
  have h := and_one (s / 2) (by omega)
  rw [Int.natCast_ediv] at h
  rw [show ((s : Int) / 2) = (s : Int) / ((2 : Nat) : Int) from rfl, h]
  omega
theorem bit_test {s : Nat} (k : Nat) (hs : s ≤ 65535) : (bits BinOp.and IntKind.i64 ((s : Int) / 2 ^ (k % 16)) 1 == 1) = Pl.bit s k := by
  have e : ((s : Int) / 2 ^ (k % 16)) = ((s / 2 ^ (k % 16) : Nat) : Int) := by
    rw [Int.natCast_ediv, Int.natCast_pow]
    rfl
  have hlt : s / 2 ^ (k % 16) ≤ s := Nat.div_le_self _ _
  rw [e, and_one _ (by omega)]
  unfold Pl.bit
  rw [Bool.eq_iff_iff]
  simp only [beq_iff_eq]
  omega

theorem extract_one {D : List UInt8} (k : Nat) : (⟨D.toArray⟩ : ByteArray).extract k (k + 1) = ⟨((D.drop k).take 1).toArray⟩ := by
  apply ByteArray.ext
  simp [ByteArray.data_extract]

theorem mant_length (D : List UInt8) (b s k : Nat) : (Pl.mant D b s k).length ≤ 3 * k := by
  induction k with
  | zero => simp [Pl.mant]
  | succ k ih =>
    rw [Pl.mant, List.length_append]
    have : (Pl.piece D b s k).length ≤ 3 := by
      unfold Pl.piece
      have := List.length_take_le 1 (D.drop k)
      rw [List.length_append, List.length_append]
      split <;> split <;> simp <;> omega
    omega

theorem piece_stroke {D : List UInt8} {b s k : Nat} (h0 : 0 < k) (hat : D.length - k ≠ b) (hb : Pl.bit s k = true) : Pl.piece D b s k = 95 :: (D.drop k).take 1 := by
  simp [Pl.piece, h0, hat, hb]
theorem piece_bare {D : List UInt8} {b s k : Nat} (hat : D.length - k ≠ b) (hb : Pl.bit s k = false) : Pl.piece D b s k = (D.drop k).take 1 := by
  simp [Pl.piece, hat, hb]
theorem piece_dot {D : List UInt8} {b s k : Nat} (h0 : 0 < k) (hat : D.length - k = b) : Pl.piece D b s k = 46 :: (D.drop k).take 1 := by
  simp [Pl.piece, h0, hat]
theorem piece_first {D : List UInt8} {b s : Nat} : Pl.piece D b s 0 = (D.drop 0).take 1 := by
  simp [Pl.piece]

theorem str_eq {a b : List UInt8} (h : a = b) : Value.string ⟨a.toArray⟩ = .string ⟨b.toArray⟩ := by rw [h]

/-- What the reference tells of a number text: its text and the number. -/
def texted (m b s : Nat) (p : Int) (minus : Bool) : List UInt8 :=
  (if minus = true then [45] else []) ++ (Pl.mant (Pl.figs m (b + 1)) b s (Pl.figs m (b + 1)).length ++ Pl.expo p b s)

set_option maxRecDepth 100000 in
set_option maxHeartbeats 1000000 in
theorem pointed_any (m b s : Nat) (p : Int) (minus : Bool) (w : World) (hm : m ≤ 4294967295) (hb : b ≤ 9) (hs : s ≤ 65535) (hp0 : -13 ≤ p) (hp1 : p ≤ 22) :
    Calls Tryd.prog 4 #[.int .u32 m, .int .i64 b, .int .i64 p, .bool minus, .int .i64 s] w fun e w' =>
      e = .returned (.tuple #[.string ⟨(texted m b s p minus).toArray⟩, .float .f64 (Fl.signed minus (Fl.told m (p - b)))]) ∧ w = w' := by
  have hfin : ∃ T, Hid (texted m b s p minus = T) := ⟨_, rfl⟩
  obtain ⟨T, hT⟩ := hfin
  have hL : (Pl.figs m (b + 1)).length ≤ 10 := Pl.figs_most 10 m (b + 1) (by omega) (by omega)
  have hbL : b < (Pl.figs m (b + 1)).length := Pl.figs_least m (b + 1)
  obtain ⟨D, hD⟩ : ∃ D, Pl.figs m (b + 1) = D := ⟨_, rfl⟩
  have hF := figures_any m (b + 1) w hm (by omega)
  rw [hD] at hF hL hbL
  have HF := Lib.hid hF
  clear hF
  have HD := Lib.hid hD
  clear hD
  go_enter Tryd.func4, Tryd.ntmps4
  go_wp2_with (go_at_call 6; refine (HF.out).mono ?_; rintro e w' ⟨rfl, rfl⟩)
  go_loop [13, 27] (fun o i => ∃ k : Nat, k ≤ D.length ∧ i = .int .i64 k ∧ o = .string ⟨(Pl.mant D b s k).toArray⟩) (fun _ i => D.length - (intOf i).toNat)
  case atStart => exact ⟨0, by omega, rfl, rfl⟩
  case round =>
    obtain ⟨k, hk, rfl, rfl⟩ := hrel
    have hml := mant_length D b s k
    have hml' : (Pl.mant D b s k).length ≤ 30 := by omega
    clear hml
    by_cases hlt : k < D.length
    · have hx := extract_one (D := D) k
      by_cases h0 : 0 < k
      · by_cases hat : D.length - k = b
        · have hne : ((D.length : Int) - (k : Int) != (b : Int)) = false := by simp; omega
          go_wp2_with fail
          go_round
          case rel => exact ⟨k + 1, by omega, by go_num, by rw [str_append, str_append]; exact str_eq (by rw [Pl.mant, piece_dot h0 hat]; simp)⟩
          case measure => simp [intOf]; omega
        · have hne : ((D.length : Int) - (k : Int) != (b : Int)) = true := by simp; omega
          have hne' : ((D.length : Int) - (k : Int) == (b : Int)) = false := by simp; omega
          have hbt := bit_test (s := s) k hs
          cases hbit : Pl.bit s k
          · rw [hbit] at hbt
            have HB := Lib.hid hbit
            clear hbit
            go_wp2_with fail
            go_round
            case rel => exact ⟨k + 1, by omega, by go_num, by rw [str_append]; exact str_eq (by rw [Pl.mant, piece_bare hat HB.out])⟩
            case measure => simp [intOf]; omega
          · rw [hbit] at hbt
            have HB := Lib.hid hbit
            clear hbit
            go_wp2_with fail
            go_round
            case rel => exact ⟨k + 1, by omega, by go_num, by rw [str_append, str_append]; exact str_eq (by rw [Pl.mant, piece_stroke h0 hat HB.out]; simp)⟩
            case measure => simp [intOf]; omega
      · obtain rfl : k = 0 := by omega
        have hx0 := extract_one (D := D) 0
        clear hx
        have hone : Value.string ⟨(Pl.mant D b s 1).toArray⟩ = .string ⟨(D.take 1).toArray⟩ := str_eq (by rw [Pl.mant, piece_first]; simp [Pl.mant])
        have HO := Lib.hid hone
        clear hone
        go_wp2_with fail
        go_round
        case rel => exact ⟨1, by omega, by go_num, by have := HO.out; simp at this; rw [this]; rfl⟩
        case measure => simp [intOf]; omega
    · obtain rfl : k = D.length := by omega
      clear hlt
      go_upto_region 13 with (fail)
      go_cut [73] (fun t wx => ∃ c : Bool, t = .bool c ∧ Hid (c = decide (p ≠ 0 ∨ b = 0)) ∧ w = wx)
      case first =>
        by_cases hp : p = 0
        · subst hp
          by_cases hb0 : b = 0
          · subst hb0
            go_wp2_with fail
            go_meet
            case rel => exact ⟨true, rfl, by simp [Hid], rfl⟩
          · go_wp2_with fail
            go_meet
            case rel => exact ⟨false, by simp [hb0], by simp [Hid, hb0], rfl⟩
        · go_wp2_with fail
          go_meet
          case rel => exact ⟨true, rfl, by simp [Hid, hp], rfl⟩
      case rest =>
        obtain ⟨c, rfl, hc, rfl⟩ := hcut
        go_upto_if 73 with (fail)
        go_cut [13, 73] (fun o _ wx => o = .string ⟨(Pl.mant D b s D.length ++ Pl.expo p b s).toArray⟩ ∧ w = wx)
        case first =>
          cases c
          · have hexp : ¬ (p ≠ 0 ∨ b = 0) := of_decide_eq_false hc.out.symm
            have HX := Lib.hid hexp
            clear hexp
            go_wp2_with fail
            go_meet
            case rel => exact ⟨by rw [Pl.expo, if_neg HX.out]; simp, rfl⟩
          · have ht1 : bits BinOp.and IntKind.i64 (s : Int) 1 = (s : Int) % 2 := by have := and_one s (by omega); omega
            have ht2 : bits BinOp.and IntKind.i64 ((s : Int) / 2) 1 = (s : Int) / 2 % 2 := and_half s hs
            have hexp : p ≠ 0 ∨ b = 0 := of_decide_eq_true hc.out.symm
            have HX := Lib.hid hexp
            clear hexp
            have hfl := Pl.figs_any 2 p.natAbs (1 + s / 2 % 2) (by omega)
            have e2 : (1 + (s : Int) / 2 % 2).toNat = 1 + s / 2 % 2 := by omega
            by_cases hneg : p < 0
            · have hx : Hid (Pl.expo p b s = 101 :: 45 :: Pl.figs (-p).toNat (1 + s / 2 % 2)) := by
                show _ = _
                rw [Pl.expo, if_pos HX.out, if_pos hneg, show (-p).toNat = p.natAbs by omega]
                rfl
              have hfl' : (Pl.figs (-p).toNat (1 + s / 2 % 2)).length ≤ 10 := by
                rw [show (-p).toNat = p.natAbs by omega]
                omega
              clear hfl
              go_wp2_with (go_at_call 6; refine (figures_i _ _ _ (by omega) (by omega) (by omega) (by omega)).mono ?_; rintro e w' ⟨rfl, rfl⟩)
              go_meet
              case rel => exact ⟨by rw [str_append, str_append, str_append]; exact str_eq (by rw [hx.out]; simp), rfl⟩
            · have hfl' : (Pl.figs p.toNat (1 + s / 2 % 2)).length ≤ 10 := by
                rw [show p.toNat = p.natAbs by omega]
                omega
              clear hfl
              by_cases hodd : s % 2 = 1
              · have hx : Hid (Pl.expo p b s = 101 :: 43 :: Pl.figs p.toNat (1 + s / 2 % 2)) := by
                  show _ = _
                  rw [Pl.expo, if_pos HX.out, if_neg hneg, if_pos hodd, show p.toNat = p.natAbs by omega]
                  rfl
                have hodd' : ((s : Int) % 2 == 1) = true := by simp; omega
                clear hodd
                go_wp2_with (go_at_call 6; refine (figures_i _ _ _ (by omega) (by omega) (by omega) (by omega)).mono ?_; rintro e w' ⟨rfl, rfl⟩)
                go_meet
                case rel => exact ⟨by rw [str_append, str_append, str_append]; exact str_eq (by rw [hx.out]; simp), rfl⟩
              · have hx : Hid (Pl.expo p b s = 101 :: Pl.figs p.toNat (1 + s / 2 % 2)) := by
                  show _ = _
                  rw [Pl.expo, if_pos HX.out, if_neg hneg, if_neg hodd, show p.toNat = p.natAbs by omega]
                  rfl
                have hodd' : ((s : Int) % 2 == 1) = false := by simp; omega
                clear hodd
                go_wp2_with (go_at_call 6; refine (figures_i _ _ _ (by omega) (by omega) (by omega) (by omega)).mono ?_; rintro e w' ⟨rfl, rfl⟩)
                go_meet
                case rel => exact ⟨by rw [str_append, str_append]; exact str_eq (by rw [hx.out]; simp), rfl⟩
        case rest =>
          obtain ⟨rfl, rfl⟩ := hcut
          have hU : Hid (Pl.mant D b s D.length ++ Pl.expo p b s = Pl.mant (Pl.figs m (b + 1)) b s (Pl.figs m (b + 1)).length ++ Pl.expo p b s) := by
            show _ = _
            rw [HD.out]
          have hUl : (Pl.mant D b s D.length ++ Pl.expo p b s).length ≤ 100 := by
            have := expo_length p b s (by omega)
            rw [List.length_append]
            omega
          have hT : texted m b s p minus = (if minus = true then [45] else []) ++ (Pl.mant D b s D.length ++ Pl.expo p b s) := by rw [hU.out]; rfl
          have HT := Lib.hid hT
          clear hT
          generalize Pl.mant D b s D.length ++ Pl.expo p b s = U at *
          have hof := float_ofNat m
          by_cases hE : p - b < 0
          · obtain ⟨hq1, _, _⟩ := Fl.told_div (m := m) (e := p - b) (by omega) hE (by omega)
            have hq := fun W : World => run_float_arith (P := Tryd.prog) W .quo 25 .f64 (Fl.ofNat m) (Fl.ten (p - b).natAbs) (Fl.told m (p - b)) hq1
            clear hq1
            have HQ := Lib.hid hq
            clear hq
            go_wp2_with fail
            go_loop [19, 105] (fun t i => ∃ j : Nat, j ≤ (p - b).natAbs ∧ i = .int .i64 j ∧ t = .float .f64 (Fl.ten j)) (fun _ i => (p - b).natAbs - (intOf i).toNat)
            case atStart => exact ⟨0, by omega, rfl, rfl⟩
            case round =>
              obtain ⟨j, hj, rfl, rfl⟩ := hrel
              by_cases hlt : j < (p - b).natAbs
              · have hmul := fun W : World => run_float_arith (P := Tryd.prog) W .mul 25 .f64 (Fl.ten j) 4621819117588971520 (Fl.ten (j + 1)) (Fl.ten_succ (by omega))
                go_wp2_with fail
                go_round
                case rel => exact ⟨j + 1, by omega, by go_num, rfl⟩
                case measure => simp [intOf]; omega
              · obtain rfl : j = (p - b).natAbs := by omega
                have hq := HQ.out
                cases minus
                · go_wp2_with fail
                  go_ret2
                  exact ⟨by rw [HT.out]; rfl, rfl⟩
                · go_wp2_with fail
                  go_ret2
                  exact ⟨by rw [HT.out]; rfl, rfl⟩
          · obtain ⟨hq1, _, _⟩ := Fl.told_mul (m := m) (e := p - b) (by omega) (by omega) (by omega)
            have hq := fun W : World => run_float_arith (P := Tryd.prog) W .mul 25 .f64 (Fl.ofNat m) (Fl.ten (p - b).natAbs) (Fl.told m (p - b)) hq1
            clear hq1
            have HQ := Lib.hid hq
            clear hq
            go_wp2_with fail
            go_loop [19, 105] (fun t i => ∃ j : Nat, j ≤ (p - b).natAbs ∧ i = .int .i64 j ∧ t = .float .f64 (Fl.ten j)) (fun _ i => (p - b).natAbs - (intOf i).toNat)
            case atStart => exact ⟨0, by omega, rfl, rfl⟩
            case round =>
              obtain ⟨j, hj, rfl, rfl⟩ := hrel
              by_cases hlt : j < (p - b).natAbs
              · have hmul := fun W : World => run_float_arith (P := Tryd.prog) W .mul 25 .f64 (Fl.ten j) 4621819117588971520 (Fl.ten (j + 1)) (Fl.ten_succ (by omega))
                go_wp2_with fail
                go_round
                case rel => exact ⟨j + 1, by omega, by go_num, rfl⟩
                case measure => simp [intOf]; omega
              · obtain rfl : j = (p - b).natAbs := by omega
                have hq := HQ.out
                cases minus
                · go_wp2_with fail
                  go_ret2
                  exact ⟨by rw [HT.out]; rfl, rfl⟩
                · go_wp2_with fail
                  go_ret2
                  exact ⟨by rw [HT.out]; rfl, rfl⟩
end Go.Proofs.YtalmpddmhakdmaaDoor
