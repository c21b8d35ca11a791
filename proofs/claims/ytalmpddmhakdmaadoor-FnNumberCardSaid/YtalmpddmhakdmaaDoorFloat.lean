/-
  Plain laws on the binary numbers of 64 bits that the statement on number texts needs: what a whole number below 2^53 is as such a word, that times one changes nothing, that a sign may be taken in ahead of a product or a quotient or behind it, that no product or quotient of these is a NaN, and the powers of ten. No conditions but those that each law states.
-/
import Derived.Laws.FloatArith
import Derived.Laws.FloatBits
import Derived.KernelRfl
namespace Go.Proofs.YtalmpddmhakdmaaDoor
namespace Fl
open Ieee

theorem double_binade : double.binade = 4503599627370496 := rfl
theorem double_inf : double.infRung = 9218868437227405312 := rfl
theorem double_sign : double.signWeight = 9223372036854775808 := rfl
theorem double_least : double.leastPlace = -1074 := rfl

/-- The word of a whole number. -/
def ofNat (m : Nat) : Nat := double.nearest false m 0

theorem cut_zero (neg : Bool) (n : Nat) : Toward.even.cut neg n 0 = n := by
  simp [Toward.cut]
  omega

theorem shl_mul (a k : Nat) : a <<< k = a * 2 ^ k := Nat.shiftLeft_eq a k

/-- The place of the last digit of a whole number's word. -/
theorem log_lt {m : Nat} (h : m < 9007199254740992) : m.log2 ≤ 52 := by
  by_cases h0 : m = 0
  · subst h0; simp
  · have := (Nat.log2_lt h0 (k := 53)).2 h
    omega

theorem norm_bounds {m : Nat} (h0 : m ≠ 0) (h : m < 9007199254740992) : 4503599627370496 ≤ m * 2 ^ (52 - m.log2) ∧ m * 2 ^ (52 - m.log2) < 9007199254740992 := by
  have hl := log_lt h
  have h1 : 2 ^ m.log2 ≤ m := Nat.log2_self_le h0
  have h2 : m < 2 ^ (m.log2 + 1) := Nat.lt_log2_self
  have e1 : (2 : Nat) ^ m.log2 * 2 ^ (52 - m.log2) = 4503599627370496 := by
    rw [← Nat.pow_add, show m.log2 + (52 - m.log2) = 52 by omega]
  have e2 : (2 : Nat) ^ (m.log2 + 1) * 2 ^ (52 - m.log2) = 9007199254740992 := by
    rw [← Nat.pow_add, show m.log2 + 1 + (52 - m.log2) = 53 by omega]
  have hp : 0 < (2 : Nat) ^ (52 - m.log2) := Nat.two_pow_pos _
  constructor
  · rw [← e1]; exact Nat.mul_le_mul_right _ h1
  · rw [← e2]; exact Nat.mul_lt_mul_of_pos_right h2 hp

theorem ofNat_zero : ofNat 0 = 0 := by simp [ofNat, Format.nearest, Format.word]

theorem ofNat_eq {m : Nat} (h0 : m ≠ 0) (h : m < 9007199254740992) : ofNat m = (m.log2 + 1022) * 4503599627370496 + m * 2 ^ (52 - m.log2) := by
  have hl := log_lt h
  obtain ⟨b1, b2⟩ := norm_bounds h0 h
  have e : max ((0 : Int) + m.log2 - (52 : Nat)) (-1074) = (m.log2 : Int) - 52 := by omega
  unfold ofNat Format.nearest
  simp only [h0, if_false, double_least, double_binade, double_inf, Format.word, show double.fractionBits = 52 from rfl]
  rw [e]
  rw [show ((0 : Int) - ((m.log2 : Int) - 52)).toNat = 52 - m.log2 by omega, show ((m.log2 : Int) - 52 - 0).toNat = 0 by omega, cut_zero, shl_mul,
    show ((m.log2 : Int) - 52 - -1074).toNat = m.log2 + 1022 by omega]
  simp only [Bool.false_eq_true, if_false]
  omega

theorem ofNat_lt {m : Nat} (h : m < 9007199254740992) : ofNat m < 9218868437227405312 := by
  by_cases h0 : m = 0
  · subst h0; rw [ofNat_zero]; omega
  · have hl := log_lt h
    obtain ⟨b1, b2⟩ := norm_bounds h0 h
    rw [ofNat_eq h0 h]
    omega

theorem read_norm {x : Nat} (h1 : 4503599627370496 ≤ x) (h2 : x < 9218868437227405312) : double.read x = .number false (4503599627370496 + x % 4503599627370496) (-1074 + (x / 4503599627370496 - 1 : Nat)) := by
  have e1 : x / 9223372036854775808 % 2 = 0 := by omega
  have e2 : x % 9223372036854775808 = x := by omega
  have e3 : ¬ x < 4503599627370496 := by omega
  unfold Format.read
  simp only [double_sign, double_binade, double_inf, double_least, e1, e2, e3, h2, if_true, if_false]
  rfl

theorem read_ofNat {m : Nat} (h0 : m ≠ 0) (h : m < 9007199254740992) : double.read (ofNat m) = .number false (m * 2 ^ (52 - m.log2)) ((m.log2 : Int) - 52) := by
  have hl := log_lt h
  obtain ⟨b1, b2⟩ := norm_bounds h0 h
  have e := ofNat_eq h0 h
  have r := read_norm (x := ofNat m) (by omega) (by omega)
  refine r.trans ?_
  have e4 : 4503599627370496 + ofNat m % 4503599627370496 = m * 2 ^ (52 - m.log2) := by omega
  have e5 : ofNat m / 4503599627370496 - 1 = m.log2 + 1022 := by omega
  have e6 : (-1074 : Int) + (m.log2 + 1022 : Nat) = (m.log2 : Int) - 52 := by omega
  simp only [e4, e5, e6]

theorem read_zero : double.read 0 = .number false 0 (-1074) := by decide +kernel

def one : Nat := 4607182418800017408
theorem read_one : double.read one = .number false 4503599627370496 (-52) := by decide +kernel

theorem log2_mul_pow {a k : Nat} (h : a ≠ 0) : (a * 2 ^ k).log2 = a.log2 + k := by
  induction k with
  | zero => simp
  | succ n ih => rw [Nat.pow_succ, ← Nat.mul_assoc, Nat.mul_comm _ 2, Nat.log2_two_mul (by have := Nat.two_pow_pos n; intro e; rcases Nat.mul_eq_zero.1 e with e | e <;> omega), ih]; omega

/-- A whole number times one is itself. -/
theorem mul_one {m : Nat} (h : m < 9007199254740992) : double.mul (ofNat m) one = some (ofNat m) := by
  by_cases h0 : m = 0
  · subst h0; rw [ofNat_zero]; decide +kernel
  · have hl := log_lt h
    obtain ⟨b1, b2⟩ := norm_bounds h0 h
    unfold Format.mul
    rw [read_ofNat h0 h, read_one]
    simp only [Datum.product, Option.map_some, Format.write, Bool.xor_false, Option.some.injEq]
    rw [ofNat_eq h0 h]
    have hg : (m * 2 ^ (52 - m.log2)).log2 = 52 := by rw [log2_mul_pow h0]; omega
    generalize m * 2 ^ (52 - m.log2) = g at *
    generalize m.log2 = l at *
    have hg0 : g ≠ 0 := by omega
    have hgl : (g * 4503599627370496).log2 = 104 := by
      rw [show (4503599627370496 : Nat) = 2 ^ 52 from rfl, log2_mul_pow hg0, hg]
    unfold Format.nearest
    simp only [double_least, double_binade, double_inf, Format.word, show double.fractionBits = 52 from rfl]
    rw [if_neg (by omega), hgl]
    rw [show max ((l : Int) - 52 + -52 + (104 : Nat) - (52 : Nat)) (-1074) = (l : Int) - 52 by omega]
    rw [show ((l : Int) - 52 + -52 - ((l : Int) - 52)).toNat = 0 by omega, show ((l : Int) - 52 - ((l : Int) - 52 + -52)).toNat = 52 by omega, show ((l : Int) - 52 - -1074).toNat = l + 1022 by omega]
    have hc : Toward.even.cut false ((g * 4503599627370496) <<< 0) 52 = g := by
      unfold Toward.cut
      simp only [Nat.shiftLeft_zero, hgl]
      rw [show (1 : Nat) <<< min 52 (104 + 2) = 4503599627370496 from rfl, Nat.mul_div_cancel _ (by omega), Nat.mul_mod_left]
      simp
    rw [hc]
    simp only [Bool.false_eq_true, if_false]
    omega

/-- The word with the other sign, as the model makes it. -/
def flip (x : Nat) : Nat := Op.negFloat .f64 x

theorem flip_eq {x : Nat} (h : x < 9223372036854775808) : flip x = x + 9223372036854775808 := by
  show x ^^^ 2 ^ 63 = x + 2 ^ 63
  have h' : x < 2 ^ 63 := h
  have e : x ^^^ 2 ^ 63 = x ||| 2 ^ 63 := by
    apply Nat.eq_of_testBit_eq
    intro i
    rw [Nat.testBit_xor, Nat.testBit_or]
    by_cases hi : i = 63
    · subst hi
      rw [Nat.testBit_lt_two_pow h']
      simp
    · rw [Nat.testBit_two_pow_of_ne (fun e => hi e.symm)]
      simp
  have k := Nat.two_pow_add_eq_or_of_lt h' 1
  rw [Nat.mul_one] at k
  rw [e, Nat.or_comm, ← k, Nat.add_comm]

/-- A word that is no NaN and bears no minus: a number or infinity. -/
def Pos (x : Nat) : Prop := x ≤ 9218868437227405312

theorem nearest_pos (a : Nat) (e : Int) : Pos (double.nearest false a e) := by
  unfold Pos Format.nearest
  split
  · simp [Format.word]
  · simp only [Format.word, Bool.false_eq_true, if_false]
    exact Nat.min_le_right _ _

theorem nearest_neg (a : Nat) (e : Int) : double.nearest true a e = flip (double.nearest false a e) := by
  have hp := nearest_pos a e
  unfold Pos at hp
  rw [flip_eq (by omega)]
  unfold Format.nearest
  split
  · simp [Format.word, double_sign]
  · simp only [Format.word, double_sign, if_true, Bool.false_eq_true, if_false, Toward.cut]
    omega

theorem read_inf : double.read 9218868437227405312 = .infinity false := by decide +kernel

theorem read_sub {x : Nat} (h : x < 4503599627370496) : double.read x = .number false x (-1074) := by
  have e1 : x / 9223372036854775808 % 2 = 0 := by omega
  have e2 : x % 9223372036854775808 = x := by omega
  unfold Format.read
  simp only [double_sign, double_binade, double_least, e1, e2, h, if_true]
  rfl

theorem read_pos {x : Nat} (h : Pos x) : (∃ a e, double.read x = .number false a e) ∨ double.read x = .infinity false := by
  unfold Pos at h
  by_cases h1 : x < 4503599627370496
  · exact .inl ⟨_, _, read_sub h1⟩
  · by_cases h2 : x < 9218868437227405312
    · exact .inl ⟨_, _, read_norm (by omega) h2⟩
    · have : x = 9218868437227405312 := by omega
      subst this
      exact .inr read_inf

theorem read_flip {x : Nat} (h : x < 9223372036854775808) : double.read (flip x) = (double.read x).opposite := by
  rw [flip_eq h]
  have e1 : (x + 9223372036854775808) / 9223372036854775808 % 2 = 1 := by omega
  have e2 : (x + 9223372036854775808) % 9223372036854775808 = x := by omega
  have e3 : x / 9223372036854775808 % 2 = 0 := by omega
  have e4 : x % 9223372036854775808 = x := by omega
  unfold Format.read
  simp only [double_sign, e1, e2, e3, e4]
  split
  · rfl
  · split
    · rfl
    · split <;> rfl

/-- The words that are no NaN: those without a minus, and these with one. -/
def Num (x : Nat) : Prop := Pos x ∨ ∃ y, Pos y ∧ x = flip y

theorem num_read {x : Nat} (h : Num x) : (∃ s a e, double.read x = .number s a e) ∨ ∃ s, double.read x = .infinity s := by
  rcases h with h | ⟨y, h, rfl⟩
  · rcases read_pos h with ⟨a, e, h⟩ | h
    · exact .inl ⟨_, _, _, h⟩
    · exact .inr ⟨_, h⟩
  · have hy : y < 9223372036854775808 := by unfold Pos at h; omega
    rw [read_flip hy]
    rcases read_pos h with ⟨a, e, h⟩ | h
    · exact .inl ⟨_, _, _, by rw [h]; rfl⟩
    · exact .inr ⟨_, by rw [h]; rfl⟩

theorem order_self {x : Nat} (h : Num x) : double.order x x = some .eq := by
  unfold Format.order
  rcases num_read h with ⟨s, a, e, h⟩ | ⟨s, h⟩
  · rw [h]; simp [Datum.order]
  · rw [h]; simp [Datum.order]

theorem one_over {x : Nat} (h : Num x) : ∃ q, double.div one x = some q := by
  unfold Format.div
  rw [read_one]
  rcases num_read h with ⟨s, a, e, h⟩ | ⟨s, h⟩
  · rw [h]
    simp only [Datum.quotient]
    split
    · exact ⟨_, rfl⟩
    · exact ⟨_, rfl⟩
  · rw [h]; exact ⟨_, rfl⟩

/-- The finite words without a minus. -/
def Fin (x : Nat) : Prop := x < 9218868437227405312

theorem read_fin {x : Nat} (h : Fin x) : ∃ a e, double.read x = .number false a e := by
  unfold Fin at h
  by_cases h1 : x < 4503599627370496
  · exact ⟨_, _, read_sub h1⟩
  · exact ⟨_, _, read_norm (by omega) h⟩

theorem mul_fin {x y : Nat} (hx : Fin x) (hy : Fin y) : ∃ r, double.mul x y = some r ∧ Pos r ∧ double.mul (flip x) y = some (flip r) := by
  obtain ⟨a, e, h⟩ := read_fin hx
  obtain ⟨b, f, h'⟩ := read_fin hy
  refine ⟨double.nearest false (a * b) (e + f), ?_, nearest_pos _ _, ?_⟩
  · unfold Format.mul
    rw [h, h']
    rfl
  · unfold Format.mul
    unfold Fin at hx
    rw [read_flip (by omega), h, h', ← nearest_neg]
    rfl

theorem div_fin {x y : Nat} (hx : Fin x) {b : Nat} {f : Int} (h' : double.read y = .number false (b + 1) f) : ∃ r, double.div x y = some r ∧ Pos r ∧ double.div (flip x) y = some (flip r) := by
  obtain ⟨a, e, h⟩ := read_fin hx
  unfold Format.div
  unfold Fin at hx
  rw [read_flip (by omega), h, h']
  simp only [Datum.opposite, Datum.quotient, Nat.succ_ne_zero, if_false]
  refine ⟨_, rfl, nearest_pos _ _, ?_⟩
  simp only [Option.map_some, Format.write, Bool.not_false, Bool.xor_false]
  rw [nearest_neg]

/-- Ten to the powers 0 to 22, as words. -/
def tens : List Nat := [4607182418800017408, 4621819117588971520, 4636737291354636288, 4652007308841189376, 4666723172467343360, 4681608360884174848, 4696837146684686336, 4711630319722168320, 4726483295884279808, 4741671816366391296, 4756540486875873280, 4771362005757984768, 4786511204640096256, 4801453603149578240, 4816244402031689728, 4831355200913801216, 4846369599423283200, 4861130398305394688, 4876203697187506176, 4891288408196988160, 4906019910204099648, 4921056587992461136, 4936209963552724370]
def ten (k : Nat) : Nat := tens.getD k 0

theorem ten_step : ∀ k : _root_.Fin 22, double.mul (ten k.val) 4621819117588971520 = some (ten (k.val + 1)) := by decide +kernel
theorem ten_fin : ∀ k : _root_.Fin 23, ten k.val < 9218868437227405312 ∧ 4503599627370496 ≤ ten k.val := by decide +kernel
theorem zero_ten : ∀ k : _root_.Fin 23, double.mul 0 (ten k.val) = some 0 ∧ double.div 0 (ten k.val) = some 0 := by decide +kernel

theorem ten_succ {k : Nat} (h : k < 22) : double.mul (ten k) 4621819117588971520 = some (ten (k + 1)) := ten_step ⟨k, h⟩
theorem fin_ten {k : Nat} (h : k ≤ 22) : Fin (ten k) := (ten_fin ⟨k, by omega⟩).1
theorem read_ten {k : Nat} (h : k ≤ 22) : ∃ b f, double.read (ten k) = .number false (b + 1) f := by
  have := ten_fin ⟨k, by omega⟩
  exact ⟨_, _, (read_norm this.2 this.1).trans (by rw [show 4503599627370496 + ten k % 4503599627370496 = 4503599627370495 + ten k % 4503599627370496 + 1 by omega])⟩
theorem fin_ofNat {m : Nat} (h : m < 9007199254740992) : Fin (ofNat m) := ofNat_lt h

/-- What a number text tells: so many, times or over a power of ten. -/
def told (m : Nat) (e : Int) : Nat := ((if e < 0 then double.div (ofNat m) (ten e.natAbs) else double.mul (ofNat m) (ten e.natAbs)).getD 0)

theorem told_mul {m : Nat} {e : Int} (hm : m < 9007199254740992) (h0 : 0 ≤ e) (h1 : e ≤ 22) : double.mul (ofNat m) (ten e.natAbs) = some (told m e) ∧ Pos (told m e) ∧ double.mul (flip (ofNat m)) (ten e.natAbs) = some (flip (told m e)) := by
  obtain ⟨r, h, hp, hf⟩ := mul_fin (fin_ofNat hm) (fin_ten (k := e.natAbs) (by omega))
  have : told m e = r := by unfold told; rw [if_neg (by omega), h]; rfl
  rw [this]
  exact ⟨h, hp, hf⟩

theorem told_div {m : Nat} {e : Int} (hm : m < 9007199254740992) (h0 : e < 0) (h1 : -22 ≤ e) : double.div (ofNat m) (ten e.natAbs) = some (told m e) ∧ Pos (told m e) ∧ double.div (flip (ofNat m)) (ten e.natAbs) = some (flip (told m e)) := by
  obtain ⟨b, f, h'⟩ := read_ten (k := e.natAbs) (by omega)
  obtain ⟨r, h, hp, hf⟩ := div_fin (fin_ofNat hm) h'
  have : told m e = r := by unfold told; rw [if_pos (by omega), h]; rfl
  rw [this]
  exact ⟨h, hp, hf⟩

theorem told_pos {m : Nat} {e : Int} (hm : m < 9007199254740992) (h0 : -22 ≤ e) (h1 : e ≤ 22) : Pos (told m e) := by
  by_cases h : e < 0
  · exact (told_div hm h h0).2.1
  · exact (told_mul hm (by omega) h1).2.1

theorem told_same {m : Nat} (hm : m < 9007199254740992) : told m 0 = ofNat m := by
  have h := (told_mul (e := 0) hm (by omega) (by omega)).1
  have h1 : double.mul (ofNat m) (ten (0 : Int).natAbs) = some (ofNat m) := mul_one hm
  rw [h1] at h
  exact (Option.some.inj h).symm

theorem told_none {e : Int} (h0 : -22 ≤ e) (h1 : e ≤ 22) : told 0 e = 0 := by
  have h := zero_ten ⟨e.natAbs, by omega⟩
  unfold told
  rw [ofNat_zero]
  split
  · rw [h.2]; rfl
  · rw [h.1]; rfl

/-- The number with its sign. -/
def signed (neg : Bool) (x : Nat) : Nat := if neg then flip x else x

theorem num_signed {neg : Bool} {x : Nat} (h : Pos x) : Num (signed neg x) := by
  cases neg
  · exact .inl h
  · exact .inr ⟨x, h, rfl⟩

theorem read_big : double.read 4831355200913801216 = .number false 8000000000000000 (-3) := by decide +kernel
theorem read_small : double.read 14054727237768577024 = .number true 8000000000000000 (-3) := by decide +kernel

theorem cmp_lt {a b : Int} (h : a < b) : compare a b = .lt := by simp [compare, compareOfLessAndEq, h]
theorem cmp_gt {a b : Int} (h : b < a) : compare a b = .gt := by
  have h1 : ¬ a < b := by omega
  have h2 : ¬ a = b := by omega
  simp [compare, compareOfLessAndEq, h1, h2]

theorem far (neg : Bool) {g l C : Nat} (hg : g < C * 262144) (hl : l ≤ 31) : ((Datum.number neg g ((l : Int) - 52)).order (.number false C (-3)) == some .gt) = false ∧ ((Datum.number neg g ((l : Int) - 52)).order (.number true C (-3)) == some .lt) = false := by
  have hp : 0 < (2 : Nat) ^ (31 - l) := Nat.two_pow_pos _
  have e1 : min ((l : Int) - 52) (-3) = (l : Int) - 52 := by omega
  have e2 : ((l : Int) - 52 - ((l : Int) - 52)).toNat = 0 := by omega
  have e3 : ((-3 : Int) - ((l : Int) - 52)).toNat = 18 + (31 - l) := by omega
  obtain ⟨q, hq⟩ : ∃ q, C <<< (18 + (31 - l)) = q := ⟨_, rfl⟩
  have hlt : g < q := by
    rw [← hq, shl_mul, Nat.pow_add, ← Nat.mul_assoc]
    exact Nat.lt_of_lt_of_le hg (Nat.le_mul_of_pos_right _ hp)
  simp only [Datum.order, Ieee.signed, e1, e2, e3, hq, Nat.shiftLeft_zero]
  cases neg
  · simp only [Bool.false_eq_true, if_false, if_true]
    rw [cmp_lt (by omega : (g : Int) < q), cmp_gt (by omega : -(q : Int) < g)]
    exact ⟨rfl, rfl⟩
  · simp only [Bool.false_eq_true, if_false, if_true]
    rw [cmp_lt (by omega : -(g : Int) < q), cmp_gt (by omega : -(q : Int) < -(g : Int))]
    exact ⟨rfl, rfl⟩

theorem signed_false (x : Nat) : signed false x = x := rfl
theorem signed_true (x : Nat) : signed true x = flip x := rfl
theorem opposite_number (s : Bool) (a : Nat) (e : Int) : (Datum.number s a e).opposite = .number (!s) a e := rfl

theorem read_signed {m : Nat} (h0 : m ≠ 0) (h : m < 9007199254740992) (neg : Bool) : double.read (signed neg (ofNat m)) = .number neg (m * 2 ^ (52 - m.log2)) ((m.log2 : Int) - 52) := by
  have hr := read_ofNat h0 h
  have hlt := ofNat_lt h
  cases neg
  · rw [signed_false]
    exact hr
  · rw [signed_true, read_flip (by omega), hr, opposite_number]
    rfl

theorem log_31 {m : Nat} (h0 : m ≠ 0) (h : m < 4294967296) : m.log2 ≤ 31 := by
  have := (Nat.log2_lt h0 (k := 32)).2 h
  omega

/-- A whole number below 2^32, with a sign or without, lies between -1e15 and 1e15. -/
theorem within {m : Nat} (h0 : m ≠ 0) (h : m < 4294967296) (neg : Bool) : (double.order (signed neg (ofNat m)) 4831355200913801216 == some .gt) = false ∧ (double.order (signed neg (ofNat m)) 14054727237768577024 == some .lt) = false := by
  have hm : m < 9007199254740992 := by omega
  have hb := (norm_bounds h0 hm).2
  have hl := log_31 h0 h
  have hs := read_signed h0 hm neg
  generalize m * 2 ^ (52 - m.log2) = g at *
  generalize m.log2 = l at *
  have hg : g < 8000000000000000 * 262144 := by omega
  unfold Format.order
  rw [hs, read_big, read_small]
  exact far neg hg hl

end Fl
end Go.Proofs.YtalmpddmhakdmaaDoor
