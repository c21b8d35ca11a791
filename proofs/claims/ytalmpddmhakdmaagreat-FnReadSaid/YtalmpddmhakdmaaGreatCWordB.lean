/-
  Plain: the tests of eight bytes at once, as the model reckons them. Conditions: as each lemma states.
-/
import Derived.Test.YtalmpddmhakdmaaGreatCWord
import Derived.Lib.EndianBits
namespace Go.Proofs.YtalmpddmhakdmaaGreat

def belowW (x n : Int) : Int := bits .and .u64 (bits .and .u64 (IntKind.u64.wrap (x - IntKind.u64.wrap (n * 72340172838076673))) (bits .xor .u64 IntKind.u64.max x)) 9259542123273814144
def equalW (x n : Int) : Int := bits .and .u64 (bits .and .u64 (IntKind.u64.wrap (bits .xor .u64 x (IntKind.u64.wrap (n * 72340172838076673)) - 72340172838076673)) (bits .xor .u64 IntKind.u64.max (bits .xor .u64 x (IntKind.u64.wrap (n * 72340172838076673))))) 9259542123273814144

theorem bits_bv (a b : Int) : bits .and .u64 a b = ((BitVec.ofInt 64 a &&& BitVec.ofInt 64 b).toNat : Int) ∧ bits .or .u64 a b = ((BitVec.ofInt 64 a ||| BitVec.ofInt 64 b).toNat : Int) ∧ bits .xor .u64 a b = ((BitVec.ofInt 64 a ^^^ BitVec.ofInt 64 b).toNat : Int) := by
  refine ⟨?_, ?_, ?_⟩
  · show IntKind.u64.wrap ((BitVec.ofInt 64 a &&& BitVec.ofInt 64 b).toNat : Int) = _
    rw [IntKind.wrap_u64]
    have := (BitVec.ofInt 64 a &&& BitVec.ofInt 64 b).isLt
    omega
  · show IntKind.u64.wrap ((BitVec.ofInt 64 a ||| BitVec.ofInt 64 b).toNat : Int) = _
    rw [IntKind.wrap_u64]
    have := (BitVec.ofInt 64 a ||| BitVec.ofInt 64 b).isLt
    omega
  · show IntKind.u64.wrap ((BitVec.ofInt 64 a ^^^ BitVec.ofInt 64 b).toNat : Int) = _
    rw [IntKind.wrap_u64]
    have := (BitVec.ofInt 64 a ^^^ BitVec.ofInt 64 b).isLt
    omega
theorem ofInt_toNat (x : BitVec 64) : BitVec.ofInt 64 (x.toNat : Int) = x := by
  rw [BitVec.ofInt_natCast, BitVec.ofNat_toNat, BitVec.setWidth_eq]
theorem ofInt_wrap (y : Int) : BitVec.ofInt 64 (IntKind.u64.wrap y) = BitVec.ofInt 64 y := by
  apply BitVec.eq_of_toNat_eq
  rw [IntKind.wrap_u64, BitVec.toNat_ofInt, BitVec.toNat_ofInt]
  congr 1
  omega
theorem ofInt_subs (a b : Int) : BitVec.ofInt 64 (a - b) = BitVec.ofInt 64 a - BitVec.ofInt 64 b := by
  apply BitVec.eq_of_toNat_eq
  rw [BitVec.toNat_sub, BitVec.toNat_ofInt, BitVec.toNat_ofInt, BitVec.toNat_ofInt]
  omega
theorem not_bv (x : BitVec 64) : BitVec.ofInt 64 IntKind.u64.max ^^^ x = ~~~ x := by
  rw [show BitVec.ofInt 64 IntKind.u64.max = BitVec.allOnes 64 by decide, BitVec.xor_comm, BitVec.xor_allOnes]
theorem belowW_bv (x n : Int) : belowW x n = (((BitVec.ofInt 64 x - BitVec.ofInt 64 (n * 72340172838076673)) &&& ~~~ BitVec.ofInt 64 x &&& 0x8080808080808080#64).toNat : Int) := by
  unfold belowW
  rw [(bits_bv _ _).1, (bits_bv _ _).1, (bits_bv _ _).2.2, ofInt_toNat, ofInt_toNat, ofInt_wrap, ofInt_subs, ofInt_wrap, not_bv]
  rfl
theorem equalW_bv (x n : Int) : equalW x n = ((((BitVec.ofInt 64 x ^^^ BitVec.ofInt 64 (n * 72340172838076673)) - 0x0101010101010101#64) &&& ~~~ (BitVec.ofInt 64 x ^^^ BitVec.ofInt 64 (n * 72340172838076673)) &&& 0x8080808080808080#64).toNat : Int) := by
  unfold equalW
  rw [(bits_bv _ _).1, (bits_bv _ _).1, (bits_bv _ _).2.2, (bits_bv _ _).2.2, ofInt_toNat, ofInt_toNat, ofInt_wrap, ofInt_subs, ofInt_wrap, ofInt_toNat, not_bv]
  rfl
theorem zero_bv {x : BitVec 64} (h : (x.toNat : Int) = 0) : x = 0#64 := BitVec.eq_of_toNat_eq (by rw [show x.toNat = 0 by omega]; rfl)
theorem or_zero {a b : Int} (ha : ∃ x : BitVec 64, a = (x.toNat : Int)) (hb : ∃ x : BitVec 64, b = (x.toNat : Int)) (h : bits .or .u64 a b = 0) : a = 0 ∧ b = 0 := by
  obtain ⟨x, rfl⟩ := ha
  obtain ⟨y, rfl⟩ := hb
  rw [(bits_bv _ _).2.1, ofInt_toNat, ofInt_toNat] at h
  have h1 : ∀ k, x.getLsbD k = false ∧ y.getLsbD k = false := fun k => by
    have := congrArg (fun v : BitVec 64 => v.getLsbD k) (zero_bv h)
    simpa using this
  have hx : x = 0#64 := BitVec.eq_of_getLsbD_eq fun k _ => by rw [(h1 k).1]; simp
  have hy : y = 0#64 := BitVec.eq_of_getLsbD_eq fun k _ => by rw [(h1 k).2]; simp
  subst hx
  subst hy
  exact ⟨rfl, rfl⟩
theorem or_bv (a b : Int) : ∃ x : BitVec 64, bits .or .u64 a b = (x.toNat : Int) := ⟨_, (bits_bv a b).2.1⟩
theorem and_bv (a b : Int) : ∃ x : BitVec 64, bits .and .u64 a b = (x.toNat : Int) := ⟨_, (bits_bv a b).1⟩

/-- Eight bytes. -/
structure Oct where
  (c0 c1 c2 c3 c4 c5 c6 c7 : UInt8)
def Oct.word (o : Oct) : Nat := le8 o.c0.toNat o.c1.toNat o.c2.toNat o.c3.toNat o.c4.toNat o.c5.toNat o.c6.toNat o.c7.toNat
/-- All of eight bytes. -/
def Oct.all (o : Oct) (p : Nat → Prop) : Prop := p o.c0.toNat ∧ p o.c1.toNat ∧ p o.c2.toNat ∧ p o.c3.toNat ∧ p o.c4.toNat ∧ p o.c5.toNat ∧ p o.c6.toNat ∧ p o.c7.toNat
theorem Oct.lt (o : Oct) : o.word < 18446744073709551616 := by
  have h0 := o.c0.toNat_lt
  have h1 := o.c1.toNat_lt
  have h2 := o.c2.toNat_lt
  have h3 := o.c3.toNat_lt
  have h4 := o.c4.toNat_lt
  have h5 := o.c5.toNat_lt
  have h6 := o.c6.toNat_lt
  have h7 := o.c7.toNat_lt
  unfold Oct.word le8
  omega
theorem Oct.bv (o : Oct) : (BitVec.ofInt 64 (o.word : Int)).toNat = o.word := by
  rw [BitVec.ofInt_natCast, BitVec.toNat_ofNat]
  exact Nat.mod_eq_of_lt (by have := o.lt; omega)
theorem Oct.low (o : Oct) (h : bits .and .u64 (o.word : Int) 9259542123273814144 = 0) : o.all (· < 128) := by
  rw [(bits_bv _ _).1] at h
  exact low_of o.c0.toNat_lt o.c1.toNat_lt o.c2.toNat_lt o.c3.toNat_lt o.c4.toNat_lt o.c5.toNat_lt o.c6.toNat_lt o.c7.toNat_lt o.bv (zero_bv h)
theorem Oct.below (o : Oct) (hl : o.all (· < 128)) (n : Nat) (hn : n < 128) (h : belowW (o.word : Int) (n : Int) = 0) : o.all (n ≤ ·) := by
  rw [belowW_bv] at h
  obtain ⟨h0, h1, h2, h3, h4, h5, h6, h7⟩ := hl
  refine below_of h0 h1 h2 h3 h4 h5 h6 h7 o.bv n hn _ ?_ (zero_bv h)
  rw [show ((n : Int) * 72340172838076673) = ((n * 72340172838076673 : Nat) : Int) by omega, BitVec.ofInt_natCast, BitVec.toNat_ofNat]
  omega
theorem Oct.other (o : Oct) (hl : o.all (· < 128)) (c : Nat) (hc : c < 128) (h : equalW (o.word : Int) (c : Int) = 0) : o.all (· ≠ c) := by
  rw [equalW_bv] at h
  obtain ⟨h0, h1, h2, h3, h4, h5, h6, h7⟩ := hl
  refine equal_of h0 h1 h2 h3 h4 h5 h6 h7 o.bv c hc _ ?_ (zero_bv h)
  rw [show ((c : Int) * 72340172838076673) = ((c * 72340172838076673 : Nat) : Int) by omega, BitVec.ofInt_natCast, BitVec.toNat_ofNat]
  omega
theorem Oct.all_and {o : Oct} {p q r : Nat → Prop} (hp : o.all p) (hq : o.all q) (h : ∀ n, p n → q n → r n) : o.all r := by
  obtain ⟨h0, h1, h2, h3, h4, h5, h6, h7⟩ := hp
  obtain ⟨g0, g1, g2, g3, g4, g5, g6, g7⟩ := hq
  exact ⟨h _ h0 g0, h _ h1 g1, h _ h2 g2, h _ h3 g3, h _ h4 g4, h _ h5 g5, h _ h6 g6, h _ h7 g7⟩
/-- The test of a remark: nothing that is no plain sign. -/
def tst3 (x : Int) : Int := bits .or .u64 (bits .or .u64 (bits .and .u64 x 9259542123273814144) (belowW x 32)) (equalW x 127)
theorem tst3_zero (o : Oct) (h : tst3 (o.word : Int) = 0) : o.all fun c => 32 ≤ c ∧ c < 127 := by
  obtain ⟨h1, h2⟩ := or_zero (or_bv _ _) ⟨_, equalW_bv _ _⟩ h
  obtain ⟨h3, h4⟩ := or_zero (and_bv _ _) ⟨_, belowW_bv _ _⟩ h1
  have hl := o.low h3
  exact Oct.all_and (Oct.all_and (o.below hl 32 (by decide) h4) (o.other hl 127 (by decide) h2) fun n a b => And.intro a b) hl fun n a b => by omega
/-- .. of a text in single quotes. -/
def tst4 (x : Int) (q : Int) : Int := bits .or .u64 (bits .or .u64 (bits .or .u64 (bits .and .u64 x 9259542123273814144) (belowW x 32)) (equalW x q)) (equalW x 127)
theorem tst4_zero (o : Oct) (q : Nat) (hq : q < 128) (h : tst4 (o.word : Int) (q : Int) = 0) : o.all fun c => 32 ≤ c ∧ c < 127 ∧ c ≠ q := by
  obtain ⟨h1, h2⟩ := or_zero (or_bv _ _) ⟨_, equalW_bv _ _⟩ h
  obtain ⟨h3, h4⟩ := or_zero (or_bv _ _) ⟨_, equalW_bv _ _⟩ h1
  obtain ⟨h5, h6⟩ := or_zero (and_bv _ _) ⟨_, belowW_bv _ _⟩ h3
  have hl := o.low h5
  exact Oct.all_and (Oct.all_and (Oct.all_and (o.below hl 32 (by decide) h6) (o.other hl 127 (by decide) h2) fun n a b => And.intro a b) hl fun n a b => And.intro a b) (o.other hl q hq h4) fun n a b => by omega
/-- .. of a text in double quotes. -/
def tst5 (x : Int) (q r : Int) : Int := bits .or .u64 (bits .or .u64 (bits .or .u64 (bits .or .u64 (bits .and .u64 x 9259542123273814144) (belowW x 32)) (equalW x q)) (equalW x r)) (equalW x 127)
theorem tst5_zero (o : Oct) (q r : Nat) (hq : q < 128) (hr : r < 128) (h : tst5 (o.word : Int) (q : Int) (r : Int) = 0) : o.all fun c => 32 ≤ c ∧ c < 127 ∧ c ≠ q ∧ c ≠ r := by
  obtain ⟨h1, h2⟩ := or_zero (or_bv _ _) ⟨_, equalW_bv _ _⟩ h
  obtain ⟨h3, h4⟩ := or_zero (or_bv _ _) ⟨_, equalW_bv _ _⟩ h1
  obtain ⟨h7, h8⟩ := or_zero (or_bv _ _) ⟨_, equalW_bv _ _⟩ h3
  obtain ⟨h5, h6⟩ := or_zero (and_bv _ _) ⟨_, belowW_bv _ _⟩ h7
  have hl := o.low h5
  exact Oct.all_and (Oct.all_and (Oct.all_and (Oct.all_and (o.below hl 32 (by decide) h6) (o.other hl 127 (by decide) h2) fun n a b => And.intro a b) hl fun n a b => And.intro a b) (o.other hl q hq h8) fun n a b => And.intro a b) (o.other hl r hr h4) fun n a b => by omega
end Go.Proofs.YtalmpddmhakdmaaGreat
