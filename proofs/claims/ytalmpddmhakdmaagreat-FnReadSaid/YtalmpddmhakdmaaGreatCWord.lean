/-
  Plain: the tests of eight bytes at once, on words of 64 bits. Conditions: as each lemma states.
-/
import Derived.WalkKit
namespace Go.Proofs.YtalmpddmhakdmaaGreat

/-- Eight bytes as a word. -/
def le8 (c0 c1 c2 c3 c4 c5 c6 c7 : Nat) : Nat := c0 + c1 * 256 + c2 * 65536 + c3 * 16777216 + c4 * 4294967296 + c5 * 1099511627776 + c6 * 281474976710656 + c7 * 72057594037927936

theorem bit_false {x : BitVec 64} {k : Nat} (h : x.getLsbD k = false) : x.toNat / 2 ^ k % 2 = 0 := by
  rw [← BitVec.testBit_toNat, Nat.testBit_eq_decide_div_mod_eq] at h
  have h1 := of_decide_eq_false h
  omega

theorem low_of {c0 c1 c2 c3 c4 c5 c6 c7 : Nat} (h0 : c0 < 256) (h1 : c1 < 256) (h2 : c2 < 256) (h3 : c3 < 256) (h4 : c4 < 256) (h5 : c5 < 256) (h6 : c6 < 256) (h7 : c7 < 256) {x : BitVec 64} (hx : x.toNat = le8 c0 c1 c2 c3 c4 c5 c6 c7)
    (h : x &&& 0x8080808080808080#64 = 0#64) : c0 < 128 ∧ c1 < 128 ∧ c2 < 128 ∧ c3 < 128 ∧ c4 < 128 ∧ c5 < 128 ∧ c6 < 128 ∧ c7 < 128 := by
  have hb : ∀ k, (0x8080808080808080#64).getLsbD k = true → x.toNat / 2 ^ k % 2 = 0 := fun k hk => bit_false (by
    have := congrArg (fun v : BitVec 64 => v.getLsbD k) h
    simpa [hk] using this)
  have b0 := hb 7 (by decide)
  have b1 := hb 15 (by decide)
  have b2 := hb 23 (by decide)
  have b3 := hb 31 (by decide)
  have b4 := hb 39 (by decide)
  have b5 := hb 47 (by decide)
  have b6 := hb 55 (by decide)
  have b7 := hb 63 (by decide)
  rw [hx, le8] at b0 b1 b2 b3 b4 b5 b6 b7
  clear hb h hx
  refine ⟨?_, ?_, ?_, ?_, ?_, ?_, ?_, ?_⟩ <;> omega

theorem below_of {c0 c1 c2 c3 c4 c5 c6 c7 : Nat} (h0 : c0 < 128) (h1 : c1 < 128) (h2 : c2 < 128) (h3 : c3 < 128) (h4 : c4 < 128) (h5 : c5 < 128) (h6 : c6 < 128) (h7 : c7 < 128) {x : BitVec 64} (hx : x.toNat = le8 c0 c1 c2 c3 c4 c5 c6 c7)
    (n : Nat) (hn : n < 128) (m : BitVec 64) (hm : m.toNat = n * 72340172838076673)
    (h : (x - m) &&& ~~~ x &&& 0x8080808080808080#64 = 0#64) : n ≤ c0 ∧ n ≤ c1 ∧ n ≤ c2 ∧ n ≤ c3 ∧ n ≤ c4 ∧ n ≤ c5 ∧ n ≤ c6 ∧ n ≤ c7 := by
  have hb : ∀ k, (0x8080808080808080#64).getLsbD k = true → x.toNat / 2 ^ k % 2 = 0 → (x - m).toNat / 2 ^ k % 2 = 0 := fun k hk h0 => bit_false (by
    have hxk : x.getLsbD k = false := by
      rw [← BitVec.testBit_toNat, Nat.testBit_eq_decide_div_mod_eq]
      exact decide_eq_false (by omega)
    have hk64 : k < 64 := BitVec.lt_of_getLsbD hk
    have := congrArg (fun v : BitVec 64 => v.getLsbD k) h
    simp only [BitVec.getLsbD_and, BitVec.getLsbD_not, hk, hxk, hk64, decide_true, Bool.not_false, Bool.and_true] at this
    simpa using this)
  rw [BitVec.toNat_sub, hm] at hb
  rw [hx] at hb
  have hb' := hb
  clear hb h hx hm
  have g0 : n ≤ c0 := by
    have hm : ∀ V lo b hi : Nat, V = lo + 1 * b + 256 * hi → lo < 1 → 128 ≤ b → b < 256 → V % 18446744073709551616 / 128 % 2 = 1 := by
      intro V lo b hi h1 h2 h3 h4
      omega
    refine Nat.le_of_not_lt fun hlt => ?_
    obtain ⟨b, hbn⟩ : ∃ b, b + n = c0 + 256 := ⟨c0 + 256 - n, by omega⟩
    obtain ⟨hi, hhi⟩ : ∃ hi, hi + (1 + n * 282578800148737) = 72057594037927936 + (c1 * 1 + c2 * 256 + c3 * 65536 + c4 * 16777216 + c5 * 4294967296 + c6 * 1099511627776 + c7 * 281474976710656) := ⟨72057594037927936 + (c1 * 1 + c2 * 256 + c3 * 65536 + c4 * 16777216 + c5 * 4294967296 + c6 * 1099511627776 + c7 * 281474976710656) - (1 + n * 282578800148737), by omega⟩
    obtain ⟨V, hV⟩ : ∃ V, V = 2 ^ 64 - n * 72340172838076673 + le8 c0 c1 c2 c3 c4 c5 c6 c7 := ⟨_, rfl⟩
    have hb := hm V (0) b hi (by rw [hV, le8]; clear hV; omega) (by omega) (by omega) (by omega)
    have hb2 := hb' 7 (by decide) (by rw [le8]; omega)
    rw [← hV, show (2 : Nat) ^ 7 = 128 by decide, show (2 : Nat) ^ 64 = 18446744073709551616 by decide, hb] at hb2
    cases hb2
  obtain ⟨d0, rfl⟩ := Nat.exists_eq_add_of_le g0
  have g1 : n ≤ c1 := by
    have hm : ∀ V lo b hi : Nat, V = lo + 256 * b + 65536 * hi → lo < 256 → 128 ≤ b → b < 256 → V % 18446744073709551616 / 32768 % 2 = 1 := by
      intro V lo b hi h1 h2 h3 h4
      omega
    refine Nat.le_of_not_lt fun hlt => ?_
    obtain ⟨b, hbn⟩ : ∃ b, b + n = c1 + 256 := ⟨c1 + 256 - n, by omega⟩
    obtain ⟨hi, hhi⟩ : ∃ hi, hi + (1 + n * 1103823438081) = 281474976710656 + (c2 * 1 + c3 * 256 + c4 * 65536 + c5 * 16777216 + c6 * 4294967296 + c7 * 1099511627776) := ⟨281474976710656 + (c2 * 1 + c3 * 256 + c4 * 65536 + c5 * 16777216 + c6 * 4294967296 + c7 * 1099511627776) - (1 + n * 1103823438081), by omega⟩
    obtain ⟨V, hV⟩ : ∃ V, V = 2 ^ 64 - n * 72340172838076673 + le8 (n + d0) c1 c2 c3 c4 c5 c6 c7 := ⟨_, rfl⟩
    have hb := hm V (d0 * 1) b hi (by rw [hV, le8]; clear hV; omega) (by omega) (by omega) (by omega)
    have hb2 := hb' 15 (by decide) (by rw [le8]; omega)
    rw [← hV, show (2 : Nat) ^ 15 = 32768 by decide, show (2 : Nat) ^ 64 = 18446744073709551616 by decide, hb] at hb2
    cases hb2
  obtain ⟨d1, rfl⟩ := Nat.exists_eq_add_of_le g1
  have g2 : n ≤ c2 := by
    have hm : ∀ V lo b hi : Nat, V = lo + 65536 * b + 16777216 * hi → lo < 65536 → 128 ≤ b → b < 256 → V % 18446744073709551616 / 8388608 % 2 = 1 := by
      intro V lo b hi h1 h2 h3 h4
      omega
    refine Nat.le_of_not_lt fun hlt => ?_
    obtain ⟨b, hbn⟩ : ∃ b, b + n = c2 + 256 := ⟨c2 + 256 - n, by omega⟩
    obtain ⟨hi, hhi⟩ : ∃ hi, hi + (1 + n * 4311810305) = 1099511627776 + (c3 * 1 + c4 * 256 + c5 * 65536 + c6 * 16777216 + c7 * 4294967296) := ⟨1099511627776 + (c3 * 1 + c4 * 256 + c5 * 65536 + c6 * 16777216 + c7 * 4294967296) - (1 + n * 4311810305), by omega⟩
    obtain ⟨V, hV⟩ : ∃ V, V = 2 ^ 64 - n * 72340172838076673 + le8 (n + d0) (n + d1) c2 c3 c4 c5 c6 c7 := ⟨_, rfl⟩
    have hb := hm V (d0 * 1 + d1 * 256) b hi (by rw [hV, le8]; clear hV; omega) (by omega) (by omega) (by omega)
    have hb2 := hb' 23 (by decide) (by rw [le8]; omega)
    rw [← hV, show (2 : Nat) ^ 23 = 8388608 by decide, show (2 : Nat) ^ 64 = 18446744073709551616 by decide, hb] at hb2
    cases hb2
  obtain ⟨d2, rfl⟩ := Nat.exists_eq_add_of_le g2
  have g3 : n ≤ c3 := by
    have hm : ∀ V lo b hi : Nat, V = lo + 16777216 * b + 4294967296 * hi → lo < 16777216 → 128 ≤ b → b < 256 → V % 18446744073709551616 / 2147483648 % 2 = 1 := by
      intro V lo b hi h1 h2 h3 h4
      omega
    refine Nat.le_of_not_lt fun hlt => ?_
    obtain ⟨b, hbn⟩ : ∃ b, b + n = c3 + 256 := ⟨c3 + 256 - n, by omega⟩
    obtain ⟨hi, hhi⟩ : ∃ hi, hi + (1 + n * 16843009) = 4294967296 + (c4 * 1 + c5 * 256 + c6 * 65536 + c7 * 16777216) := ⟨4294967296 + (c4 * 1 + c5 * 256 + c6 * 65536 + c7 * 16777216) - (1 + n * 16843009), by omega⟩
    obtain ⟨V, hV⟩ : ∃ V, V = 2 ^ 64 - n * 72340172838076673 + le8 (n + d0) (n + d1) (n + d2) c3 c4 c5 c6 c7 := ⟨_, rfl⟩
    have hb := hm V (d0 * 1 + d1 * 256 + d2 * 65536) b hi (by rw [hV, le8]; clear hV; omega) (by omega) (by omega) (by omega)
    have hb2 := hb' 31 (by decide) (by rw [le8]; omega)
    rw [← hV, show (2 : Nat) ^ 31 = 2147483648 by decide, show (2 : Nat) ^ 64 = 18446744073709551616 by decide, hb] at hb2
    cases hb2
  obtain ⟨d3, rfl⟩ := Nat.exists_eq_add_of_le g3
  have g4 : n ≤ c4 := by
    have hm : ∀ V lo b hi : Nat, V = lo + 4294967296 * b + 1099511627776 * hi → lo < 4294967296 → 128 ≤ b → b < 256 → V % 18446744073709551616 / 549755813888 % 2 = 1 := by
      intro V lo b hi h1 h2 h3 h4
      omega
    refine Nat.le_of_not_lt fun hlt => ?_
    obtain ⟨b, hbn⟩ : ∃ b, b + n = c4 + 256 := ⟨c4 + 256 - n, by omega⟩
    obtain ⟨hi, hhi⟩ : ∃ hi, hi + (1 + n * 65793) = 16777216 + (c5 * 1 + c6 * 256 + c7 * 65536) := ⟨16777216 + (c5 * 1 + c6 * 256 + c7 * 65536) - (1 + n * 65793), by omega⟩
    obtain ⟨V, hV⟩ : ∃ V, V = 2 ^ 64 - n * 72340172838076673 + le8 (n + d0) (n + d1) (n + d2) (n + d3) c4 c5 c6 c7 := ⟨_, rfl⟩
    have hb := hm V (d0 * 1 + d1 * 256 + d2 * 65536 + d3 * 16777216) b hi (by rw [hV, le8]; clear hV; omega) (by omega) (by omega) (by omega)
    have hb2 := hb' 39 (by decide) (by rw [le8]; omega)
    rw [← hV, show (2 : Nat) ^ 39 = 549755813888 by decide, show (2 : Nat) ^ 64 = 18446744073709551616 by decide, hb] at hb2
    cases hb2
  obtain ⟨d4, rfl⟩ := Nat.exists_eq_add_of_le g4
  have g5 : n ≤ c5 := by
    have hm : ∀ V lo b hi : Nat, V = lo + 1099511627776 * b + 281474976710656 * hi → lo < 1099511627776 → 128 ≤ b → b < 256 → V % 18446744073709551616 / 140737488355328 % 2 = 1 := by
      intro V lo b hi h1 h2 h3 h4
      omega
    refine Nat.le_of_not_lt fun hlt => ?_
    obtain ⟨b, hbn⟩ : ∃ b, b + n = c5 + 256 := ⟨c5 + 256 - n, by omega⟩
    obtain ⟨hi, hhi⟩ : ∃ hi, hi + (1 + n * 257) = 65536 + (c6 * 1 + c7 * 256) := ⟨65536 + (c6 * 1 + c7 * 256) - (1 + n * 257), by omega⟩
    obtain ⟨V, hV⟩ : ∃ V, V = 2 ^ 64 - n * 72340172838076673 + le8 (n + d0) (n + d1) (n + d2) (n + d3) (n + d4) c5 c6 c7 := ⟨_, rfl⟩
    have hb := hm V (d0 * 1 + d1 * 256 + d2 * 65536 + d3 * 16777216 + d4 * 4294967296) b hi (by rw [hV, le8]; clear hV; omega) (by omega) (by omega) (by omega)
    have hb2 := hb' 47 (by decide) (by rw [le8]; omega)
    rw [← hV, show (2 : Nat) ^ 47 = 140737488355328 by decide, show (2 : Nat) ^ 64 = 18446744073709551616 by decide, hb] at hb2
    cases hb2
  obtain ⟨d5, rfl⟩ := Nat.exists_eq_add_of_le g5
  have g6 : n ≤ c6 := by
    have hm : ∀ V lo b hi : Nat, V = lo + 281474976710656 * b + 72057594037927936 * hi → lo < 281474976710656 → 128 ≤ b → b < 256 → V % 18446744073709551616 / 36028797018963968 % 2 = 1 := by
      intro V lo b hi h1 h2 h3 h4
      omega
    refine Nat.le_of_not_lt fun hlt => ?_
    obtain ⟨b, hbn⟩ : ∃ b, b + n = c6 + 256 := ⟨c6 + 256 - n, by omega⟩
    obtain ⟨hi, hhi⟩ : ∃ hi, hi + (1 + n * 1) = 256 + (c7 * 1) := ⟨256 + (c7 * 1) - (1 + n * 1), by omega⟩
    obtain ⟨V, hV⟩ : ∃ V, V = 2 ^ 64 - n * 72340172838076673 + le8 (n + d0) (n + d1) (n + d2) (n + d3) (n + d4) (n + d5) c6 c7 := ⟨_, rfl⟩
    have hb := hm V (d0 * 1 + d1 * 256 + d2 * 65536 + d3 * 16777216 + d4 * 4294967296 + d5 * 1099511627776) b hi (by rw [hV, le8]; clear hV; omega) (by omega) (by omega) (by omega)
    have hb2 := hb' 55 (by decide) (by rw [le8]; omega)
    rw [← hV, show (2 : Nat) ^ 55 = 36028797018963968 by decide, show (2 : Nat) ^ 64 = 18446744073709551616 by decide, hb] at hb2
    cases hb2
  obtain ⟨d6, rfl⟩ := Nat.exists_eq_add_of_le g6
  have g7 : n ≤ c7 := by
    have hm : ∀ V lo b hi : Nat, V = lo + 72057594037927936 * b + 18446744073709551616 * hi → lo < 72057594037927936 → 128 ≤ b → b < 256 → V % 18446744073709551616 / 9223372036854775808 % 2 = 1 := by
      intro V lo b hi h1 h2 h3 h4
      omega
    refine Nat.le_of_not_lt fun hlt => ?_
    obtain ⟨b, hbn⟩ : ∃ b, b + n = c7 + 256 := ⟨c7 + 256 - n, by omega⟩
    obtain ⟨hi, hhi⟩ : ∃ hi, hi = 0 := ⟨_, rfl⟩
    obtain ⟨V, hV⟩ : ∃ V, V = 2 ^ 64 - n * 72340172838076673 + le8 (n + d0) (n + d1) (n + d2) (n + d3) (n + d4) (n + d5) (n + d6) c7 := ⟨_, rfl⟩
    have hb := hm V (d0 * 1 + d1 * 256 + d2 * 65536 + d3 * 16777216 + d4 * 4294967296 + d5 * 1099511627776 + d6 * 281474976710656) b hi (by rw [hV, le8]; clear hV; omega) (by omega) (by omega) (by omega)
    have hb2 := hb' 63 (by decide) (by rw [le8]; omega)
    rw [← hV, show (2 : Nat) ^ 63 = 9223372036854775808 by decide, show (2 : Nat) ^ 64 = 18446744073709551616 by decide, hb] at hb2
    cases hb2
  obtain ⟨d7, rfl⟩ := Nat.exists_eq_add_of_le g7
  exact ⟨g0, g1, g2, g3, g4, g5, g6, g7⟩

theorem xor_byte (a b c d : Nat) (ha : a < 256) (hc : c < 256) : (a + b * 256) ^^^ (c + d * 256) = (a ^^^ c) + (b ^^^ d) * 256 := by
  have h1 := Nat.xor_mod_two_pow (a := a + b * 256) (b := c + d * 256) (n := 8)
  have h2 := Nat.xor_div_two_pow (a := a + b * 256) (b := c + d * 256) (n := 8)
  have e1 : (a + b * 256) % 2 ^ 8 = a := by omega
  have e2 : (c + d * 256) % 2 ^ 8 = c := by omega
  have e3 : (a + b * 256) / 2 ^ 8 = b := by omega
  have e4 : (c + d * 256) / 2 ^ 8 = d := by omega
  rw [e1, e2] at h1
  rw [e3, e4] at h2
  omega
theorem le8_xor {c0 c1 c2 c3 c4 c5 c6 c7 c : Nat} (h0 : c0 < 256) (h1 : c1 < 256) (h2 : c2 < 256) (h3 : c3 < 256) (h4 : c4 < 256) (h5 : c5 < 256) (h6 : c6 < 256) (_h7 : c7 < 256) (hc : c < 256) :
    le8 c0 c1 c2 c3 c4 c5 c6 c7 ^^^ le8 c c c c c c c c = le8 (c0 ^^^ c) (c1 ^^^ c) (c2 ^^^ c) (c3 ^^^ c) (c4 ^^^ c) (c5 ^^^ c) (c6 ^^^ c) (c7 ^^^ c) := by
  have e : ∀ a0 a1 a2 a3 a4 a5 a6 a7 : Nat, le8 a0 a1 a2 a3 a4 a5 a6 a7 = a0 + (a1 + (a2 + (a3 + (a4 + (a5 + (a6 + a7 * 256) * 256) * 256) * 256) * 256) * 256) * 256 := fun _ _ _ _ _ _ _ _ => by unfold le8; omega
  rw [e, e, e, xor_byte _ _ _ _ h0 hc, xor_byte _ _ _ _ h1 hc, xor_byte _ _ _ _ h2 hc, xor_byte _ _ _ _ h3 hc, xor_byte _ _ _ _ h4 hc, xor_byte _ _ _ _ h5 hc, xor_byte _ _ _ _ h6 hc]

theorem equal_of {c0 c1 c2 c3 c4 c5 c6 c7 : Nat} (h0 : c0 < 128) (h1 : c1 < 128) (h2 : c2 < 128) (h3 : c3 < 128) (h4 : c4 < 128) (h5 : c5 < 128) (h6 : c6 < 128) (h7 : c7 < 128) {x : BitVec 64} (hx : x.toNat = le8 c0 c1 c2 c3 c4 c5 c6 c7)
    (c : Nat) (hc : c < 128) (m : BitVec 64) (hm : m.toNat = c * 72340172838076673)
    (h : ((x ^^^ m) - 0x0101010101010101#64) &&& ~~~ (x ^^^ m) &&& 0x8080808080808080#64 = 0#64) : c0 ≠ c ∧ c1 ≠ c ∧ c2 ≠ c ∧ c3 ≠ c ∧ c4 ≠ c ∧ c5 ≠ c ∧ c6 ≠ c ∧ c7 ≠ c := by
  have hmx : c * 72340172838076673 = le8 c c c c c c c c := by unfold le8; omega
  have hy : (x ^^^ m).toNat = le8 (c0 ^^^ c) (c1 ^^^ c) (c2 ^^^ c) (c3 ^^^ c) (c4 ^^^ c) (c5 ^^^ c) (c6 ^^^ c) (c7 ^^^ c) := by
    rw [BitVec.toNat_xor, hx, hm, hmx]
    exact le8_xor (by omega) (by omega) (by omega) (by omega) (by omega) (by omega) (by omega) (by omega) (by omega)
  have lt : ∀ {a : Nat}, a < 128 → a ^^^ c < 128 := fun h => Nat.xor_lt_two_pow (n := 7) h hc
  have ne : ∀ {a : Nat}, 1 ≤ a ^^^ c → a ≠ c := fun h e => by subst e; rw [Nat.xor_self] at h; omega
  obtain ⟨g0, g1, g2, g3, g4, g5, g6, g7⟩ := below_of (lt h0) (lt h1) (lt h2) (lt h3) (lt h4) (lt h5) (lt h6) (lt h7) hy 1 (by decide) _ (by decide) h
  exact ⟨ne g0, ne g1, ne g2, ne g3, ne g4, ne g5, ne g6, ne g7⟩
end Go.Proofs.YtalmpddmhakdmaaGreat
