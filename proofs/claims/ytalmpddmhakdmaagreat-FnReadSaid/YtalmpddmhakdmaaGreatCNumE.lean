/-
  The walk of a function of the spec's parser: a number, a date or a time, whole. Conditions: the parser lies in memory as stated; the text is not empty.
-/
import Derived.Test.YtalmpddmhakdmaaGreatCNumD
namespace Go.Proofs.YtalmpddmhakdmaaGreat
open Go.RowKit

theorem SgR.det {B : List UInt8} {k s t : Nat} (h : SgR B k s) (g : SgR B k t) : s = t := by
  rcases h with ⟨h1, h2⟩ | ⟨h1, h2⟩ <;> rcases g with ⟨g1, g2⟩ | ⟨g1, g2⟩
  · omega
  · rcases h2 with h | h
    · exact absurd h g2.1
    · exact absurd h g2.2
  · rcases g2 with h | h
    · exact absurd h h2.1
    · exact absurd h h2.2
  · omega

theorem number_any {w : World} {pb : Nat} {a : Addr} {C : Nat} {B : List UInt8} {k : Nat} {st : Int} (hS : SP w pb a C B k st) (hk : k ≤ B.length) (hB : B ≠ []) :
    Calls Tryz.prog 32 #[.pointer (some ⟨pb, 0, none⟩)] w (VPost pb a C B k st w (NumR B k)) := by
  by_cases hd : dayB B k
  · exact number_date hS hk hd
  by_cases hh : hourB B k
  · exact number_clock hS hk hd hh
  by_cases h0 : pk B k = 48 ∧ pk B (k + 1) = 120
  · exact number_radix0 hS hk hd hh h0.1 h0.2
  by_cases h1 : pk B k = 48 ∧ pk B (k + 1) = 111
  · exact number_radix1 hS hk hd hh h1.1 h1.2
  by_cases h2 : pk B k = 48 ∧ pk B (k + 1) = 98
  · exact number_radix2 hS hk hd hh h2.1 h2.2
  have hnr : ∀ d, radB d ≠ 0 → (pk B k == 48 && pk B (k + 1) == d) = false := by
    intro d hd
    simp only [Bool.and_eq_false_iff, beq_eq_false_iff_ne, ne_eq]
    by_cases h : pk B k = 48
    · refine .inr fun e => ?_
      unfold radB at hd
      by_cases e1 : d = 120
      · exact h0 ⟨h, e.trans e1⟩
      rw [if_neg e1] at hd
      by_cases e2 : d = 111
      · exact h1 ⟨h, e.trans e2⟩
      rw [if_neg e2] at hd
      by_cases e3 : d = 98
      · exact h2 ⟨h, e.trans e3⟩
      rw [if_neg e3] at hd
      exact hd rfl
    · exact .inl h
  by_cases hy : ∀ s, SgR B k s → ((pk B (k + s) == 105 && pk B (k + s + 1) == 110 && pk B (k + s + 2) == 102) || (pk B (k + s) == 110 && pk B (k + s + 1) == 97 && pk B (k + s + 2) == 110)) = true
  · exact number_word hS hk hB hd hh hnr hy
  · refine number_dec hS hk hB hd hh hnr fun s hs => ?_
    rw [Classical.not_forall] at hy
    obtain ⟨s0, hy⟩ := hy
    rw [Classical.not_imp] at hy
    obtain ⟨hs0, hy⟩ := hy
    obtain rfl := hs.det hs0
    rw [Bool.or_eq_true, not_or] at hy
    exact hy
end Go.Proofs.YtalmpddmhakdmaaGreat
