/-
  The short reader at the texts that the law makes: what it tells with and without strokes. Conditions: the bounds on the number's parts.
-/
import Derived.Test.YtalmpddmhakdmaaDoorSlow
import Derived.Test.YtalmpddmhakdmaaDoorMake
import Derived.Test.YtalmpddmhakdmaaDoorFastA
import Derived.Test.YtalmpddmhakdmaaDoorFastB
import Derived.Test.YtalmpddmhakdmaaDoorFastC
namespace Go.Proofs.YtalmpddmhakdmaaDoor
open Go.RowKit

namespace Pl
theorem fscan_ahead (v : List UInt8) : ∀ (r : List UInt8) (m d f : Nat) (dot : Bool) (m' d' f' : Nat) (w : List UInt8), fscan (v ++ 95 :: r) m d f dot = some (m', d', f', 95 :: w) → 95 ∉ v → d' ≤ d + v.length := by
  induction v with
  | nil =>
    intro r m d f dot m' d' f' w h _
    rw [List.nil_append, fscan_stop (by decide) (by decide)] at h
    cases h
    simp
  | cons c v ih =>
    intro r m d f dot m' d' f' w h hn
    have hc : c ≠ 95 := by rintro rfl; exact hn (by simp)
    have hv : 95 ∉ v := fun h => hn (by simp [h])
    rw [List.cons_append, fscan] at h
    rw [List.length_cons]
    split at h
    · split at h
      · cases h
      · have := ih _ _ _ _ _ _ _ _ _ h hv
        omega
    · split at h
      · split at h
        · cases h
        · have := ih _ _ _ _ _ _ _ _ _ h hv
          omega
      · injection h with h
        injection h with _ h
        injection h with _ h
        injection h with _ h
        injection h with h _
        exact absurd h hc

theorem clean_length (D : List UInt8) (b : Nat) (hb : b < D.length) : (clean D b).length ≤ D.length + 1 := by
  unfold clean
  rw [List.length_append, List.length_take]
  split
  · simp; omega
  · rw [List.length_cons, List.length_drop]; omega

theorem fscan_stroke_small {D : List UInt8} {b s : Nat} (hD : ∀ c ∈ D, isD c = true) (hl : D.length ≤ 10) (hb : b < D.length) (h : 95 ∈ mant D b s D.length) (r : List UInt8) :
    ∃ m d f w, fscan (mant D b s D.length ++ r) 0 0 0 false = some (m, d, f, 95 :: w) ∧ 0 < d ∧ m ≤ 100000000000 := by
  obtain ⟨m, d, f, w, h1, h2⟩ := fscan_stroke hD hl hb h r
  refine ⟨m, d, f, w, h1, h2, ?_⟩
  obtain ⟨v, w', e, hv⟩ := first_stroke _ h
  have hc : noStroke (mant D b s D.length) = clean D b := by rw [noStroke_mant hD, plains_all hb]
  have hlen := clean_length D b hb
  rw [← hc, e, noStroke_append, noStroke_none hv, List.length_append] at hlen
  have hb' := fscan_below _ _ _ _ _ _ _ _ _ h1 (by decide)
  rw [e, List.append_assoc, List.cons_append] at h1
  have hd := fscan_ahead v _ _ _ _ _ _ _ _ _ h1 hv
  have : (10 : Nat) ^ d ≤ 10 ^ 11 := Nat.pow_le_pow_right (by decide) (by omega)
  have h11 : (10 : Nat) ^ 11 = 100000000000 := by decide
  omega

theorem mant_clean {D : List UInt8} {b s : Nat} (hD : ∀ c ∈ D, isD c = true) (hb : b < D.length) (h : 95 ∉ mant D b s D.length) : mant D b s D.length = clean D b := by
  rw [← plains_all hb, ← noStroke_mant hD b s, noStroke_none h]

theorem expo_length (p : Int) (b s : Nat) (hp0 : -13 ≤ p) (hp1 : p ≤ 22) : (expo p b s).length ≤ 4 := by
  rcases expo_forms p b s hp0 hp1 with ⟨h, _⟩ | ⟨sg, ds, minus, h, hs, _, _, _, hl, _⟩
  · rw [h]; simp
  · rw [h, List.length_cons, List.length_append]
    rcases hs with ⟨rfl, _⟩ | ⟨rfl, _⟩ | ⟨rfl, _⟩ <;> simp <;> omega
theorem mant_length (D : List UInt8) (b s : Nat) : ∀ k, (mant D b s k).length ≤ 3 * k := by
  intro k
  induction k with
  | zero => simp [mant]
  | succ k ih =>
    rw [mant, List.length_append]
    have : (piece D b s k).length ≤ 3 := by
      unfold piece
      rw [List.length_append, List.length_append, List.length_take]
      split <;> split <;> simp <;> omega
    omega

theorem clean_head {D : List UInt8} {b : Nat} (hD : ∀ c ∈ D, isD c = true) (hb : b < D.length) (r : List UInt8) : ∃ c q, clean D b ++ r = c :: q ∧ isD c = true := by
  obtain ⟨c, t, rfl⟩ := List.exists_cons_of_ne_nil (show D ≠ [] by intro e; rw [e] at hb; simp at hb)
  unfold clean
  obtain ⟨n, hn⟩ : ∃ n, (c :: t).length - b = n + 1 := ⟨(c :: t).length - b - 1, by omega⟩
  rw [hn]
  exact ⟨c, _, rfl, hD c (by simp)⟩
end Pl

/-- The short reader at a text that we have made. -/
theorem fast_text (g cap : Nat) (w : World) (m b s : Nat) (p : Int) (neg : Bool) (hm : m ≤ 4294967295) (hb : b ≤ 9) (hp0 : -13 ≤ p) (hp1 : p ≤ 22) (T : List UInt8) (hT : T = texted m b s p neg) (hcap : T.length ≤ cap)
    (hc : ∀ i c, T[i]? = some c → w.cell? ⟨g, i, none⟩ = some (.int .u8 (c.toNat : Int))) (htab : ∀ i, i ≤ 22 → w.cell? ⟨1, i, none⟩ = some (.float .f64 (Fl.ten i)))
    (hn : 95 ∉ Pl.mant (Pl.figs m (b + 1)) b s (Pl.figs m (b + 1)).length) :
    Calls Tryd.prog 11 #[.slice (some ⟨g, 0, none⟩) T.length cap] w fun e w' => e = .returned (.tuple #[.float .f64 (Fl.signed neg (Fl.told m (p - b))), .bool true]) ∧ w = w' := by
  have hL : (Pl.figs m (b + 1)).length ≤ 10 := Pl.figs_most 10 m (b + 1) (by omega) (by omega)
  have hbL : b < (Pl.figs m (b + 1)).length := Pl.figs_least m (b + 1)
  have hD := Pl.figs_digits m (b + 1)
  have hv := Pl.figs_val m (b + 1)
  have hcl := Pl.mant_clean (s := s) hD hbL hn
  unfold texted at hT
  rw [hcl] at hT
  have hfs := Pl.fscan_clean hD (by omega) hbL (Pl.expo_stops p b s)
  rw [hv] at hfs
  have hh := Pl.clean_head hD hbL (Pl.expo p b s)
  have hlen : T.length ≤ 100 := by
    rw [hT, List.length_append, List.length_append]
    have := Pl.clean_length _ _ hbL
    have := Pl.expo_length p b s hp0 hp1
    split <;> simp <;> omega
  rcases Pl.expo_forms p b s hp0 hp1 with ⟨he, hp⟩ | ⟨sg, ds, minus, he, hs, hne, hds, hval, _, hpe⟩
  · exact fast_nil g cap w neg T _ hT hlen hcap hc hh m _ b (Pl.expo p b s) hfs (by omega) (by omega) _ true htab ⟨he, by omega, hm, rfl, by rw [hp, Int.zero_sub]⟩
  · exact fast_expo g cap w neg T _ hT hlen hcap hc hh m _ b (Pl.expo p b s) hfs (by omega) (by omega) _ true htab
      ⟨sg, ds, minus, p.natAbs, p - b, he, hs, hne, hds, hval, by omega, by rw [← hpe], by omega, by omega, hm, rfl, rfl⟩

/-- The short reader at a text that we have made, with strokes. -/
theorem fast_struck (g cap : Nat) (w : World) (m b s : Nat) (p : Int) (neg : Bool) (hm : m ≤ 4294967295) (hb : b ≤ 9) (hp0 : -13 ≤ p) (hp1 : p ≤ 22) (T : List UInt8) (hT : T = texted m b s p neg) (hcap : T.length ≤ cap)
    (hc : ∀ i c, T[i]? = some c → w.cell? ⟨g, i, none⟩ = some (.int .u8 (c.toNat : Int)))
    (hn : 95 ∈ Pl.mant (Pl.figs m (b + 1)) b s (Pl.figs m (b + 1)).length) :
    (Calls Tryd.prog 11 #[.slice (some ⟨g, 0, none⟩) T.length cap] w fun e w' => e = .returned (.tuple #[.float .f64 0, .bool false]) ∧ w = w') ∧ T.length ≤ 100 := by
  have hL : (Pl.figs m (b + 1)).length ≤ 10 := Pl.figs_most 10 m (b + 1) (by omega) (by omega)
  have hbL : b < (Pl.figs m (b + 1)).length := Pl.figs_least m (b + 1)
  have hD := Pl.figs_digits m (b + 1)
  unfold texted at hT
  obtain ⟨L, hLL⟩ : ∃ L, (Pl.figs m (b + 1)).length = L + 1 := ⟨(Pl.figs m (b + 1)).length - 1, by omega⟩
  obtain ⟨c, t, e', hD'⟩ := Pl.mant_head (D := Pl.figs m (b + 1)) (b := b) (s := s) L (by intro e; rw [e] at hbL; simp at hbL)
  have hh : ∃ c r, Pl.mant (Pl.figs m (b + 1)) b s (Pl.figs m (b + 1)).length ++ Pl.expo p b s = c :: r ∧ Pl.isD c = true := by
    rw [hLL, e']
    exact ⟨c, _, rfl, hD c (by rw [hD']; simp)⟩
  obtain ⟨m', d, f, v, h1, h2, h3⟩ := Pl.fscan_stroke_small hD hL hbL hn (Pl.expo p b s)
  have hlen : T.length ≤ 100 := by
    rw [hT, List.length_append, List.length_append]
    have := Pl.mant_length (Pl.figs m (b + 1)) b s (Pl.figs m (b + 1)).length
    have := Pl.expo_length p b s hp0 hp1
    split <;> simp <;> omega
  exact ⟨fast_stroke g cap w neg T _ hT hlen hcap hc hh m' d f _ h1 h3 h2 0 false ⟨v, rfl, rfl, rfl⟩, hlen⟩
end Go.Proofs.YtalmpddmhakdmaaDoor
