/-
  The reader of numbers at the texts that the law makes: it tells the number that the text was made of. Conditions: the bounds on the number's parts; the library's own tables hold the powers of ten.
-/
import Derived.Test.YtalmpddmhakdmaaDoorText
import Derived.Test.YtalmpddmhakdmaaDoorReadA
import Derived.Test.YtalmpddmhakdmaaDoorReadB
import Derived.Test.YtalmpddmhakdmaaDoorReadC
import Derived.Test.YtalmpddmhakdmaaDoorReadD
import Derived.Test.YtalmpddmhakdmaaDoorReadE
import Derived.Test.YtalmpddmhakdmaaDoorReadF
import Derived.Test.YtalmpddmhakdmaaDoorReadG
import Derived.Test.YtalmpddmhakdmaaDoorReadH
namespace Go.Proofs.YtalmpddmhakdmaaDoor
open Go.RowKit

/-- The long reader at a text that we have made, without strokes. -/
theorem read_text (w : World) (m b s : Nat) (p : Int) (neg : Bool) (hm : m ≤ 4294967295) (hb : b ≤ 9) (hp0 : -13 ≤ p) (hp1 : p ≤ 22) (T : List UInt8)
    (hT : T = (if neg = true then [45] else []) ++ (Pl.clean (Pl.figs m (b + 1)) b ++ Pl.expo p b s)) (z : ByteArray) (hz : z = ⟨T.toArray⟩) :
    Calls Tryd.prog 30 #[.string z] w fun e w' => e = .returned (.tuple #[.int .u64 m, .int .i64 (if m = 0 then 0 else p - b), .bool neg, .bool false, .bool false, .int .i64 z.size, .bool true]) ∧ w = w' := by
  have hL : (Pl.figs m (b + 1)).length ≤ 10 := Pl.figs_most 10 m (b + 1) (by omega) (by omega)
  have hbL : b < (Pl.figs m (b + 1)).length := Pl.figs_least m (b + 1)
  have hD := Pl.figs_digits m (b + 1)
  have hv := Pl.figs_val m (b + 1)
  obtain ⟨nd, dp, hrs, hnd, hdp⟩ := Pl.rscan_clean hD hbL (Pl.expo_stops p b s)
  rw [hv] at hrs
  have hh := Pl.clean_head hD hbL (Pl.expo p b s)
  have hlen : T.length ≤ 18 := by
    rw [hT, List.length_append, List.length_append]
    have := Pl.clean_length _ _ hbL
    have := Pl.expo_length p b s hp0 hp1
    split <;> simp <;> omega
  have hok : ∀ c ∈ T, Pl.okC c = true := by
    intro c hc
    rw [hT, List.mem_append, List.mem_append] at hc
    rcases hc with hc | hc | hc
    · split at hc
      · rw [List.mem_singleton] at hc
        subst hc
        decide
      · cases hc
    · exact Pl.okC_clean hD c hc
    · exact Pl.okC_expo p b s c hc
  have hexp : ∀ E : Int, (if m = 0 then 0 else (if decide (b ≠ 0) = true then dp else (nd : Int)) + E - nd) = if m = 0 then 0 else E - b := by
    intro E
    split
    · rfl
    · by_cases h0 : b = 0
      · subst h0
        simp
        omega
      · have := hdp h0
        rw [if_pos (by simpa using h0)]
        omega
  have hR : ∀ E : Int, E = p → (if m = 0 then 0 else p - b) = (if m = 0 then 0 else (if decide (b ≠ 0) = true then dp else (nd : Int)) + E - nd) := by
    intro E hE
    rw [hexp E, hE]
  rcases Pl.expo_forms p b s hp0 hp1 with ⟨he, hp⟩ | ⟨sg, ds, minus, he, hs, hne, hds, hval, _, hpe⟩
  · cases neg
    · exact read_nil_false z w T _ hz hT hlen hok hh m nd dp _ _ hrs hm 0 _ (hR 0 hp.symm) ⟨he, rfl⟩
    · exact read_nil_true z w T _ hz hT hlen hok hh m nd dp _ _ hrs hm 0 _ (hR 0 hp.symm) ⟨he, rfl⟩
  · rcases hs with ⟨rfl, rfl⟩ | ⟨rfl, rfl⟩ | ⟨rfl, rfl⟩
    · cases neg
      · exact read_expo0_false z w T _ hz hT hlen hok hh m nd dp _ _ hrs hm p.natAbs _ (hR _ hpe.symm) ⟨ds, p.natAbs, he, hne, hds, hval, by omega, rfl⟩
      · exact read_expo0_true z w T _ hz hT hlen hok hh m nd dp _ _ hrs hm p.natAbs _ (hR _ hpe.symm) ⟨ds, p.natAbs, he, hne, hds, hval, by omega, rfl⟩
    · cases neg
      · exact read_expo1_false z w T _ hz hT hlen hok hh m nd dp _ _ hrs hm p.natAbs _ (hR _ hpe.symm) ⟨ds, p.natAbs, he, hne, hds, hval, by omega, rfl⟩
      · exact read_expo1_true z w T _ hz hT hlen hok hh m nd dp _ _ hrs hm p.natAbs _ (hR _ hpe.symm) ⟨ds, p.natAbs, he, hne, hds, hval, by omega, rfl⟩
    · cases neg
      · exact read_expo2_false z w T _ hz hT hlen hok hh m nd dp _ _ hrs hm (-(p.natAbs : Int)) _ (hR _ hpe.symm) ⟨ds, p.natAbs, he, hne, hds, hval, by omega, rfl⟩
      · exact read_expo2_true z w T _ hz hT hlen hok hh m nd dp _ _ hrs hm (-(p.natAbs : Int)) _ (hR _ hpe.symm) ⟨ds, p.natAbs, he, hne, hds, hval, by omega, rfl⟩

/-- What the library keeps in its own tables. -/
structure Tables (w : World) (b : Addr × Nat) : Prop where
  tens : ∀ i, i ≤ 22 → w.cell? ⟨1, i, none⟩ = some (.float .f64 (Fl.ten i))
  opt : w.cell? ⟨6, 0, none⟩ = some (.bool true)
  info : w.cell? ⟨7, 0, none⟩ = some (.int .u64 52)
  head : w.cell? ⟨10, 0, none⟩ = some (.slice (some b.1) 23 b.2)
  row : ∀ i, i ≤ 22 → w.cell? (b.1.add i) = some (.float .f64 (Fl.ten i))

theorem Tables.below {w w' : World} {b : Addr × Nat} {B : Nat} (h : Tables w b) (hw : Below B w w') (hB : w.heap.size ≤ B) : Tables w' b := by
  have hlt : ∀ {p : Addr} {v : Value}, w.cell? p = some v → w'.cell? p = some v := fun {p v} hp => (hw.cell (Nat.lt_of_lt_of_le (block_lt_of_cell hp) hB)).trans hp
  exact ⟨fun i hi => hlt (h.tens i hi), hlt h.opt, hlt h.info, hlt h.head, fun i hi => hlt (h.row i hi)⟩

theorem parse_text (w : World) (m b s : Nat) (p : Int) (neg : Bool) (hm : m ≤ 4294967295) (hb : b ≤ 9) (hp0 : -13 ≤ p) (hp1 : p ≤ 22) (T : List UInt8)
    (hT : T = (if neg = true then [45] else []) ++ (Pl.clean (Pl.figs m (b + 1)) b ++ Pl.expo p b s)) (bb : Addr × Nat) (ht : Tables w bb) :
    Calls Tryd.prog 13 #[.string ⟨T.toArray⟩, .int .i64 64] w fun e w' => e = .returned (.tuple #[.float .f64 (Fl.signed neg (Fl.told m (p - b))), .nilIface]) ∧ w = w' := by
  have hbL : b < (Pl.figs m (b + 1)).length := Pl.figs_least m (b + 1)
  have hD := Pl.figs_digits m (b + 1)
  obtain ⟨z, hz⟩ : ∃ z : ByteArray, z = ⟨T.toArray⟩ := ⟨_, rfl⟩
  have hrd := read_text w m b s p neg hm hb hp0 hp1 T hT z hz
  have hsize : z.size = T.length := by rw [hz]; rfl
  have hlen : T.length ≤ 18 := by
    have hL : (Pl.figs m (b + 1)).length ≤ 10 := Pl.figs_most 10 m (b + 1) (by omega) (by omega)
    rw [hT, List.length_append, List.length_append]
    have := Pl.clean_length _ _ hbL
    have := Pl.expo_length p b s hp0 hp1
    split <;> simp <;> omega
  have hget : ∀ (i : Nat) (c : UInt8), T[i]? = some c → ∃ h : i < z.size, z[i]'h = c := by
    intro i c h
    subst hz
    obtain ⟨h1, h2⟩ := List.getElem?_eq_some_iff.1 h
    exact ⟨h1, h2⟩
  obtain ⟨c, q, hcq, hcd⟩ := Pl.clean_head hD hbL (Pl.expo p b s)
  rw [hcq] at hT
  have hcd' := Pl.isD_iff.1 hcd
  have hsp : Calls Tryd.prog 29 #[.string z] w fun e w' => e = .returned (.tuple #[.float .f64 0, .int .i64 0, .bool false]) ∧ w = w' := by
    cases neg
    · obtain ⟨h1, h2⟩ := hget 0 c (by rw [hT]; simp)
      exact special_none z w h1 c h2 hcd'
    · obtain ⟨h1, h2⟩ := hget 0 45 (by rw [hT]; simp)
      obtain ⟨h3, h4⟩ := hget 1 c (by rw [hT]; simp)
      exact special_minus z w h3 (by omega) h2 c h4 hcd'
  have hF : Fl.signed neg (Fl.told m (if m = 0 then 0 else p - b)) = Fl.signed neg (Fl.told m (p - b)) := by
    by_cases h0 : m = 0
    · subst h0
      rw [if_pos rfl, Fl.told_none (by omega) (by omega), Fl.told_none (by omega) (by omega)]
    · rw [if_neg h0]
  have ha := atof_any z w m (if m = 0 then 0 else p - b) neg hm (by split <;> omega) (fun h => if_pos h) hsp hrd bb.1 bb.2 ht.opt ht.info ht.head ht.row
  rw [hF] at ha
  rw [← hz]
  exact prefix_any z w _ ha

/-- The reader of numbers at a text that we have made. -/
theorem float_text (g cap : Nat) (w : World) (m b s : Nat) (p : Int) (neg : Bool) (hm : m ≤ 4294967295) (hb : b ≤ 9) (hp0 : -13 ≤ p) (hp1 : p ≤ 22) (T : List UInt8) (hT : T = texted m b s p neg) (hcap : T.length ≤ cap)
    (hc : ∀ i c, T[i]? = some c → w.cell? ⟨g, i, none⟩ = some (.int .u8 (c.toNat : Int))) (hg : g < w.heap.size) (bb : Addr × Nat) (ht : Tables w bb) :
    Calls Tryd.prog 8 #[.slice (some ⟨g, 0, none⟩) T.length cap] w fun e w' => e = .returned (.tuple #[.float .f64 (Fl.signed neg (Fl.told m (p - b))), .nilIface]) ∧ Below w.heap.size w w' := by
  have hbL : b < (Pl.figs m (b + 1)).length := Pl.figs_least m (b + 1)
  have hD := Pl.figs_digits m (b + 1)
  obtain ⟨L, hLL⟩ : ∃ L, (Pl.figs m (b + 1)).length = L + 1 := ⟨(Pl.figs m (b + 1)).length - 1, by omega⟩
  obtain ⟨c, t, e', hD'⟩ := Pl.mant_head (D := Pl.figs m (b + 1)) (b := b) (s := s) L (by intro e; rw [e] at hbL; simp at hbL)
  have hh : ∃ c r, Pl.mant (Pl.figs m (b + 1)) b s (Pl.figs m (b + 1)).length ++ Pl.expo p b s = c :: r ∧ Pl.isD c = true := by
    rw [hLL, e']
    exact ⟨c, _, rfl, hD c (by rw [hD']; simp)⟩
  by_cases hn : 95 ∈ Pl.mant (Pl.figs m (b + 1)) b s (Pl.figs m (b + 1)).length
  · obtain ⟨hf, hlen⟩ := fast_struck g cap w m b s p neg hm hb hp0 hp1 T hT hcap hc hn
    have hs : 95 ∈ T := by
      rw [hT]
      unfold texted
      simp [hn]
    have hstr : Pl.noStroke T = (if neg = true then [45] else []) ++ (Pl.clean (Pl.figs m (b + 1)) b ++ Pl.expo p b s) := by
      rw [hT]
      unfold texted
      rw [Pl.noStroke_append, Pl.noStroke_append, Pl.noStroke_mant hD, Pl.plains_all hbL, Pl.noStroke_okC (Pl.okC_expo p b s)]
      congr 1
      cases neg <;> rfl
    have hp : ∀ wr, Below w.heap.size w wr → Calls Tryd.prog 13 #[.string ⟨(Pl.noStroke T).toArray⟩, .int .i64 64] wr fun e w' => e = .returned (.tuple #[.float .f64 (Fl.signed neg (Fl.told m (p - b))), .nilIface]) ∧ wr = w' :=
      fun wr hw => parse_text wr m b s p neg hm hb hp0 hp1 _ hstr bb (ht.below hw (Nat.le_refl _))
    unfold texted at hT
    cases neg
    · cases h3 : ((T.length : Int) == 3)
      · exact float_slow_false_false g cap w T _ hlen hg hT hc hh hs h3 _ hf hp
      · exact float_slow_false_true g cap w T _ hlen hg hT hc hh hs h3 _ hf hp
    · cases h3 : ((T.length : Int) == 4)
      · exact float_slow_true_false g cap w T _ hlen hg hT hc hh hs h3 _ hf hp
      · exact float_slow_true_true g cap w T _ hlen hg hT hc hh hs h3 _ hf hp
  · have hf := fast_text g cap w m b s p neg hm hb hp0 hp1 T hT hcap hc ht.tens hn
    unfold texted at hT
    refine (float_fast g cap w neg T _ hT hc hh _ hf).mono ?_
    rintro e w' ⟨rfl, rfl⟩
    exact ⟨rfl, Below.refl _ _⟩
end Go.Proofs.YtalmpddmhakdmaaDoor
