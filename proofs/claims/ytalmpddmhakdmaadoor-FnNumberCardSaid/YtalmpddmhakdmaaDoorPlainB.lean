/-
  More plain laws on the texts of numbers: what the long reader tells only grows; the letters of number texts. No conditions but those that each law states.
-/
import Derived.Test.YtalmpddmhakdmaaDoorPlain
namespace Go.Proofs.YtalmpddmhakdmaaDoor
namespace Pl

theorem rscan_grows (l : List UInt8) : ∀ (m nd : Nat) (dp : Int) (dot : Bool) (m' nd' : Nat) (dp' : Int) (dot' : Bool) (r : List UInt8), rscan l m nd dp dot = (m', nd', dp', dot', r) → m ≤ m' ∧ nd ≤ nd' := by
  induction l with
  | nil =>
    intro m nd dp dot m' nd' dp' dot' r h
    cases h
    exact ⟨Nat.le_refl _, Nat.le_refl _⟩
  | cons c l ih =>
    intro m nd dp dot m' nd' dp' dot' r h
    rw [rscan] at h
    split at h
    · split at h
      · exact ih _ _ _ _ _ _ _ _ _ h
      · have := ih _ _ _ _ _ _ _ _ _ h
        exact ⟨by omega, by omega⟩
    · split at h
      · split at h
        · cases h
          exact ⟨Nat.le_refl _, Nat.le_refl _⟩
        · exact ih _ _ _ _ _ _ _ _ _ h
      · cases h
        exact ⟨Nat.le_refl _, Nat.le_refl _⟩

/-- The letters of number texts. -/
def okC (c : UInt8) : Bool := isD c || (c == 46 || (c == 101 || (c == 43 || c == 45)))

theorem okC_clean {D : List UInt8} {b : Nat} (hD : ∀ c ∈ D, isD c = true) : ∀ c ∈ clean D b, okC c = true := by
  intro c hc
  unfold clean at hc
  rw [List.mem_append] at hc
  rcases hc with hc | hc
  · simp [okC, hD c (List.mem_of_mem_take hc)]
  · split at hc
    · cases hc
    · rcases List.mem_cons.1 hc with rfl | hc
      · decide
      · simp [okC, hD c (List.mem_of_mem_drop hc)]

theorem okC_expo (p : Int) (b s : Nat) : ∀ c ∈ expo p b s, okC c = true := by
  intro c hc
  unfold expo at hc
  split at hc
  · rcases List.mem_cons.1 hc with rfl | hc
    · decide
    · rw [List.mem_append] at hc
      rcases hc with hc | hc
      · split at hc
        · rw [List.mem_singleton] at hc
          subst hc
          decide
        · split at hc
          · rw [List.mem_singleton] at hc
            subst hc
            decide
          · cases hc
      · simp [okC, figs_digits _ _ c hc]
  · cases hc

theorem noStroke_okC {l : List UInt8} (h : ∀ c ∈ l, okC c = true) : noStroke l = l := by
  refine noStroke_none ?_
  intro hm
  have := h 95 hm
  revert this
  decide

end Pl
end Go.Proofs.YtalmpddmhakdmaaDoor
