/-
  The statement FnReadSaid: for every text of bytes the law returns true, and the text reads as it did. No conditions.
-/
import Derived.Test.YtalmpddmhakdmaaGreatCJ39
import Derived.ProofKit
namespace Go.Proofs.YtalmpddmhakdmaaGreat
open Go.ChangeShapes Go.WideShapes Go.ChangeAt Go.RowKit

theorem Tryz.own : ownKnob Tryz.prog.godebug = none := by kernel_rfl
theorem Tryz.laidOut : laidOutB Tryz.prog = true := by kernel_rfl
theorem Tryz.cellsOf5 : Tryz.prog.cellsOf 5 = 1 := by kernel_rfl

/-- Numbers of bytes as bytes. -/
def asB (zs : List Int) : List UInt8 := zs.map fun z => UInt8.ofNat z.toNat
theorem asB_get {zs : List Int} (h : ∀ z ∈ zs, 0 ≤ z ∧ z ≤ 255) {i : Nat} {u : UInt8} (hu : (asB zs)[i]? = some u) : zs[i]? = some (u.toNat : Int) := by
  unfold asB at hu
  rw [List.getElem?_map] at hu
  obtain ⟨z, hz, rfl⟩ := Option.map_eq_some_iff.1 hu
  rw [hz]
  have hb := h z (List.mem_of_getElem? hz)
  have : (UInt8.ofNat z.toNat).toNat = z.toNat := by
    rw [UInt8.toNat_ofNat']
    omega
  rw [this]
  simp
  omega

set_option maxHeartbeats 800000 in
set_option maxRecDepth 100000 in
theorem f_lifted (os : Os) (started : os.Started) (H : Type) (enc : TypeId × Value → H) :
    ReturnsInHanded {} Tryz.checked os 3 .any (Rows.fnReadSpec.pre6 enc Tryz.prog Tryz.f3 Rows.fnReadRow.domain false) (Rows.fnReadSpec.post enc Tryz.prog Tryz.f3 false true false false) := by
  refine returnsInHanded_of_change (C := Tryz.checked) Tryz.own started (by kernel_rfl) Tryz.func3
    (ChangeSpec.witness6 (enc := enc) (C := Tryz.checked) false ⟨#[], #[.slice none 0 0], []⟩ 8 (by kernel_rfl) (by kernel_rfl) (by kernel_rfl) (by kernel_rfl)) ?_
  intro W base args ds gs before hval0 hW _ _
  have hval : ∀ (j : Nat) t v, Tryz.f3.params[j]? = some t → args[j]? = some v → Value.okWide Tryz.prog W .any base t v := hval0
  have hW' := hW
  obtain ⟨p, q, hA0, hV, rfl, _, _⟩ := hW
  have hA : DataW.TrodAll enc Tryz.prog W 0 (fun _ => true) true Tryz.f3.params.toList args.toList ds p := hA0
  rw [Tryz.params3] at hA hval
  obtain ⟨v0, d0, rfl, rfl, h0⟩ := trodAll_one hA
  obtain ⟨rfl, rfl⟩ := trodVars_none hV
  obtain ⟨a0, len, cap, rfl⟩ := okWide_slice Tryz.underlying22 (hval 0 22 v0 rfl rfl)
  have h0k := h0
  obtain ⟨fuel, hf⟩ := h0
  clear hA0 hval0
  simp only [List.append_nil] at hW'
  have hlt : ∀ x ∈ p, x.block < W.heap.size := fun x hx => by simpa using hW'.lt x hx
  have hargs : ∀ (W' : World), Below W.heap.size W W' → DataW.Trod enc Tryz.prog W' 0 (fun b => decide (b < W.heap.size)) true 22 (.slice a0 len cap) d0 p :=
    fun W' hn => Below.trod Tryz.laidOut (by kernel_rfl) (of_decide_eq_true (by kernel_rfl)) h0k hn hlt
  have key : ∀ B : List UInt8, B.length = len → ArgB W a0 B → B.length ≤ cap → Calls Tryz.prog 3 #[.slice a0 len cap] W fun e w' => e = .returned (.bool true) ∧ Below W.heap.size W w' := fun B hB hA hc => by
    have h := fnRead_law hA hc
    rw [hB] at h
    exact h.mono fun e w' hh => ⟨hh.1, hh.2.os, hh.2.tape, hh.2.output, hh.2.size, fun k hk => hh.2.block k hk (by simp)⟩
  have hcall : Calls Tryz.prog 3 #[.slice a0 len cap] W fun e w' => e = .returned (.bool true) ∧ Below W.heap.size W w' := by
    rcases open_ints Tryz.underlying22 Tryz.underlying5 Tryz.cellsOf5 hf with ⟨hcs, hx⟩ | ⟨a, len', cap', zs, hcs, _, hl, hm, hz, hx, hcell, hwz⟩
    · simp [Value.cells] at hcs
      obtain ⟨rfl, rfl, rfl⟩ := hcs
      exact key [] rfl (.inl rfl) (by simp)
    · simp [Value.cells] at hcs
      obtain ⟨rfl, rfl, rfl⟩ := hcs
      simp only [if_true] at hz
      have hlen : (zs.take len).length = len := by simp; omega
      refine key (asB (zs.take len)) (by unfold asB; rw [List.length_map]; exact hlen) (.inr ⟨a, rfl, fun i u hu => ?_⟩) (by unfold asB; rw [List.length_map, hlen]; exact hl)
      have hb : ∀ z ∈ zs.take len, 0 ≤ z ∧ z ≤ 255 := fun z hz' => by
        have h5 := hwz z (List.mem_of_mem_take hz')
        have e1 : IntKind.u8.min = 0 := rfl
        have e2 : IntKind.u8.max = 255 := rfl
        simpa [Lit.wf, e1, e2] using h5
      have h1 := asB_get hb hu
      have hi := (List.getElem?_eq_some_iff.1 h1).1
      have h2 : zs[i]? = some (u.toNat : Int) := by
        rw [List.getElem?_take] at h1
        split at h1
        · exact h1
        · cases h1
      have hiz := (List.getElem?_eq_some_iff.1 h2).1
      rw [hcell i (by omega)]
      simp [List.getD, h2]
  refine hcall.mono fun e W' ⟨he, hnx⟩ => ?_
  subst he
  exact ⟨_, rfl, _, _, _, [], _, [], hW', trodAll_mk1 (shut_bool Tryz.underlying4 _), trodAll_mk1 (hargs _ hnx), rfl, hnx.frame _, fun h => by cases h⟩

/-- ████ THE STATEMENT ████ -/
theorem fnRead_holds : Rows.FnReadSaid :=
  OpenClaim.holds_of_wide 3 Tryz.f3 rfl rfl rfl rfl rfl rfl rfl ⟨rfl, rfl, rfl, rfl, rfl⟩ rfl rfl rfl rfl rfl (by kernel_rfl) Tryz.func3 (by kernel_rfl)
    (of_decide_eq_true (by kernel_rfl)) (by unfold Func.isWrapper; first | (rw [if_pos (by decide +kernel)]; kernel_rfl) | (rw [if_neg (by decide +kernel)]; exact ⟨rfl, rfl⟩))
    (fun os started H enc _ => f_lifted os started H enc)
#print axioms fnRead_holds
end Go.Proofs.YtalmpddmhakdmaaGreat
