/-
  PROVED: the tied card of the law FnNumber: for every input it answers true, and each argument reads afterwards as it read before. Conditions: the listed package variables start as the program's text lays them, which the card ties.
-/
import Derived.Test.YtalmpddmhakdmaaDoorFn
import Derived.Test.YtalmpddmhakdmaaDoorCards
import Derived.Test.YtalmpddmhakdmaaDoorTie
import Derived.ProofKit
import Derived.OpenShut
import Derived.OpenVars
import Derived.LaidMore
import Derived.Lay
import Derived.Lib.LaidU8
import Derived.SevenTiedAt
import Derived.Stop.Joined
namespace Go.Proofs.YtalmpddmhakdmaaDoor
open Go.ChangeShapes Go.WideShapes Go.ChangeAt Go.RowKit

theorem Tryd.own : ownKnob Tryd.prog.godebug = none := by kernel_rfl
theorem Tryd.laidOut : laidOutB Tryd.prog = true := by kernel_rfl
theorem cells25 : Tryd.prog.cellsOf 25 = 1 := by kernel_rfl
theorem cells33 : Tryd.prog.cellsOf 33 = 1 := by kernel_rfl

def tenData {H : Type} : List (DataW H) := (List.range 23).map fun i => .lit (.float .f64 (Fl.ten i))
theorem data1 : (Rows.laid_loop_example_pub_g03439_pub_gttoml_float64pow10 : DataW Unit) = .agg tenData := by kernel_rfl
theorem data10 : (Rows.laid_internal_strconv_float64pow10 : DataW Unit) = .slice tenData [] := by kernel_rfl

section
variable {w : World} {base : Nat} {sp : Nat → Bool} {held : Bool} {fuel : Nat} {cs : List Value} {p : List MemPlace}
theorem trod_float' {H : Type} {enc : TypeId × Value → H} {P : Program} {t : TypeId} {k : FloatKind} {x : DataW H × List MemPlace} (ht : P.underlying t = some (.float k)) (h : DataW.trod enc P w base sp held fuel t cs = some x) : ∃ b, cs = [.float k b] ∧ x = (.lit (.float k b), []) := by
  cases fuel with
  | zero => simp [DataW.trod] at h
  | succ n =>
    unfold DataW.trod at h
    rw [ht] at h
    split at h <;> simp_all
theorem float_cell {x : DataW Unit × List MemPlace} (h : DataW.trod (fun _ => ()) Tryd.prog w base sp held fuel 25 cs = some x) : ∃ b, cs = [.float .f64 b] ∧ x = (.lit (.float .f64 b), []) := trod_float' Tryd.underlying25 h

theorem ten_at (i : Nat) (hi : i ≤ 22) : (tenData : List (DataW Unit))[i]? = some (.lit (.float .f64 (Fl.ten i))) := by
  unfold tenData
  rw [List.getElem?_map, List.getElem?_range (by omega)]
  rfl

theorem tens_of_array (h : DataW.trod (fun _ => ()) Tryd.prog w base sp held fuel 47 cs = some (.agg tenData, p)) (i : Nat) (hi : i ≤ 22) : cs[i]? = some (.float .f64 (Fl.ten i)) := by
  obtain ⟨xs, m, _, ex, _, hl, hel⟩ := DataW.trod_array Tryd.underlying47 h
  have hE := hel i (by omega)
  rw [cells25, Nat.mul_one, List.getElem?_eq_getElem (by omega)] at hE
  obtain ⟨b, e1, e2⟩ := float_cell hE
  have e3 : (tenData : List (DataW Unit)) = xs.map (·.1) := DataW.agg.inj (Prod.mk.inj ex).1
  have e4 := ten_at i hi
  rw [e3, List.getElem?_map, List.getElem?_eq_getElem (by omega), e2] at e4
  have hb : b = Fl.ten i := by simpa using e4
  have h0 : ((cs.drop i).take 1)[0]? = some (.float .f64 b) := by rw [e1]; rfl
  rw [hb] at h0
  simpa using h0

theorem tables {W : World} (h : laidMetH Tryd.prog Rows.fnNumberRow.laid W) : ∃ bb, Tables W bb := by
  rw [MakeChecks.laidMetH_plain _ _ _ (by kernel_rfl)] at h
  have r1 : Lib.VarReads Tryd.prog W "loop.example/pub-g03439/pub/gttoml.float64pow10" (.agg tenData) := by
    rw [← data1]
    exact Lib.laidMet.reads h (by simp [Rows.fnNumberRow])
  have r6 : Lib.VarReads Tryd.prog W "internal/strconv.optimize" (.lit (.bool true)) := Lib.laidMet.reads h (by simp [Rows.fnNumberRow, Rows.laid_internal_strconv_optimize])
  have r7 : Lib.VarReads Tryd.prog W "internal/strconv.float64info" (.agg [.lit (.int .u64 52), .lit (.int .u64 11), .lit (.int .i64 (-1023))]) := Lib.laidMet.reads h (by simp [Rows.fnNumberRow, Rows.laid_internal_strconv_float64info])
  have r10 : Lib.VarReads Tryd.prog W "internal/strconv.float64pow10" (.slice tenData []) := by
    rw [← data10]
    exact Lib.laidMet.reads h (by simp [Rows.fnNumberRow])
  clear h
  obtain ⟨g1, t1, cs1, f1, p1, a1, b1, c1, d1⟩ := r1
  obtain ⟨g6, t6, cs6, f6, p6, a6, b6, c6, d6⟩ := r6
  obtain ⟨g7, t7, cs7, f7, p7, a7, b7, c7, d7⟩ := r7
  obtain ⟨g10, t10, cs10, f10, p10, a10, b10, c10, d10⟩ := r10
  obtain rfl := Option.some.inj ((show Tryd.prog.globalNamed "loop.example/pub-g03439/pub/gttoml.float64pow10" = some 1 by kernel_rfl).symm.trans a1)
  obtain rfl := Option.some.inj ((show (Tryd.prog.globals[1]?).map (·.type) = some 47 by kernel_rfl).symm.trans b1)
  obtain rfl := Option.some.inj ((show Tryd.prog.globalNamed "internal/strconv.optimize" = some 6 by kernel_rfl).symm.trans a6)
  obtain rfl := Option.some.inj ((show (Tryd.prog.globals[6]?).map (·.type) = some 4 by kernel_rfl).symm.trans b6)
  obtain rfl := Option.some.inj ((show Tryd.prog.globalNamed "internal/strconv.float64info" = some 7 by kernel_rfl).symm.trans a7)
  obtain rfl := Option.some.inj ((show (Tryd.prog.globals[7]?).map (·.type) = some 74 by kernel_rfl).symm.trans b7)
  obtain rfl := Option.some.inj ((show Tryd.prog.globalNamed "internal/strconv.float64pow10" = some 10 by kernel_rfl).symm.trans a10)
  obtain rfl := Option.some.inj ((show (Tryd.prog.globals[10]?).map (·.type) = some 112 by kernel_rfl).symm.trans b10)
  obtain ⟨a, cap, hcs, _, hrow⟩ := open_row Tryd.underlying112 cells25 d10
  refine ⟨(a, cap), ?_, ?_, ?_, ?_, ?_⟩
  · intro i hi
    rw [World.var?_cell a1 c1 i]
    simpa using tens_of_array d1 i hi
  · obtain ⟨b, e1, e2⟩ := DataW.trod_bool Tryd.underlying4 d6
    have : b = true := by simpa using (Prod.mk.inj e2).1.symm
    subst this
    rw [World.var?_cell a6 c6 0]
    have h0 : cs6.toList[0]? = some (.bool true) := by rw [e1]; rfl
    simpa using h0
  · obtain ⟨xs, m, _, ex, _, hl, hel⟩ := DataW.trod_struct Tryd.underlying74 d7
    have hE : DataW.trod (fun _ => ()) Tryd.prog W 0 (fun _ => true) false m 33 ((cs7.toList.drop 0).take (Tryd.prog.cellsOf 33)) = xs[0]? := hel 0 _ rfl
    rw [List.getElem?_eq_getElem (by rw [hl]; decide), show Tryd.prog.cellsOf 33 = 1 from cells33] at hE
    obtain ⟨k, e1, e2, _⟩ := DataW.trod_int Tryd.underlying33 hE
    have e3 := DataW.agg.inj (Prod.mk.inj ex).1
    have e4 : (xs.map (·.1))[0]? = some (.lit (.int .u64 52)) := by rw [← e3]; rfl
    rw [List.getElem?_map, List.getElem?_eq_getElem (by rw [hl]; decide), e2] at e4
    have hk : k = 52 := by simpa using e4
    subst hk
    rw [World.var?_cell a7 c7 0]
    have h0 : ((cs7.toList.drop 0).take 1)[0]? = some (.int .u64 52) := by rw [e1]; rfl
    simpa using h0
  · rw [World.var?_cell a10 c10 0]
    have h0 : cs10.toList[0]? = some (.slice (some a) 23 cap) := by rw [hcs]; rfl
    simpa using h0
  · intro i hi
    obtain ⟨v, n, q, h1, h2⟩ := hrow i _ (ten_at i hi)
    obtain ⟨b, e1, e2⟩ := float_cell h2
    have hb : b = Fl.ten i := by simpa using (Prod.mk.inj e2).1.symm
    have hv : v = .float .f64 b := by simpa using e1
    rw [h1, hv, hb]
end

set_option maxRecDepth 100000 in
theorem lifted (os : Os) (started : os.Started) (H : Type) (enc : TypeId × Value → H) :
    ReturnsInHanded {} Tryd.checked os 3 .any (fun w args => (Rows.fnNumberSpec.pre enc Tryd.prog Tryd.f3 [] false w args ∧ laidMetH Tryd.prog Rows.fnNumberRow.laid w) ∧ sizedMet enc Tryd.prog Tryd.f3 (OpenSpec.ofChange Rows.fnNumberSpec) false w args)
      (Rows.fnNumberSpec.post enc Tryd.prog Tryd.f3 false true false false) := by
  refine returnsInHanded_of_change_and (C := Tryd.checked) (X := fun w _ => laidMetH Tryd.prog Rows.fnNumberRow.laid w) (fun _ _ _ hh h => h.of_heap hh) Tryd.own started (by kernel_rfl) Tryd.func3
    (ChangeSpec.witness_shaped (enc := enc) (C := Tryd.checked) (os := os) (X := fun w _ => laidMetH Tryd.prog Rows.fnNumberRow.laid w) false (World.laidAll Tryd.prog os Rows.fnNumberRow.laid) #[.int .u32 0, .int .u8 0, .int .i8 0, .bool false, .int .u16 0] 8 (World.laidAll_os _ _ _)
      (World.shaped_of_ZipB (by kernel_rfl) (by kernel_rfl)) (by kernel_rfl) (by kernel_rfl) (by kernel_rfl)
      (by rw [MakeChecks.laidMetH_plain _ _ _ (by kernel_rfl)]; exact laidMet_laidAll _ (by kernel_rfl) (by kernel_rfl))) ?_
  intro W base args ds gs before hval0 hW _ _ hL _
  have hval : ∀ (j : Nat) t v, Tryd.f3.params[j]? = some t → args[j]? = some v → Value.okWide Tryd.prog W .any base t v := hval0
  have hW' := hW
  obtain ⟨p, q, hA0, hV, rfl, _, _⟩ := hW
  have hA : DataW.TrodAll enc Tryd.prog W 0 (fun _ => true) true Tryd.f3.params.toList args.toList ds p := hA0
  rw [Tryd.params3] at hA hval
  obtain ⟨v0, vs0, d0, ds0, p0, q0, hargs, rfl, rfl, h0, r0⟩ := trodAll_cons hA
  obtain ⟨v1, vs1, d1, ds1, p1, q1, rfl, rfl, rfl, h1, r1⟩ := trodAll_cons r0
  obtain ⟨v2, vs2, d2, ds2, p2, q2, rfl, rfl, rfl, h2, r2⟩ := trodAll_cons r1
  obtain ⟨v3, vs3, d3, ds3, p3, q3, rfl, rfl, rfl, h3, r3⟩ := trodAll_cons r2
  obtain ⟨v4, vs4, d4, ds4, p4, q4, rfl, rfl, rfl, h4, r4⟩ := trodAll_cons r3
  obtain ⟨rfl, rfl, rfl⟩ := trodAll_nil r4
  obtain rfl : args = #[v0, v1, v2, v3, v4] := by cases args; simp_all
  obtain ⟨m, rfl, rfl, rfl, wm⟩ := open_int Tryd.underlying22 (hval 0 22 v0 rfl rfl) h0
  obtain ⟨d, rfl, rfl, rfl, wd⟩ := open_int Tryd.underlying5 (hval 1 5 v1 rfl rfl) h1
  obtain ⟨e, rfl, rfl, rfl, we⟩ := open_int Tryd.underlying23 (hval 2 23 v2 rfl rfl) h2
  obtain ⟨neg, rfl, rfl, rfl⟩ := open_bool Tryd.underlying4 (hval 3 4 v3 rfl rfl) h3
  obtain ⟨s, rfl, rfl, rfl, ws⟩ := open_int Tryd.underlying24 (hval 4 24 v4 rfl rfl) h4
  have bm : 0 ≤ m ∧ m ≤ 4294967295 := by simpa [Lit.wf, IntKind.min, IntKind.max, IntKind.signed, IntKind.bits] using wm
  have bd : 0 ≤ d ∧ d ≤ 255 := by simpa [Lit.wf, IntKind.min, IntKind.max, IntKind.signed, IntKind.bits] using wd
  have be : -128 ≤ e ∧ e ≤ 127 := by simpa [Lit.wf, IntKind.min, IntKind.max, IntKind.signed, IntKind.bits] using we
  have bs : 0 ≤ s ∧ s ≤ 65535 := by simpa [Lit.wf, IntKind.min, IntKind.max, IntKind.signed, IntKind.bits] using ws
  obtain ⟨bb, hT⟩ := tables hL
  obtain ⟨m, rfl⟩ : ∃ k : Nat, m = k := ⟨m.toNat, by omega⟩
  obtain ⟨s, rfl⟩ : ∃ k : Nat, s = k := ⟨s.toNat, by omega⟩
  have hb : d.tmod 10 = ((d % 10).toNat : Int) := by
    rw [Int.tmod_eq_emod_of_nonneg bd.1]
    omega
  obtain ⟨g, hg⟩ : ∃ g, gs = [g] := by
    obtain ⟨_, _, _, _, g, _, hg, _⟩ := trodVars_one hV
    exact ⟨g, hg⟩
  subst hg
  simp only [List.append_nil] at hW'
  refine (fn_any W m (d % 10).toNat s d e _ neg (by omega) (by omega) (by omega) rfl hb be.1 be.2 bb hT).mono fun r W' ⟨hr, hbel⟩ => ?_
  subst hr
  exact ⟨_, rfl, _, _, _, [], _, q, hW', trodAll_mk1 (shut_bool Tryd.underlying4 _),
    trodAll_cons_mk (shut_int Tryd.underlying22 wm) (trodAll_cons_mk (shut_int Tryd.underlying5 wd) (trodAll_cons_mk (shut_int Tryd.underlying23 we) (trodAll_cons_mk (shut_bool Tryd.underlying4 _) (trodAll_cons_mk (shut_int Tryd.underlying24 ws) trodAll_mk0)))),
    hbel.trodVars Tryd.laidOut (by kernel_rfl) hV, hbel.frame _, fun h => by cases h⟩

theorem said : Rows.FnNumberSaid :=
  OpenClaim.holds_of_wide 3 Tryd.f3 rfl rfl rfl rfl rfl rfl rfl ⟨rfl, rfl, rfl, rfl, rfl⟩ rfl rfl rfl rfl rfl (by kernel_rfl) Tryd.func3 (by kernel_rfl)
    (of_decide_eq_true (by kernel_rfl)) (by unfold Func.isWrapper; first | (rw [if_pos (by decide +kernel)]; kernel_rfl) | (rw [if_neg (by decide +kernel)]; exact ⟨rfl, rfl⟩))
    (fun os started H enc _ => lifted os started H enc)

/-- ████ THE CARD ████ -/
theorem fnNumber_card : Rows.FnNumberCardSaid :=
  Claim7.holds_tied_plain_at .later [] _ _ _ _ said (fun _ h => by cases h) (by kernel_rfl) (fun _ h => by cases h) fnNumber_row_tie rfl ⟨rfl, rfl⟩ (by kernel_rfl) rfl
    (fun f fn hf hfn => by
      obtain rfl : f = 3 := Option.some.inj ((show Tryd.prog.funcNamed "loop.example/pub-g03439/laws.FnNumber" = some 3 by kernel_rfl).symm.trans hf) |>.symm
      obtain rfl : fn = Tryd.f3 := (Option.some.inj (Tryd.func3.symm.trans hfn)).symm
      exact ⟨by kernel_rfl, fun j t ht => by
        rw [Tryd.params3] at ht
        have hm : t ∈ [22, 5, 23, 4, 24] := by simpa using Array.mem_of_getElem? ht
        have hall : ([22, 5, 23, 4, 24].all fun u => !Tryd.prog.wantsStandIn u) = true := by kernel_rfl
        exact (show Tryd.prog.wantsStandIn t = false by simpa using List.all_eq_true.1 hall t hm)⟩)
    (by kernel_rfl)
#print axioms fnNumber_card
end Go.Proofs.YtalmpddmhakdmaaDoor
