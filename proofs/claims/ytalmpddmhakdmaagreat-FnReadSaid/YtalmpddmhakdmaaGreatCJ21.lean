/-
  A node of the parser's row is changed; the walks of functions of the parser: the node of a number (68), where a piece begins (42), a range (71). Conditions: the parser lies in memory as stated.
-/
import Derived.Test.YtalmpddmhakdmaaGreatCJ18
import Derived.Test.YtalmpddmhakdmaaGreatCJ20
import Derived.Laws.OwnMore
namespace Go.Proofs.YtalmpddmhakdmaaGreat
open Go.RowKit

theorem arC_get (pp : Nat) : ∀ {ns : List PN} {i : Nat} {x : PN} {k : Nat}, ns[i]? = some x → k < 7 → (arC pp ns)[7 * i + k]? = (x.cells pp)[k]?
  | [], i, x, k, h, _ => by cases h
  | y :: ns, 0, x, k, h, hk => by
    cases h
    rw [arC, List.getElem?_append_left (by simp [PN.cells]; omega)]
    simp
  | y :: ns, i + 1, x, k, h, hk => by
    rw [arC, List.getElem?_append_right (by simp [PN.cells]; omega)]
    have := arC_get pp (ns := ns) (i := i) (x := x) (k := k) h hk
    rw [← this]
    congr 1
    simp [PN.cells]
    omega
theorem arC_set (pp : Nat) : ∀ {ns : List PN} {i : Nat} {x : PN} {k : Nat} {u : Value} {x' : PN}, ns[i]? = some x → k < 7 → x'.cells pp = (x.cells pp).set k u → arC pp (ns.set i x') = (arC pp ns).set (7 * i + k) u
  | [], i, x, k, _, _, h, _, _ => by cases h
  | y :: ns, 0, x, k, u, x', h, hk, hc => by
    cases h
    rw [List.set_cons_zero, arC, arC, List.set_append_left _ _ (by simp [PN.cells]; omega), hc]
    simp
  | y :: ns, i + 1, x, k, u, x', h, hk, hc => by
    rw [List.set_cons_succ, arC, arC, List.set_append_right _ _ (by simp [PN.cells]; omega), arC_set pp (ns := ns) (i := i) h hk hc]
    congr 2
    simp [PN.cells]
    omega
theorem PS.lt {w : World} {pp db C : Nat} {B : List UInt8} {nv : Value} {ns : List PN} {g : Int} (h : PS w pp db C B nv ns g) (hn : 0 < ns.length) : ∃ gb cap, nv = .slice (some ⟨gb, 0, none⟩) ns.length cap ∧ gb ≠ pp ∧ gb ≠ db ∧ gb < w.heap.size := by
  obtain ⟨gb, cap, hnv⟩ := World.ownsRow.form h.own hn
  refine ⟨gb, cap, hnv.1, fun e => h.ne2 (by rw [hnv.1, e]; rfl), fun e => h.ne3 (by rw [hnv.1, e]; rfl), hnv.2.2⟩
/-- A cell of a node. -/
theorem PS.node {w : World} {pp db C n gb cap : Nat} {B : List UInt8} {ns : List PN} {g : Int} (h : PS w pp db C B (.slice (some ⟨gb, 0, none⟩) n cap) ns g) {i : Nat} {x : PN} (hx : ns[i]? = some x) {k : Nat} (hk : k < 7) {v : Value} (hv : (x.cells pp)[k]? = some v) : w.cell? ⟨gb, 7 * i + k, none⟩ = some v := by
  have hi := (List.getElem?_eq_some_iff.1 hx).1
  obtain ⟨g', c', e, _⟩ := h.lt (by omega)
  cases e
  rw [World.ownsRow.cellAt h.own _ (by omega), arC_get pp hx hk, hv]
theorem PS.nodeFz {w : World} {pp db C n gb cap : Nat} {B : List UInt8} {ns : List PN} {g : Int} (h : PS w pp db C B (.slice (some ⟨gb, 0, none⟩) n cap) ns g) (j : Nat) : w.frozen? ⟨gb, j, none⟩ = false := by
  rcases Nat.eq_zero_or_pos ns.length with h0 | h0
  · rcases h.own.2 with ⟨e, _⟩ | ⟨g', c', cur, e, _, hg, _⟩
    · cases e
    · cases e
      exact frozen_of_row w gb j cur 60 hg
  · obtain ⟨g', c', e, _⟩ := h.lt h0
    cases e
    exact World.ownsRow.frozenAt h.own j
/-- A node is changed at one cell. -/
theorem PS.upd {w : World} {pp db C n gb cap : Nat} {B : List UInt8} {ns : List PN} {g : Int} (h : PS w pp db C B (.slice (some ⟨gb, 0, none⟩) n cap) ns g) {i : Nat} {x x' : PN} (hx : ns[i]? = some x) {k : Nat} (hk : k < 7) {u : Value} (hc : x'.cells pp = (x.cells pp).set k u) (hd : x'.data = x.data) :
    PS (w.setCell ⟨gb, 7 * i + k, none⟩ u) pp db C B (.slice (some ⟨gb, 0, none⟩) n cap) (ns.set i x') g ∧ Fr w (w.setCell ⟨gb, 7 * i + k, none⟩ u) pp (.slice (some ⟨gb, 0, none⟩) n cap) (.slice (some ⟨gb, 0, none⟩) n cap) := by
  have hi := (List.getElem?_eq_some_iff.1 hx).1
  obtain ⟨g', c', e, hne, hnd, _⟩ := h.lt (by omega)
  cases e
  have hst := World.ownsRow.stored h.own (7 * i + k) u
  have hb : ∀ b, b ≠ gb → (w.setCell ⟨gb, 7 * i + k, none⟩ u).heap[b]? = w.heap[b]? := fun b hb => Below.heap_setCell w _ _ b hb
  have hpp := hb pp hne.symm
  have hc' : ∀ j v, w.cell? ⟨pp, j, none⟩ = some v → (w.setCell ⟨gb, 7 * i + k, none⟩ u).cell? ⟨pp, j, none⟩ = some v := fun j v hv => (World.cell?_of_block (w := w) hpp).trans hv
  have hf : ∀ j, w.frozen? ⟨pp, j, none⟩ = false → (w.setCell ⟨gb, 7 * i + k, none⟩ u).frozen? ⟨pp, j, none⟩ = false := fun j hv => (World.frozen?_of_block (w := w) hpp).trans hv
  refine ⟨⟨h.dt.of fun _ => hb db hnd.symm, hc' _ _ h.keep, hc' _ _ h.data, hc' _ _ h.nodes, hc' _ _ h.nest, hf _ h.f3, hf _ h.f5, ?_, h.ne1, h.ne2, h.ne3, h.cap, h.capm, by rw [World.size_setCell]; exact h.dbh, fun y hy => ?_, h.lf.elim fun v hv => ⟨v, hc' _ _ hv⟩, hf _ h.f2, hc' _ _ h.er⟩,
    ⟨rfl, rfl, rfl, by rw [World.size_setCell]; exact Nat.le_refl _, fun b _ _ h2 => hb b fun e => h2 (by rw [e]; rfl), .inl rfl⟩⟩
  · rw [arC_set pp hx hk hc, List.length_set]
    exact hst.1
  · rcases List.mem_or_eq_of_mem_set hy with hy | hy
    · exact h.one y hy
    · rw [hy, hd]
      exact h.one x (List.mem_of_getElem? hx)
/-- What comes next is told. -/
theorem PS.setNext {w : World} {pp db C n gb cap : Nat} {B : List UInt8} {ns : List PN} {g : Int} (h : PS w pp db C B (.slice (some ⟨gb, 0, none⟩) n cap) ns g) {i : Nat} {x : PN} (hx : ns[i]? = some x) (v : Int) :
    PS (w.setCell ⟨gb, 7 * i + 5, none⟩ (.int .i32 v)) pp db C B (.slice (some ⟨gb, 0, none⟩) n cap) (ns.set i { x with next := v }) g ∧ Fr w (w.setCell ⟨gb, 7 * i + 5, none⟩ (.int .i32 v)) pp (.slice (some ⟨gb, 0, none⟩) n cap) (.slice (some ⟨gb, 0, none⟩) n cap) :=
  h.upd hx (by decide) rfl rfl
theorem PS.setChild {w : World} {pp db C n gb cap : Nat} {B : List UInt8} {ns : List PN} {g : Int} (h : PS w pp db C B (.slice (some ⟨gb, 0, none⟩) n cap) ns g) {i : Nat} {x : PN} (hx : ns[i]? = some x) (v : Int) :
    PS (w.setCell ⟨gb, 7 * i + 6, none⟩ (.int .i32 v)) pp db C B (.slice (some ⟨gb, 0, none⟩) n cap) (ns.set i { x with child := v }) g ∧ Fr w (w.setCell ⟨gb, 7 * i + 6, none⟩ (.int .i32 v)) pp (.slice (some ⟨gb, 0, none⟩) n cap) (.slice (some ⟨gb, 0, none⟩) n cap) :=
  h.upd hx (by decide) rfl rfl
theorem PS.setOff {w : World} {pp db C n gb cap : Nat} {B : List UInt8} {ns : List PN} {g : Int} (h : PS w pp db C B (.slice (some ⟨gb, 0, none⟩) n cap) ns g) {i : Nat} {x : PN} (hx : ns[i]? = some x) (v : Int) :
    PS (w.setCell ⟨gb, 7 * i + 1, none⟩ (.int .u32 v)) pp db C B (.slice (some ⟨gb, 0, none⟩) n cap) (ns.set i { x with off := v }) g ∧ Fr w (w.setCell ⟨gb, 7 * i + 1, none⟩ (.int .u32 v)) pp (.slice (some ⟨gb, 0, none⟩) n cap) (.slice (some ⟨gb, 0, none⟩) n cap) :=
  h.upd hx (by decide) rfl rfl
theorem PS.setLen {w : World} {pp db C n gb cap : Nat} {B : List UInt8} {ns : List PN} {g : Int} (h : PS w pp db C B (.slice (some ⟨gb, 0, none⟩) n cap) ns g) {i : Nat} {x : PN} (hx : ns[i]? = some x) (v : Int) :
    PS (w.setCell ⟨gb, 7 * i + 2, none⟩ (.int .u32 v)) pp db C B (.slice (some ⟨gb, 0, none⟩) n cap) (ns.set i { x with len := v }) g ∧ Fr w (w.setCell ⟨gb, 7 * i + 2, none⟩ (.int .u32 v)) pp (.slice (some ⟨gb, 0, none⟩) n cap) (.slice (some ⟨gb, 0, none⟩) n cap) :=
  h.upd hx (by decide) rfl rfl

set_option maxHeartbeats 1000000 in
theorem at_any {w : World} {pp db C n gb cap : Nat} {B : List UInt8} {ns : List PN} {g : Int} (hP : PS w pp db C B (.slice (some ⟨gb, 0, none⟩) n cap) ns g) {h : Int} (i : Nat) (hh : h = (i : Int) + 1) (hi : i < ns.length) (hm : i ≤ 400000) :
    Calls Tryz.prog 68 #[.pointer (some ⟨pp, 0, none⟩), .int .i32 h] w fun e w' => e = .returned (.pointer (some ⟨gb, 7 * i, none⟩)) ∧ w' = w := by
  have hn := hP.nodes
  obtain ⟨g', c', e, _⟩ := hP.lt (by omega)
  cases e
  obtain ⟨n, hnn⟩ : ∃ n, ns.length = n := ⟨_, rfl⟩
  rw [hnn] at hn hi
  subst hh
  clear hP
  go_enter Tryz.func68, Tryz.ntmps68
  go_wp2_with fail
  go_ret
  exact ⟨congrArg (fun x => Ending.returned (.pointer (some ⟨gb, x, none⟩))) (Nat.mul_comm i 7), rfl⟩

set_option maxHeartbeats 1000000 in
theorem offset_any {w : World} {pp db C : Nat} {B : List UInt8} {nv : Value} {ns : List PN} {g : Int} {i : Nat} {v : Value} (hP : PS w pp db C B nv ns g) (hv : At db C B i v) :
    Calls Tryz.prog 42 #[.pointer (some ⟨pp, 0, none⟩), v] w fun e w' => e = .returned (.int .i64 (i : Int)) ∧ w' = w := by
  obtain ⟨o, n, m, rfl, h1, h2, h3, h4⟩ := hv
  have hd := hP.data
  have hm : C ≤ 9223372036854775807 := by have := hP.capm; simp [maxLen] at this; omega
  clear hP
  go_enter Tryz.func42, Tryz.ntmps42
  go_wp2_with fail
  go_ret
  exact ⟨congrArg (fun x => Ending.returned (Value.int .i64 x)) (show (C : Int) - (m : Int) = (i : Int) by omega), rfl⟩

set_option maxHeartbeats 1000000 in
theorem from_any {w : World} {pp db C : Nat} {B : List UInt8} {nv : Value} {ns : List PN} {g : Int} {i j : Nat} {v u : Value} (hP : PS w pp db C B nv ns g) (hv : At db C B i v) (hu : At db C B j u) :
    Calls Tryz.prog 71 #[.pointer (some ⟨pp, 0, none⟩), v, u] w fun e w' => (∃ x l : Int, e = .returned (.agg #[.int .u32 x, .int .u32 l])) ∧ w.grownBy w' none := by
  have HP := Lib.hid hP
  have HV := Lib.hid hv
  have HU := Lib.hid hu
  have hl : i ≤ C := by obtain ⟨o, n, m, rfl, h1, h2, h3, h4⟩ := hv; omega
  have hl2 : j ≤ C := by obtain ⟨o, n, m, rfl, h1, h2, h3, h4⟩ := hu; omega
  have hm : C ≤ 9223372036854775807 := by have := hP.capm; simp [maxLen] at this; omega
  clear hP hv hu
  go_enter Tryz.func71, Tryz.ntmps71
  go_wp2_with fail
  with_reducible refine (offset_any (HP.out.grown (World.grownBy_alloc w _ none)) HV.out).mono ?_
  rintro e w' ⟨rfl, rfl⟩
  go_wp2_with fail
  with_reducible refine (offset_any (HP.out.grown (World.grownBy_alloc w _ none)) HU.out).mono ?_
  rintro e w' ⟨rfl, rfl⟩
  go_wp2_with fail
  exact bodyPost_ret (v := .agg #[.int .u32 ((i : Int) % 4294967296), .int .u32 (((j : Int) - (i : Int)) % 4294967296)]) (by simp [results, Tryz.results71, go_sem]) rfl ⟨⟨_, _, rfl⟩, World.grownBy_alloc w _ none⟩
end Go.Proofs.YtalmpddmhakdmaaGreat

/-
  The walks of functions of the parser: a byte of a key without quotes (92), a part of a key (83), its node (72). Conditions: the parser lies in memory as stated.
-/
namespace Go.Proofs.YtalmpddmhakdmaaGreat
open Go.RowKit

theorem unq_true {c : UInt8} (w : World) (h : bareB c = true) : Calls Tryz.prog 92 #[.int .u8 (c.toNat : Int)] w fun e w' => e = .returned (.bool true) ∧ w = w' := by
  have hc : (48 ≤ c.toNat ∧ c.toNat ≤ 57) ∨ (97 ≤ c.toNat ∧ c.toNat ≤ 122) ∨ (65 ≤ c.toNat ∧ c.toNat ≤ 90) ∨ c.toNat = 95 ∨ c.toNat = 45 := by simpa [bareB] using h
  clear h
  rcases hc with ⟨h1, h2⟩ | ⟨h1, h2⟩ | ⟨h1, h2⟩ | h1 | h1
  · go_enter Tryz.func92, Tryz.ntmps92
    go_wp2_with fail
    go_ret
    exact ⟨rfl, rfl⟩
  · have l1 : ¬ (c.toNat : Int) ≤ 90 := by omega
    have l2 : 65 ≤ (c.toNat : Int) := by omega
    go_enter Tryz.func92, Tryz.ntmps92
    go_wp2_with fail
    go_ret
    exact ⟨rfl, rfl⟩
  · go_enter Tryz.func92, Tryz.ntmps92
    go_wp2_with fail
    go_ret
    exact ⟨rfl, rfl⟩
  · have t : ((c.toNat : Int) == 95) = true := by simp; omega
    have t2 : ((c.toNat : Int) == 45) = false := by simp; omega
    have l1 : ¬ (c.toNat : Int) ≤ 57 := by omega
    have l2 : ¬ 97 ≤ (c.toNat : Int) := by omega
    have l3 : ¬ (c.toNat : Int) ≤ 90 := by omega
    have l4 : 65 ≤ (c.toNat : Int) := by omega
    have l5 : 48 ≤ (c.toNat : Int) := by omega
    clear h1
    go_enter Tryz.func92, Tryz.ntmps92
    go_wp2_with fail
    go_ret
    exact ⟨rfl, rfl⟩
  · have t : ((c.toNat : Int) == 45) = true := by simp; omega
    have l1 : ¬ 48 ≤ (c.toNat : Int) := by omega
    have l2 : ¬ 97 ≤ (c.toNat : Int) := by omega
    have l3 : ¬ 65 ≤ (c.toNat : Int) := by omega
    clear h1
    go_enter Tryz.func92, Tryz.ntmps92
    go_wp2_with fail
    go_ret
    exact ⟨rfl, rfl⟩
theorem unq_false {c : UInt8} (w : World) (h : bareB c = false) : Calls Tryz.prog 92 #[.int .u8 (c.toNat : Int)] w fun e w' => e = .returned (.bool false) ∧ w = w' := by
  have hc : ¬ ((48 ≤ c.toNat ∧ c.toNat ≤ 57) ∨ (97 ≤ c.toNat ∧ c.toNat ≤ 122) ∨ (65 ≤ c.toNat ∧ c.toNat ≤ 90) ∨ c.toNat = 95 ∨ c.toNat = 45) := by simpa [bareB] using h
  have t : ((c.toNat : Int) == 45) = false := by simp; omega
  have t2 : ((c.toNat : Int) == 95) = false := by simp; omega
  have hr : c.toNat < 48 ∨ (58 ≤ c.toNat ∧ c.toNat < 65) ∨ (91 ≤ c.toNat ∧ c.toNat < 97) ∨ 123 ≤ c.toNat := by omega
  clear h hc
  rcases hr with h1 | ⟨h1, h2⟩ | ⟨h1, h2⟩ | h1
  · go_enter Tryz.func92, Tryz.ntmps92
    go_wp2_with fail
    go_ret
    exact ⟨rfl, rfl⟩
  · have d57 : decide ((c.toNat : Int) ≤ 57) = false := by simp; omega
    go_enter Tryz.func92, Tryz.ntmps92
    go_wp2_with fail
    go_ret
    exact ⟨rfl, rfl⟩
  · have d57 : decide ((c.toNat : Int) ≤ 57) = false := by simp; omega
    have d90 : decide ((c.toNat : Int) ≤ 90) = false := by simp; omega
    go_enter Tryz.func92, Tryz.ntmps92
    go_wp2_with fail
    go_ret
    exact ⟨rfl, rfl⟩
  · have d57 : decide ((c.toNat : Int) ≤ 57) = false := by simp; omega
    have d90 : decide ((c.toNat : Int) ≤ 90) = false := by simp; omega
    have d122 : decide ((c.toNat : Int) ≤ 122) = false := by simp; omega
    go_enter Tryz.func92, Tryz.ntmps92
    go_wp2_with fail
    go_ret
    exact ⟨rfl, rfl⟩
theorem unq_any {c : UInt8} (w : World) : Calls Tryz.prog 92 #[.int .u8 (c.toNat : Int)] w fun e w' => e = .returned (.bool (bareB c)) ∧ w = w' := by
  cases h : bareB c with
  | true => exact unq_true w h
  | false => exact unq_false w h

set_option maxRecDepth 100000 in
set_option maxHeartbeats 4000000 in
theorem skey_bare {w : World} {db C : Nat} {B : List UInt8} {o n m : Nat} (pv : Value) (hD : Dt w db B) (h1 : o + n = B.length) (h2 : n ≤ m) (h3 : o + m = C) (hb : 0 < bareN B o) :
    Calls Tryz.prog 83 #[pv, .slice (some ⟨db, o, none⟩) n m] w (ScP db C B (o + bareN B o) ((B.drop o).take (bareN B o)) w) := by
  have hl := hD.len
  have hbt : bareB (pk B o) = true := by
    cases hx : bareB (pk B o) with
    | true => rfl
    | false => have := bareN_stop hx; omega
  have hnl := bareN_le (B := B) (i := o) (by omega)
  have hc0 := hD.pk (i := o) (by omega)
  have HD := Lib.hid hD
  have t39 : (((pk B o).toNat : Int) == 39) = false := by
    have : pk B o ≠ 39 := by intro e; rw [e] at hbt; revert hbt; decide
    exact byte_ne this rfl
  have t34 : (((pk B o).toNat : Int) == 34) = false := by
    have : pk B o ≠ 34 := by intro e; rw [e] at hbt; revert hbt; decide
    exact byte_ne this rfl
  obtain ⟨c0, hcc⟩ : ∃ c0, pk B o = c0 := ⟨_, rfl⟩
  have HC := Lib.hid hcc
  have HBT := Lib.hid hbt
  rw [hcc] at hc0 t39 t34
  have hn0 : 0 < n := by omega
  have hnz : ((n : Int) == 0) = false := by simp; omega
  obtain ⟨bn, hbn⟩ : ∃ bn, bareN B o = bn := ⟨_, rfl⟩
  rw [hbn] at hb hnl ⊢
  have HBN := Lib.hid hbn
  clear hD hcc hbt hbn
  go_enter Tryz.func83, Tryz.ntmps83
  go_wp2_with fail
  go_loopw [8] (fun v wr => ∃ y : Nat, v = .int .i64 y ∧ wr = w ∧ y ≤ bn ∧ bareN B (o + y) = bn - y) (fun v _ => B.length - (intOf v).toNat)
  case atStart => exact ⟨0, rfl, rfl, Nat.zero_le _, HBN.out⟩
  case round =>
    obtain ⟨y, rfl, rfl, hy, hbr⟩ := hrel
    obtain ⟨w, rfl⟩ : ∃ w0 : World, w0 = wr := ⟨_, rfl⟩
    have HBR := Lib.hid hbr
    clear hbr hc0
    by_cases hyn : y < n
    · have hc := HD.out.pk (i := o + y) (by omega)
      obtain ⟨c, hcc⟩ : ∃ c, pk B (o + y) = c := ⟨_, rfl⟩
      have HCC := Lib.hid hcc
      rw [hcc] at hc
      clear hcc
      have HU := Lib.hid (unq_any (c := c) w)
      obtain ⟨b, hbb⟩ : ∃ b, bareB c = b := ⟨_, rfl⟩
      rw [hbb] at HU
      have HBB := Lib.hid hbb
      clear hbb
      go_wp2_with fail
      with_reducible refine HU.out.mono ?_
      rintro e w' ⟨rfl, rfl⟩
      cases b with
      | true =>
        have hm := bareN_more (B := B) (i := o + y) (by rw [HCC.out]; exact HBB.out)
        have hm1 : bareN B (o + (y + 1)) + 1 = bn - y := by rw [← HBR.out]; exact hm.2.symm
        have HM1 := Lib.hid hm1
        have hy1 : y + 1 ≤ bn := by omega
        clear hm hm1
        go_wp2_with fail
        exact ⟨⟨y + 1, rfl, by trivial, hy1, by have := HM1.out; omega⟩, by show B.length - (intOf (.int .i64 ((y : Int) + 1))).toNat < B.length - (intOf (.int .i64 (y : Int))).toNat; simp only [intOf]; omega⟩
      | false =>
        have hs := bareN_stop (B := B) (i := o + y) (by rw [HCC.out]; exact HBB.out)
        have hye : y = bn := by have := HBR.out; omega
        subst hye
        have hy0 : ((y : Int) == 0) = false := by simp; omega
        clear hs
        go_wp2_with fail
        go_quiet (fail)
        all_goals go_wp2_with fail
        all_goals
          (try simp only [Exit.inBlock, Exit.then])
          refine bodyPost_ret (results_tmp4 rfl _ _ _) rfl ?_
          exact ScP.mk _ _ _ rfl ⟨_, _, _, o, rfl, by omega, by omega⟩ (TxtAt.piece (HD.out.drewN nq) (fun b => b = db ∨ (w.heap.size ≤ b ∧ b < (w.drewN nq).heap.size)) (.inl rfl) o y _ (by omega)) ⟨_, _, _, rfl, by omega, by omega, by omega, by omega⟩ (grown_drewN w nq)
    · have hye : y = bn := by omega
      subst hye
      have hy0 : ((y : Int) == 0) = false := by simp; omega
      go_wp2_with fail
      go_quiet (fail)
      all_goals go_wp2_with fail
      all_goals
        (try simp only [Exit.inBlock, Exit.then])
        refine bodyPost_ret (results_tmp4 rfl _ _ _) rfl ?_
        exact ScP.mk _ _ _ rfl ⟨_, _, _, o, rfl, by omega, by omega⟩ (TxtAt.piece (HD.out.drewN nq) (fun b => b = db ∨ (w.heap.size ≤ b ∧ b < (w.drewN nq).heap.size)) (.inl rfl) o y _ (by omega)) ⟨_, _, _, rfl, by omega, by omega, by omega, by omega⟩ (grown_drewN w nq)

set_option maxRecDepth 100000 in
set_option maxHeartbeats 4000000 in
theorem skey_any {w : World} {db C : Nat} {B : List UInt8} {o n m j : Nat} {t : List UInt8} (pv : Value) (hD : Dt w db B) (h1 : o + n = B.length) (h2 : n ≤ m) (h3 : o + m = C) (hr : KpR B o j t) :
    Calls Tryz.prog 83 #[pv, .slice (some ⟨db, o, none⟩) n m] w (ScP db C B j t w) := by
  rcases hr with ⟨q, hq, hpq, h3q, hr⟩ | ⟨hb, rfl, rfl⟩
  · have hin := hr.in
    have hc0 := hD.pk (i := o) (by omega)
    have hl := hD.len
    have hn0 : 0 < n := by omega
    rcases hq with rfl | rfl
    · have HB := Lib.hid (basic_any (m := m) (n := n) pv hD h1 h2 h3 hr)
      rw [hpq] at hc0
      clear hD hr h3q hpq hin
      go_enter Tryz.func83, Tryz.ntmps83
      go_wp2_with fail
      with_reducible refine HB.out.mono ?_
      rintro e w' ⟨raw, val, rest, rfl, hraw, hval, hrest, hgr⟩
      have HRAW := Lib.hid hraw
      have HVAL := Lib.hid hval
      have HREST := Lib.hid hrest
      have HGR := Lib.hid hgr
      clear hraw hval hrest hgr
      go_wp2_with fail
      (try simp only [Exit.inBlock, Exit.then])
      refine bodyPost_ret (results_tmp4 rfl _ _ _) rfl ?_
      exact ScP.mk _ _ _ rfl HRAW.out HVAL.out HREST.out HGR.out
    · have HB := Lib.hid (literal_any (m := m) (n := n) pv hD h1 h2 h3 hr)
      rw [hpq] at hc0
      clear hD hr h3q hpq hin
      go_enter Tryz.func83, Tryz.ntmps83
      go_wp2_with fail
      with_reducible refine HB.out.mono ?_
      rintro e w' ⟨raw, val, rest, rfl, hraw, hval, hrest, hgr⟩
      have HRAW := Lib.hid hraw
      have HVAL := Lib.hid hval
      have HREST := Lib.hid hrest
      have HGR := Lib.hid hgr
      clear hraw hval hrest hgr
      go_wp2_with fail
      (try simp only [Exit.inBlock, Exit.then])
      refine bodyPost_ret (results_tmp4 rfl _ _ _) rfl ?_
      exact ScP.mk _ _ _ rfl HRAW.out HVAL.out HREST.out HGR.out
  · exact skey_bare pv hD h1 h2 h3 hb

/-- A node is laid behind the others. -/
theorem push_to {w : World} {pp db C : Nat} {B : List UInt8} {nv : Value} {ns : List PN} {g : Int} (hP : PS w pp db C B nv ns g) (hn : ns.length ≤ 300000) (kd off len : Int) (data : Value) (hx : data.oneCell' = true) :
    Calls Tryz.prog 38 #[.pointer (some ⟨pp, 0, none⟩), .agg #[.int .i64 kd, .int .u32 off, .int .u32 len, data, .pointer none, .int .i32 0, .int .i32 0]] w fun e w' => ∃ nv', e = .returned (.int .i32 ((ns.length + 1 : Nat) : Int)) ∧ PS w' pp db C B nv' (ns ++ [⟨kd, off, len, data, 0, 0⟩]) g ∧ Fr w w' pp nv nv' :=
  push_any hP hn ⟨kd, off, len, data, 0, 0⟩ hx
theorem TxtAt.one {P : Nat → Prop} {w : World} {v : Value} {t : List UInt8} (h : TxtAt P w v t) : v.oneCell' = true := by
  obtain ⟨a, c, rfl, _⟩ := h
  rfl
theorem DtN.scan {w w1 : World} {pp db C : Nat} {B : List UInt8} {nv : Value} {ns : List PN} {g : Int} (hP : PS w pp db C B nv ns g) (hg : w.grownBy w1 none) {v : Value} {t : List UInt8} (hv : TxtAt (fun b => b = db ∨ (w.heap.size ≤ b ∧ b < w1.heap.size)) w1 v t) : DtN w.heap.size db w1 pp nv v t := by
  refine hv.frame (fun _ _ => rfl) fun b hb => ?_
  have hsz := hg.size
  rcases hb with rfl | ⟨hb1, hb2⟩
  · exact ⟨⟨Nat.lt_of_lt_of_le hP.dbh hsz, hP.ne1, hP.ne3⟩, .inl rfl⟩
  · have := hP.in_heap.1
    refine ⟨⟨hb2, by omega, fun e => ?_⟩, .inr hb1⟩
    have := (World.ownsRow.lt hP.own b e).2
    omega
theorem TxtAt.form {P : Nat → Prop} {w : World} {v : Value} {t : List UInt8} (h : TxtAt P w v t) : ∃ a l c, v = .slice a l c := by
  obtain ⟨a, c, rfl, _⟩ := h
  exact ⟨_, _, _, rfl⟩
/-- A value of one node has been read. -/
def OnP (pp db C : Nat) (B : List UInt8) (nv : Value) (ns : List PN) (g : Int) (j : Nat) (kd : Int) (t : List UInt8) (w : World) (e : Ending) (w' : World) : Prop :=
  ∃ h nv' rest x, h = (ns.length : Int) + 1 ∧ e = .returned (.tuple #[.int .i32 h, rest, .nilIface]) ∧ At db C B j rest ∧ PS w' pp db C B nv' (ns ++ [x]) g ∧ Fr w w' pp nv nv' ∧ x.kind = kd ∧ DtN w.heap.size db w' pp nv' x.data t ∧ x.next = 0 ∧ x.child = 0
theorem OnP.mk {pp db C : Nat} {B : List UInt8} {nv : Value} {ns : List PN} {g : Int} {j : Nat} {kd : Int} {t : List UInt8} {w : World} {e : Ending} {w' : World} (nv' rest : Value) (x : PN) (h : e = .returned (.tuple #[.int .i32 ((ns.length : Int) + 1), rest, .nilIface])) (h1 : At db C B j rest) (h2 : PS w' pp db C B nv' (ns ++ [x]) g) (h3 : Fr w w' pp nv nv') (h4 : x.kind = kd) (h5 : DtN w.heap.size db w' pp nv' x.data t) (h6 : x.next = 0) (h7 : x.child = 0) : OnP pp db C B nv ns g j kd t w e w' :=
  ⟨_, nv', rest, x, rfl, h, h1, h2, h3, h4, h5, h6, h7⟩

set_option maxRecDepth 100000 in
set_option maxHeartbeats 4000000 in
theorem pskey_any {w : World} {pp db C : Nat} {B : List UInt8} {nv : Value} {ns : List PN} {g : Int} {i j : Nat} {v : Value} {t : List UInt8} (hP : PS w pp db C B nv ns g) (hv : At db C B i v) (hr : KpR B i j t) (hi : i < B.length) (hn : ns.length ≤ 300000) :
    Calls Tryz.prog 72 #[.pointer (some ⟨pp, 0, none⟩), v] w (OnP pp db C B nv ns g j 2 t w) := by
  obtain ⟨o, n, m, rfl, h1, h2, h3, h4⟩ := hv
  have ho := h4 (by omega)
  subst ho
  have HP := Lib.hid hP
  have HS := Lib.hid (skey_any (m := m) (n := n) (.pointer (some ⟨pp, 0, none⟩)) hP.dt h1 h3 h2 hr)
  clear hP hr h4
  go_enter Tryz.func72, Tryz.ntmps72
  go_wp2_with fail
  with_reducible refine HS.out.mono ?_
  rintro e w1 ⟨raw, val, rest, rfl, hraw, hval, hrest, hg1⟩
  obtain ⟨va, vl, vc, rfl⟩ := hval.form
  have HVAL := Lib.hid hval
  have HREST := Lib.hid hrest
  have HG1 := Lib.hid hg1
  have HRG := Lib.hid (range_any (HP.out.grown hg1) hraw)
  clear hraw hval hrest hg1 HS
  go_wp2_with fail
  with_reducible refine HRG.out.mono ?_
  rintro e w2 ⟨⟨x, l, rfl⟩, hg2⟩
  have HG2 := Lib.hid (gtrans HG1.out hg2)
  have HDA := Lib.hid ((Fr.grown pp nv hg2).dtn (DtN.scan HP.out HG1.out HVAL.out))
  have HPU := Lib.hid (push_to (HP.out.grown HG2.out) hn 2 x l (.slice va vl vc) HVAL.out.one)
  clear hg2 HRG
  go_wp2_with fail
  with_reducible refine HPU.out.mono ?_
  rintro e w3 ⟨nv', rfl, hP3, hF3⟩
  have HP3 := Lib.hid hP3
  have HF3 := Lib.hid hF3
  clear hP3 hF3 HPU
  go_wp2_with fail
  go_ret3
  exact OnP.mk nv' rest _ rfl HREST.out HP3.out ((Fr.grown pp nv HG2.out).trans HF3.out) rfl (HF3.out.dtn HDA.out) rfl rfl
end Go.Proofs.YtalmpddmhakdmaaGreat

/-
  The walks of functions of the parser: a value is scanned and its node laid: a word (77), a number (80), a date or a time (82). Conditions: the parser lies in memory as stated; the scan is known.
-/
namespace Go.Proofs.YtalmpddmhakdmaaGreat
open Go.RowKit

theorem DtN.raw {w w1 : World} {pp db C : Nat} {B : List UInt8} {nv : Value} {ns : List PN} {g : Int} (hP : PS w pp db C B nv ns g) (hg : w.grownBy w1 none) {v : Value} {t : List UInt8} (hv : TxtAt (fun b => b = db) w1 v t) : DtN w.heap.size db w1 pp nv v t := DtN.scan hP hg (hv.frame (fun _ _ => rfl) fun _ hb => .inl hb)

set_option maxRecDepth 100000 in
set_option maxHeartbeats 4000000 in
theorem pkw_any {w : World} {pp db C : Nat} {B : List UInt8} {nv : Value} {ns : List PN} {g : Int} {i j : Nat} {v : Value} {kw : ByteArray} {kd0 : Int} {kd : Int} (hP : PS w pp db C B nv ns g) (hn : ns.length ≤ 300000)
    (hS : ∀ w1 : World, w1 = w → Calls Tryz.prog 86 #[v, .string kw, .int .i64 kd0] w1 (KdP db C B i j kd w1)) :
    Calls Tryz.prog 77 #[.pointer (some ⟨pp, 0, none⟩), v, .string kw, .int .i64 kd0] w (OnP pp db C B nv ns g j kd (cutB B i (j - i)) w) := by
  have HP := Lib.hid hP
  have HS := Lib.hid (hS w rfl)
  clear hP hS
  go_enter Tryz.func77, Tryz.ntmps77
  go_wp2_with fail
  with_reducible refine HS.out.mono ?_
  rintro e w1 ⟨raw, val, rest, rfl, hraw, hval, hrest, hg1⟩
  obtain ⟨va, vl, vc, rfl⟩ := hval.form
  have HVAL := Lib.hid hval
  have HREST := Lib.hid hrest
  have HG1 := Lib.hid hg1
  have HRG := Lib.hid (range_any (HP.out.grown hg1) hraw)
  clear hraw hval hrest hg1 HS
  go_wp2_with fail
  with_reducible refine HRG.out.mono ?_
  rintro e w2 ⟨⟨x, l, rfl⟩, hg2⟩
  have HG2 := Lib.hid (gtrans HG1.out hg2)
  have HDA := Lib.hid ((Fr.grown pp nv hg2).dtn (DtN.raw HP.out HG1.out HVAL.out))
  have HPU := Lib.hid (push_to (HP.out.grown HG2.out) hn kd x l (.slice va vl vc) HVAL.out.one)
  clear hg2 HRG
  go_wp2_with fail
  with_reducible refine HPU.out.mono ?_
  rintro e w3 ⟨nv', rfl, hP3, hF3⟩
  have HP3 := Lib.hid hP3
  have HF3 := Lib.hid hF3
  clear hP3 hF3 HPU
  go_wp2_with fail
  go_ret3
  exact OnP.mk nv' rest _ rfl HREST.out HP3.out ((Fr.grown pp nv HG2.out).trans HF3.out) rfl (HF3.out.dtn HDA.out) rfl rfl

set_option maxRecDepth 100000 in
set_option maxHeartbeats 4000000 in
theorem pnum_any {w : World} {pp db C : Nat} {B : List UInt8} {nv : Value} {ns : List PN} {g : Int} {i j : Nat} {v : Value} {kd : Int} (hP : PS w pp db C B nv ns g) (hn : ns.length ≤ 300000)
    (hS : ∀ w1 : World, w1 = w → Calls Tryz.prog 89 #[v] w1 (KdP db C B i j kd w1)) :
    Calls Tryz.prog 80 #[.pointer (some ⟨pp, 0, none⟩), v] w (OnP pp db C B nv ns g j kd (cutB B i (j - i)) w) := by
  have HP := Lib.hid hP
  have HS := Lib.hid (hS w rfl)
  clear hP hS
  go_enter Tryz.func80, Tryz.ntmps80
  go_wp2_with fail
  with_reducible refine HS.out.mono ?_
  rintro e w1 ⟨raw, val, rest, rfl, hraw, hval, hrest, hg1⟩
  obtain ⟨va, vl, vc, rfl⟩ := hval.form
  have HVAL := Lib.hid hval
  have HREST := Lib.hid hrest
  have HG1 := Lib.hid hg1
  have HRG := Lib.hid (range_any (HP.out.grown hg1) hraw)
  clear hraw hval hrest hg1 HS
  go_wp2_with fail
  with_reducible refine HRG.out.mono ?_
  rintro e w2 ⟨⟨x, l, rfl⟩, hg2⟩
  have HG2 := Lib.hid (gtrans HG1.out hg2)
  have HDA := Lib.hid ((Fr.grown pp nv hg2).dtn (DtN.raw HP.out HG1.out HVAL.out))
  have HPU := Lib.hid (push_to (HP.out.grown HG2.out) hn kd x l (.slice va vl vc) HVAL.out.one)
  clear hg2 HRG
  go_wp2_with fail
  with_reducible refine HPU.out.mono ?_
  rintro e w3 ⟨nv', rfl, hP3, hF3⟩
  have HP3 := Lib.hid hP3
  have HF3 := Lib.hid hF3
  clear hP3 hF3 HPU
  go_wp2_with fail
  go_ret3
  exact OnP.mk nv' rest _ rfl HREST.out HP3.out ((Fr.grown pp nv HG2.out).trans HF3.out) rfl (HF3.out.dtn HDA.out) rfl rfl

set_option maxRecDepth 100000 in
set_option maxHeartbeats 4000000 in
theorem pdate_any {w : World} {pp db C : Nat} {B : List UInt8} {nv : Value} {ns : List PN} {g : Int} {i j : Nat} {v : Value} {kd : Int} (hP : PS w pp db C B nv ns g) (hn : ns.length ≤ 300000)
    (hS : ∀ w1 : World, w1 = w → Calls Tryz.prog 91 #[v] w1 (KdP db C B i j kd w1)) :
    Calls Tryz.prog 82 #[.pointer (some ⟨pp, 0, none⟩), v] w (OnP pp db C B nv ns g j kd (cutB B i (j - i)) w) := by
  have HP := Lib.hid hP
  have HS := Lib.hid (hS w rfl)
  clear hP hS
  go_enter Tryz.func82, Tryz.ntmps82
  go_wp2_with fail
  with_reducible refine HS.out.mono ?_
  rintro e w1 ⟨raw, val, rest, rfl, hraw, hval, hrest, hg1⟩
  obtain ⟨va, vl, vc, rfl⟩ := hval.form
  have HVAL := Lib.hid hval
  have HREST := Lib.hid hrest
  have HG1 := Lib.hid hg1
  have HRG := Lib.hid (range_any (HP.out.grown hg1) hraw)
  clear hraw hval hrest hg1 HS
  go_wp2_with fail
  with_reducible refine HRG.out.mono ?_
  rintro e w2 ⟨⟨x, l, rfl⟩, hg2⟩
  have HG2 := Lib.hid (gtrans HG1.out hg2)
  have HDA := Lib.hid ((Fr.grown pp nv hg2).dtn (DtN.raw HP.out HG1.out HVAL.out))
  have HPU := Lib.hid (push_to (HP.out.grown HG2.out) hn kd x l (.slice va vl vc) HVAL.out.one)
  clear hg2 HRG
  go_wp2_with fail
  with_reducible refine HPU.out.mono ?_
  rintro e w3 ⟨nv', rfl, hP3, hF3⟩
  have HP3 := Lib.hid hP3
  have HF3 := Lib.hid hF3
  clear hP3 hF3 HPU
  go_wp2_with fail
  go_ret3
  exact OnP.mk nv' rest _ rfl HREST.out HP3.out ((Fr.grown pp nv HG2.out).trans HF3.out) rfl (HF3.out.dtn HDA.out) rfl rfl
end Go.Proofs.YtalmpddmhakdmaaGreat

/-
  The walk of a function of the parser: a key, its parts one behind the other (67). Conditions: the parser lies in memory as stated.
-/
namespace Go.Proofs.YtalmpddmhakdmaaGreat
open Go.RowKit

theorem TxR.len {q : UInt8} {B : List UInt8} {i j : Nat} {u : List UInt8} (h : TxR q B i j u) : i < j ∧ j ≤ B.length := by
  induction h with
  | stop h1 _ => omega
  | esc h1 _ _ _ h5 _ ih => have := (esc_len h5).2; omega
  | sgn _ _ _ _ _ ih => omega
theorem KpR.len {B : List UInt8} {i j : Nat} {t : List UInt8} (h : KpR B i j t) : i < j ∧ j ≤ B.length := by
  rcases h with ⟨q, _, _, _, h⟩ | ⟨h, rfl, _⟩
  · have := h.len
    omega
  · have hi : i ≤ B.length := by
      rcases Nat.lt_or_ge B.length i with hlt | hge
      · have : bareB (pk B i) = false := by rw [pk_out (by omega)]; decide
        have := bareN_stop this
        omega
      · exact hge
    have := bareN_le hi
    omega
theorem KyR.len {B : List UInt8} {i m : Nat} {ks : List (List UInt8)} (h : KyR B i m ks) : ks ≠ [] ∧ i + ks.length ≤ m ∧ m ≤ B.length := by
  induction h with
  | last h1 _ =>
    rename_i i m t _
    have := h1.len
    have := skp_le this.2
    have := skp_ge B i
    have := skp_ge B m
    exact ⟨by simp, by simp; omega, by omega⟩
  | more h1 h2 h3 ih =>
    rename_i i m j t ks
    have := h1.len
    have := skp_ge B i
    have := skp_ge B m
    exact ⟨by simp, by simp; omega, ih.2.2⟩
theorem KyR.in {B : List UInt8} {i m : Nat} {ks : List (List UInt8)} (h : KyR B i m ks) : skp B i < B.length := by
  cases h with
  | last h1 _ => have := h1.len; omega
  | more h1 _ _ => have := h1.len; omega
/-- One more part of a key behind the others. -/
theorem KyN.snoc {M : Value → List UInt8 → Prop} {ns ns' : List PN} {t : List UInt8} {y : PN} : ∀ {ks : List (List UInt8)} {i : Nat}, ks ≠ [] → KyN M ns i ks → (∀ j, i ≤ j → j + 1 < i + ks.length → ns'[j]? = ns[j]?) →
    (∀ x, ns[i + ks.length - 1]? = some x → ns'[i + ks.length - 1]? = some { x with next := ((i + ks.length + 1 : Nat) : Int) }) → ns'[i + ks.length]? = some y → y.kind = 2 → M y.data t → y.next = 0 → KyN M ns' i (ks ++ [t])
  | [], _, h, _, _, _, _, _, _, _ => absurd rfl h
  | [t0], i, _, h, _, h2, h3, h4, h5, h6 => by
    obtain ⟨x, g1, g2, g3, g4, _⟩ := h
    exact ⟨_, h2 x g1, g2, g3, by simp; omega, y, h3, h4, h5, by simpa using h6, trivial⟩
  | t0 :: t1 :: ks, i, _, h, hs, h2, h3, h4, h5, h6 => by
    obtain ⟨x, g1, g2, g3, g4, g5⟩ := h
    refine ⟨x, (hs i (Nat.le_refl _) (by simp)).trans g1, g2, g3, by simpa using g4, ?_⟩
    refine KyN.snoc (by simp) g5 (fun j hj1 hj2 => hs j (by omega) (by simp at hj2 ⊢; omega)) (fun x' hx' => ?_) ?_ h4 h5 h6
    · have e1 : i + 1 + (t1 :: ks).length - 1 = i + (t0 :: t1 :: ks).length - 1 := by simp; omega
      have e2 : i + 1 + (t1 :: ks).length + 1 = i + (t0 :: t1 :: ks).length + 1 := by simp; omega
      rw [e1] at hx' ⊢
      rw [e2]
      exact h2 x' hx'
    · have e1 : i + 1 + (t1 :: ks).length = i + (t0 :: t1 :: ks).length := by simp; omega
      rw [e1]
      exact h3
/-- A row of nodes begins with another one. -/
def Pre (ns ns' : List PN) : Prop := ∀ j, j < ns.length → ns'[j]? = ns[j]?
theorem Pre.refl (ns : List PN) : Pre ns ns := fun _ _ => rfl
theorem Pre.trans {a b c : List PN} (h : Pre a b) (g : Pre b c) (hl : a.length ≤ b.length) : Pre a c := fun j hj => (g j (by omega)).trans (h j hj)
theorem Pre.app (ns l : List PN) : Pre ns (ns ++ l) := fun _ hj => List.getElem?_append_left hj
theorem Pre.set {ns l : List PN} (h : Pre ns l) {i : Nat} (hi : ns.length ≤ i) (x : PN) : Pre ns (l.set i x) := fun j hj => by
  rw [List.getElem?_set_ne (by omega)]
  exact h j hj

/-- A key has been read. -/
def KyP (pp db C : Nat) (B : List UInt8) (nv : Value) (ns : List PN) (g : Int) (m : Nat) (ks : List (List UInt8)) (w : World) (e : Ending) (w' : World) : Prop :=
  ∃ h nv' ns' rest, h = (ns.length : Int) + 1 ∧ e = .returned (.tuple #[.int .i32 h, rest, .nilIface]) ∧ At db C B m rest ∧ PS w' pp db C B nv' ns' g ∧ Fr w w' pp nv nv' ∧ ns'.length = ns.length + ks.length ∧ Pre ns ns' ∧ KyN (DtN w.heap.size db w' pp nv') ns' ns.length ks
/-- What holds at the head of the loop. -/
def KyL (pp db C : Nat) (B : List UInt8) (nv : Value) (ns : List PN) (g : Int) (m : Nat) (ks : List (List UInt8)) (w : World) (v1 v7 v8 : Value) (wr : World) : Prop :=
  ∃ (i : Nat) (k1 k2 : List (List UInt8)) (f l : Int) (nvr : Value) (nsr : List PN), v7 = .int .i32 f ∧ v8 = .int .i32 l ∧ At db C B (skp B i) v1 ∧ ks = k1 ++ k2 ∧ KyR B i m k2 ∧ PS wr pp db C B nvr nsr g ∧ Fr w wr pp nv nvr ∧ nsr.length = ns.length + k1.length ∧ Pre ns nsr ∧ KyN (DtN w.heap.size db wr pp nvr) nsr ns.length k1 ∧
    ((k1 = [] ∧ f = 0 ∧ l = 0) ∨ (k1 ≠ [] ∧ f = (ns.length : Int) + 1 ∧ l = (nsr.length : Int)))
/-- How much is left to read. -/
def lftB (v : Value) : Nat := lenOf v
theorem At.lenOf {db C : Nat} {B : List UInt8} {i : Nat} {v : Value} (h : At db C B i v) : i + lenOf v = B.length := by
  obtain ⟨o, n, m, rfl, h1, _⟩ := h
  exact h1

set_option maxRecDepth 100000 in
set_option maxHeartbeats 4000000 in
theorem pkey_any {w : World} {pp db C : Nat} {B : List UInt8} {nv : Value} {ns : List PN} {g : Int} {i m : Nat} {v : Value} {ks : List (List UInt8)} (hP : PS w pp db C B nv ns g) (hv : At db C B (skp B i) v) (hr : KyR B i m ks) (hn : ns.length ≤ 200000) :
    Calls Tryz.prog 67 #[.pointer (some ⟨pp, 0, none⟩), v] w (KyP pp db C B nv ns g m ks w) := by
  have HP := Lib.hid hP
  have HV := Lib.hid hv
  have HR := Lib.hid hr
  have hlk := hr.len.2
  have hB := hP.dt.len
  obtain ⟨N, hN⟩ : ∃ N, ns.length = N := ⟨_, rfl⟩
  have HN := Lib.hid hN
  rw [hN] at hn
  clear hP hv hr hN
  go_enter Tryz.func67, Tryz.ntmps67
  go_wp2_with fail
  go_loopw [1, 7, 8] (fun v1 v7 v8 wr => KyL pp db C B nv ns g m ks w v1 v7 v8 wr) (fun v1 _ _ _ => lenOf v1)
  case atStart => exact ⟨i, [], ks, 0, 0, nv, ns, rfl, rfl, HV.out, rfl, HR.out, HP.out, Fr.refl w pp nv, rfl, Pre.refl ns, trivial, .inl ⟨rfl, rfl, rfl⟩⟩
  case round =>
    obtain ⟨i, k1, k2, f, l, nvr, nsr, rfl, rfl, hv1, hks, hk2, hPr, hFr, hlr, hpre, hkn, hfl⟩ := hrel
    have hlen := hk2.len
    have hin := hk2.in
    have hk1l : k1.length ≤ 65536 := by rw [hks, List.length_append] at hlk; omega
    obtain ⟨t, j, hkp, hnext⟩ : ∃ t j, KpR B (skp B i) j t ∧ ((k2 = [t] ∧ pk B (skp B j) ≠ 46 ∧ m = skp B j) ∨ (pk B (skp B j) = 46 ∧ ∃ k3, k2 = t :: k3 ∧ KyR B (skp B j + 1) m k3)) := by
      cases hk2 with
      | last h1 h2 => exact ⟨_, _, h1, .inl ⟨rfl, h2, rfl⟩⟩
      | more h1 h2 h3 => exact ⟨_, _, h1, .inr ⟨h2, _, rfl, h3⟩⟩
    have hj := hkp.len
    have hv1l := hv1.lenOf
    have HSK := Lib.hid (pskey_any hPr hv1 hkp hin (by have := HN.out; omega))
    have HPR := Lib.hid hPr
    have HFR := Lib.hid hFr
    have HPRE := Lib.hid hpre
    have HKN := Lib.hid hkn
    have HNEXT := Lib.hid hnext
    have HKS := Lib.hid hks
    have HLR := Lib.hid hlr
    have HFL := Lib.hid hfl
    have hnr0 : nsr.length ≤ 300000 := by have := HN.out; omega
    have HV1L := Lib.hid hv1l
    clear hPr hFr hpre hkn hnext hks hlr hfl hv1 hk2 hkp HP HV HR hv1l hlk
    go_wp2_with fail
    with_reducible refine HSK.out.mono ?_
    rintro e w1 ⟨h, nv1, rest, x, hh, rfl, hrest, hP1, hF1, hxk, hxd, hxn, hxc⟩
    have HH := Lib.hid hh
    have HREST := Lib.hid hrest
    have HP1 := Lib.hid hP1
    have HF1 := Lib.hid hF1
    have HX := Lib.hid (And.intro hxk (And.intro (hxd.weak HFR.out.size) (And.intro hxn hxc)))
    clear hh hrest hP1 hF1 hxk hxd hxn hxc HSK
    go_upto_if 23 with fail
    go_cut [7] (fun v wx => ∃ f' : Int, v = .int .i32 f' ∧ f' = (ns.length : Int) + 1 ∧ ∃ nv2 ns2, PS wx pp db C B nv2 ns2 g ∧ Fr w wx pp nv nv2 ∧ ns2.length = nsr.length + 1 ∧ Pre ns ns2 ∧ KyN (DtN w.heap.size db wx pp nv2) ns2 ns.length (k1 ++ [t]))
    case first =>
      rcases HFL.out with ⟨rfl, rfl, rfl⟩ | ⟨hne, hf, hl⟩
      · go_wp2_with fail
        go_meet
        have hL : nsr.length = ns.length := HLR.out
        refine ⟨h, rfl, by rw [HH.out, hL], nv1, nsr ++ [x], HP1.out, HFR.out.trans HF1.out, by simp, HPRE.out.trans (Pre.app nsr [x]) (by omega), ?_⟩
        refine ⟨x, by rw [← hL]; simp, HX.out.1, HX.out.2.1, by simpa using HX.out.2.2.1, trivial⟩
      · have hf0 : (f == 0) = false := by rw [hf]; simp; omega
        have HF := Lib.hid hf
        obtain ⟨il, hil⟩ : ∃ il, nsr.length = il + 1 := by
          have := HLR.out
          have : k1.length ≠ 0 := fun e => hne (List.eq_nil_of_length_eq_zero e)
          exact ⟨nsr.length - 1, by omega⟩
        obtain ⟨gb, cap, hnv1, _⟩ := HP1.out.lt (by simp)
        subst hnv1
        have hl' : l = (il : Int) + 1 := by rw [hl, hil]; omega
        have hilt : il < (nsr ++ [x]).length := by simp; omega
        have hxl : (nsr ++ [x])[il]? = some (nsr ++ [x])[il] := List.getElem?_eq_getElem hilt
        have HAT := Lib.hid (at_any HP1.out (h := l) il hl' hilt (by omega))
        have hcl := HP1.out.node hxl (k := 5) (by decide) (v := .int .i32 ((nsr ++ [x])[il]).next) rfl
        have hfz := HP1.out.nodeFz (7 * il + 5)
        have HST := Lib.hid (HP1.out.setNext hxl h)
        have HIL := Lib.hid hil
        have HNE := Lib.hid hne
        have HXL := Lib.hid hxl
        generalize (nsr ++ [x])[il] = xl at *
        clear hf hl hl' hilt hil hne hxl
        go_wp2_with fail
        with_reducible refine HAT.out.mono ?_
        rintro e w' ⟨rfl, rfl⟩
        obtain ⟨w1, rfl⟩ : ∃ w0 : World, w0 = w' := ⟨_, rfl⟩
        go_wp2_with fail
        go_meet
        have hL := HLR.out
        have hI := HIL.out
        have hFs := HF1.out.trans HST.out.2
        have hset : ∀ k, k ≠ il → ((nsr ++ [x]).set il { xl with next := h })[k]? = (nsr ++ [x])[k]? := fun k hk => by rw [List.getElem?_set_ne (Ne.symm hk)]
        refine ⟨f, rfl, HF.out, _, _, HST.out.1, HFR.out.trans hFs, by simp, ?_, ?_⟩
        · refine Pre.set (HPRE.out.trans (Pre.app nsr [x]) (by omega)) ?_ _
          have : k1.length ≠ 0 := fun e => HNE.out (List.eq_nil_of_length_eq_zero e)
          omega
        · have hkn1 := HKN.out.same (fun _ _ hm => hFs.dtn hm) (ns' := nsr) (fun _ _ _ => rfl)
          refine KyN.snoc (y := x) HNE.out hkn1 (fun k hk1 hk2 => ?_) (fun x' hx' => ?_) ?_ HX.out.1 (HST.out.2.dtn HX.out.2.1) HX.out.2.2.1
          · rw [hset k (by omega), List.getElem?_append_left (by omega)]
          · rw [show ns.length + k1.length - 1 = il by omega] at hx' ⊢
            have e1 : (nsr ++ [x])[il]? = some x' := by rw [List.getElem?_append_left (by omega)]; exact hx'
            have e2 : xl = x' := by have := HXL.out.symm.trans e1; injection this
            subst e2
            rw [List.getElem?_set_self (by simp; omega)]
            congr 2
            rw [HH.out]
            omega
          · rw [hset _ (by omega), show ns.length + k1.length = nsr.length by omega]
            simp
    case rest =>
      obtain ⟨f', rfl, hf', nv2, ns2, hP2, hF2, hl2, hpre2, hkn2⟩ := hcut
      have HF := Lib.hid hf'
      have HP2 := Lib.hid hP2
      have HF2 := Lib.hid hF2
      have HL2 := Lib.hid hl2
      have HPRE2 := Lib.hid hpre2
      have HKN2 := Lib.hid hkn2
      have HSW := Lib.hid (skip_any hP2.dt HREST.out)
      clear hf' hP2 hF2 hl2 hpre2 hkn2 HP1 HF1 HFR HPR HKN HX
      go_wp2_with fail
      with_reducible refine HSW.out.mono ?_
      rintro e w3 ⟨⟨v', rfl, hv'⟩, hw3⟩
      subst hw3
      obtain ⟨o2, n2, m2, rfl, g1, g2, g3, g4⟩ := hv'
      have HO := Lib.hid g4
      clear g4 HSW
      rcases HNEXT.out with ⟨hk2, h46, hm⟩ | ⟨h46, k3, hk2, hk3⟩
      · have HEND := Lib.hid (show ns2.length = ns.length + ks.length ∧ ks = k1 ++ [t] ∧ m = skp B j by
          refine ⟨?_, by rw [HKS.out, hk2], hm⟩
          rw [HL2.out, HLR.out, HKS.out, hk2]
          simp
          omega)
        by_cases hn2 : 0 < n2
        · have ho := HO.out hn2
          subst ho
          have hc := HP2.out.dt.pk (i := skp B j) (by omega)
          have t46 := byte_ne h46 (n := 46) rfl
          clear h46 hk2 hm
          go_wp2_with fail
          go_ret3
          obtain ⟨e1, e2, rfl⟩ := HEND.out
          exact ⟨f', nv2, ns2, _, HF.out, rfl, ⟨_, _, _, rfl, g1, g2, g3, fun _ => rfl⟩, HP2.out, HF2.out, e1, HPRE2.out, by rw [e2]; exact HKN2.out⟩
        · have hn0 : n2 = 0 := by omega
          subst hn0
          clear h46 hk2 hm
          go_wp2_with fail
          go_ret3
          obtain ⟨e1, e2, rfl⟩ := HEND.out
          exact ⟨f', nv2, ns2, _, HF.out, rfl, ⟨_, _, _, rfl, g1, g2, g3, HO.out⟩, HP2.out, HF2.out, e1, HPRE2.out, by rw [e2]; exact HKN2.out⟩
      · have hpi := pk_in (B := B) (k := skp B j) (by rw [h46]; decide)
        have hn2 : 0 < n2 := by omega
        have ho := HO.out hn2
        subst ho
        have hc := HP2.out.dt.pk (i := skp B j) (by omega)
        rw [h46] at hc
        have hin3 := hk3.in
        have hge3 := skp_ge B (skp B j + 1)
        have hm1 : ¬ m2 = 1 := by omega
        have HSW2 := Lib.hid (skip_any (C := C) (i := skp B j + 1) (v := .slice (some ⟨db, skp B j + 1, none⟩) (n2 - 1) (m2 - 1)) HP2.out.dt ⟨_, _, _, rfl, by omega, by omega, by omega, fun _ => rfl⟩)
        have HK3 := Lib.hid hk3
        have HK2 := Lib.hid hk2
        clear h46 hk3 hk2 hin3 hge3
        go_wp2_with fail
        with_reducible refine HSW2.out.mono ?_
        rintro e w4 ⟨⟨v4, rfl, hv4⟩, hw4⟩
        subst hw4
        have HV4 := Lib.hid hv4
        have hv4l := hv4.lenOf
        clear hv4
        go_wp2_with fail
        refine ⟨⟨skp B j + 1, k1 ++ [t], k3, f', h, nv2, ns2, rfl, rfl, HV4.out, by rw [HKS.out, HK2.out]; simp, HK3.out, HP2.out, HF2.out, by rw [HL2.out, HLR.out]; simp; omega, HPRE2.out, HKN2.out, .inr ⟨by simp, HF.out, by rw [HL2.out, HH.out]; omega⟩⟩, ?_⟩
        have q1 := HV1L.out
        have q2 := skp_ge B j
        have q3 := skp_ge B (skp B j + 1)
        omega
end Go.Proofs.YtalmpddmhakdmaaGreat
