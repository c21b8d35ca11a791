/-
  The nodes are read: the walks of the readers of one node (43, 44, 45, 47, 48, 63, 64, 21, 18, 22). Conditions: the nodes lie in memory as stated.
-/
import Derived.Test.YtalmpddmhakdmaaGreatCJ27
namespace Go.Proofs.YtalmpddmhakdmaaGreat
open Go.RowKit

/-- The nodes lie in memory, to be read. -/
structure Rd (w : World) (pp gb cap : Nat) (ns : List PN) : Prop where
  nodes : w.cell? ⟨pp, 3, none⟩ = some (.slice (some ⟨gb, 0, none⟩) ns.length cap)
  cells : ∀ (i : Nat) (x : PN) (k : Nat) (v : Value), ns[i]? = some x → k < 7 → (x.cells pp)[k]? = some v → w.cell? ⟨gb, 7 * i + k, none⟩ = some v
  len : ns.length ≤ 300000
theorem Rd.grown {w w' : World} {pp gb cap : Nat} {ns : List PN} (h : Rd w pp gb cap ns) (hg : w.grownBy w' none) : Rd w' pp gb cap ns :=
  ⟨(World.cell?_of_block (w := w) (hg.block pp (cell_lt h.nodes) (by simp))).trans h.nodes, fun i x k v hx hk hv => by
    have := h.cells i x k v hx hk hv
    exact (World.cell?_of_block (w := w) (hg.block gb (cell_lt this) (by simp))).trans this, h.len⟩
/-- The pointer to a node. -/
abbrev NP (gb i : Nat) : Value := .pointer (some ⟨gb, 7 * i, none⟩)
theorem Rd.kind {w : World} {pp gb cap i : Nat} {ns : List PN} {x : PN} (h : Rd w pp gb cap ns) (hx : ns[i]? = some x) : w.cell? ⟨gb, 7 * i, none⟩ = some (.int .i64 x.kind) := h.cells i x 0 _ hx (by decide) rfl

set_option maxHeartbeats 1000000 in
theorem valid_node {w : World} {pp gb cap i : Nat} {ns : List PN} {x : PN} (h : Rd w pp gb cap ns) (hx : ns[i]? = some x) (hk : x.kind ≠ 0) :
    Calls Tryz.prog 63 #[NP gb i] w fun e w' => e = .returned (.bool true) ∧ w' = w := by
  have c0 := h.kind hx
  have t0 : (x.kind != 0) = true := by simpa using hk
  clear h hx hk
  go_enter Tryz.func63, Tryz.ntmps63
  go_wp2_with fail
  go_ret
  exact ⟨rfl, rfl⟩
set_option maxHeartbeats 1000000 in
theorem valid_nil (w : World) : Calls Tryz.prog 63 #[.pointer none] w fun e w' => e = .returned (.bool false) ∧ w' = w := by
  go_enter Tryz.func63, Tryz.ntmps63
  go_wp2_with fail
  go_ret
  exact ⟨rfl, rfl⟩

set_option maxHeartbeats 1000000 in
theorem nxt_none {w : World} {pp gb cap i : Nat} {ns : List PN} {x : PN} (h : Rd w pp gb cap ns) (hx : ns[i]? = some x) (hk : x.next = 0) :
    Calls Tryz.prog 64 #[NP gb i] w fun e w' => e = .returned (.pointer none) ∧ w' = w := by
  have c := h.cells i x 5 _ hx (by decide) rfl
  rw [hk] at c
  clear h hx hk
  go_enter Tryz.func64, Tryz.ntmps64
  go_wp2_with fail
  go_ret
  exact ⟨rfl, rfl⟩
set_option maxHeartbeats 1000000 in
theorem nxt_some {w : World} {pp gb cap i j : Nat} {ns : List PN} {x : PN} (h : Rd w pp gb cap ns) (hx : ns[i]? = some x) (hk : x.next = ((j + 1 : Nat) : Int)) (hj : j < ns.length) :
    Calls Tryz.prog 64 #[NP gb i] w fun e w' => e = .returned (NP gb j) ∧ ∃ q, w' = w.drewN q := by
  have c := h.cells i x 5 _ hx (by decide) rfl
  have c4 := h.cells i x 4 _ hx (by decide) rfl
  have cn := h.nodes
  have hl := h.len
  rw [hk] at c
  have t0 : (((j + 1 : Nat) : Int) == 0) = false := by simp; omega
  obtain ⟨n, hn⟩ : ∃ n, ns.length = n := ⟨_, rfl⟩
  rw [hn] at cn hj hl
  obtain ⟨y, hy⟩ : ∃ y, j + 1 = y := ⟨_, rfl⟩
  have hjy : j = y - 1 := by omega
  have hy1 : 1 ≤ y := by omega
  have hyn : y ≤ n := by omega
  rw [hy] at c t0
  subst hjy
  clear h hx hk hn hy hj
  go_enter Tryz.func64, Tryz.ntmps64
  go_wp2_with fail
  go_quiet (fail)
  go_wp2_with fail
  go_ret
  exact ⟨congrArg (fun x => Ending.returned (.pointer (some ⟨gb, x, none⟩))) (Nat.mul_comm (y - 1) 7), nq, rfl⟩

set_option maxHeartbeats 1000000 in
theorem chd_none {w : World} {pp gb cap i : Nat} {ns : List PN} {x : PN} (h : Rd w pp gb cap ns) (hx : ns[i]? = some x) (hk : x.child = 0) :
    Calls Tryz.prog 48 #[NP gb i] w fun e w' => e = .returned (.pointer none) ∧ w' = w := by
  have c := h.cells i x 6 _ hx (by decide) rfl
  rw [hk] at c
  clear h hx hk
  go_enter Tryz.func48, Tryz.ntmps48
  go_wp2_with fail
  go_ret
  exact ⟨rfl, rfl⟩
set_option maxHeartbeats 1000000 in
theorem chd_some {w : World} {pp gb cap i j : Nat} {ns : List PN} {x : PN} (h : Rd w pp gb cap ns) (hx : ns[i]? = some x) (hk : x.child = ((j + 1 : Nat) : Int)) (hj : j < ns.length) :
    Calls Tryz.prog 48 #[NP gb i] w fun e w' => e = .returned (NP gb j) ∧ ∃ q, w' = w.drewN q := by
  have c := h.cells i x 6 _ hx (by decide) rfl
  have c4 := h.cells i x 4 _ hx (by decide) rfl
  have cn := h.nodes
  have hl := h.len
  rw [hk] at c
  have t0 : (((j + 1 : Nat) : Int) == 0) = false := by simp; omega
  obtain ⟨n, hn⟩ : ∃ n, ns.length = n := ⟨_, rfl⟩
  rw [hn] at cn hj hl
  obtain ⟨y, hy⟩ : ∃ y, j + 1 = y := ⟨_, rfl⟩
  have hjy : j = y - 1 := by omega
  have hy1 : 1 ≤ y := by omega
  have hyn : y ≤ n := by omega
  rw [hy] at c t0
  subst hjy
  clear h hx hk hn hy hj
  go_enter Tryz.func48, Tryz.ntmps48
  go_wp2_with fail
  go_quiet (fail)
  go_wp2_with fail
  go_ret
  exact ⟨congrArg (fun x => Ending.returned (.pointer (some ⟨gb, x, none⟩))) (Nat.mul_comm (y - 1) 7), nq, rfl⟩

/-- A pointer to a node, or none. -/
def PO (gb : Nat) : Option Nat → Value
  | none => .pointer none
  | some i => NP gb i
/-- A node's number, or nought. -/
def Lk (ns : List PN) (n : Int) (o : Option Nat) : Prop := (n = 0 ∧ o = none) ∨ ∃ (j : Nat) (y : PN), o = some j ∧ n = ((j + 1 : Nat) : Int) ∧ ns[j]? = some y ∧ y.kind ≠ 0
theorem nxt_any {w : World} {pp gb cap i : Nat} {ns : List PN} {x : PN} {o : Option Nat} (h : Rd w pp gb cap ns) (hx : ns[i]? = some x) (hl : Lk ns x.next o) : Calls Tryz.prog 64 #[NP gb i] w fun e w' => e = .returned (PO gb o) ∧ ∃ q, w' = w.drewN q := by
  rcases hl with ⟨h0, rfl⟩ | ⟨j, y, rfl, hn, hy, _⟩
  · exact (nxt_none h hx h0).mono fun e w' hh => ⟨hh.1, 0, hh.2⟩
  · exact nxt_some h hx hn (List.getElem?_eq_some_iff.1 hy).1
theorem chd_any {w : World} {pp gb cap i : Nat} {ns : List PN} {x : PN} {o : Option Nat} (h : Rd w pp gb cap ns) (hx : ns[i]? = some x) (hl : Lk ns x.child o) : Calls Tryz.prog 48 #[NP gb i] w fun e w' => e = .returned (PO gb o) ∧ ∃ q, w' = w.drewN q := by
  rcases hl with ⟨h0, rfl⟩ | ⟨j, y, rfl, hn, hy, _⟩
  · exact (chd_none h hx h0).mono fun e w' hh => ⟨hh.1, 0, hh.2⟩
  · exact chd_some h hx hn (List.getElem?_eq_some_iff.1 hy).1
theorem valid_po {w : World} {pp gb cap : Nat} {ns : List PN} {n : Int} {o : Option Nat} (h : Rd w pp gb cap ns) (hl : Lk ns n o) : Calls Tryz.prog 63 #[PO gb o] w fun e w' => e = .returned (.bool o.isSome) ∧ w' = w := by
  rcases hl with ⟨_, rfl⟩ | ⟨j, y, rfl, _, hy, hk⟩
  · exact valid_nil w
  · exact valid_node h hy hk
/-- An iterator in its block. -/
structure IT (w : World) (gb ib : Nat) (st : Bool) (o : Option Nat) : Prop where
  c0 : w.cell? ⟨ib, 0, none⟩ = some (.bool st)
  c1 : w.cell? ⟨ib, 1, none⟩ = some (PO gb o)
  f0 : w.frozen? ⟨ib, 0, none⟩ = false
  f1 : w.frozen? ⟨ib, 1, none⟩ = false
theorem IT.grown {w w' : World} {gb ib : Nat} {st : Bool} {o : Option Nat} (h : IT w gb ib st o) (hg : w.grownBy w' none) : IT w' gb ib st o := by
  have hb := hg.block ib (cell_lt h.c0) (by simp)
  exact ⟨(World.cell?_of_block (w := w) hb).trans h.c0, (World.cell?_of_block (w := w) hb).trans h.c1, (World.frozen?_of_block (w := w) hb).trans h.f0, (World.frozen?_of_block (w := w) hb).trans h.f1⟩
theorem IT.start {w : World} {gb ib : Nat} {o : Option Nat} (h : IT w gb ib false o) : IT (w.setCell ⟨ib, 0, none⟩ (.bool true)) gb ib true o :=
  ⟨World.cell?_setCell_same w _ _ h.c0, (World.cell?_setCell_other w _ _ _ (by simp)).trans h.c1, by rw [World.frozen?_setCell]; exact h.f0, by rw [World.frozen?_setCell]; exact h.f1⟩
theorem IT.move {w : World} {gb ib : Nat} {st : Bool} {o o' : Option Nat} (h : IT w gb ib st o) : IT (w.setCell ⟨ib, 1, none⟩ (PO gb o')) gb ib st o' :=
  ⟨(World.cell?_setCell_other w _ _ _ (by simp)).trans h.c0, World.cell?_setCell_same w _ _ h.c1, by rw [World.frozen?_setCell]; exact h.f0, by rw [World.frozen?_setCell]; exact h.f1⟩
theorem Rd.box {w : World} {pp gb cap ib j : Nat} {ns : List PN} (h : Rd w pp gb cap ns) (h1 : ib ≠ pp) (h2 : ib ≠ gb) (v : Value) : Rd (w.setCell ⟨ib, j, none⟩ v) pp gb cap ns :=
  ⟨(World.cell?_of_block (w := w) (Below.heap_setCell w _ _ pp (Ne.symm h1))).trans h.nodes, fun i x k u hx hk hv => (World.cell?_of_block (w := w) (Below.heap_setCell w _ _ gb (Ne.symm h2))).trans (h.cells i x k u hx hk hv), h.len⟩

set_option maxHeartbeats 2000000 in
theorem it_first {w : World} {pp gb cap ib : Nat} {ns : List PN} {n : Int} {o : Option Nat} (h : Rd w pp gb cap ns) (h1 : ib ≠ pp) (h2 : ib ≠ gb) (hi : IT w gb ib false o) (hl : Lk ns n o) :
    Calls Tryz.prog 44 #[.pointer (some ⟨ib, 0, none⟩)] w fun e w' => e = .returned (.bool o.isSome) ∧ w' = w.setCell ⟨ib, 0, none⟩ (.bool true) := by
  have c0 := hi.c0
  have f0 := hi.f0
  have HI := Lib.hid hi.start
  have c1 := hi.start.c1
  have HV := Lib.hid (valid_po (h.box (j := 0) h1 h2 (.bool true)) hl)
  clear h hi hl
  go_enter Tryz.func44, Tryz.ntmps44
  go_wp2_with fail
  with_reducible refine HV.out.mono ?_
  rintro e w' ⟨rfl, rfl⟩
  go_wp2_with fail
  go_ret
  exact ⟨rfl, rfl⟩
set_option maxHeartbeats 2000000 in
theorem it_next {w : World} {pp gb cap ib i : Nat} {ns : List PN} {x : PN} {o : Option Nat} (h : Rd w pp gb cap ns) (h1 : ib ≠ pp) (h2 : ib ≠ gb) (hi : IT w gb ib true (some i)) (hx : ns[i]? = some x) (hk : x.kind ≠ 0) (hl : Lk ns x.next o) :
    Calls Tryz.prog 44 #[.pointer (some ⟨ib, 0, none⟩)] w fun e w' => e = .returned (.bool o.isSome) ∧ ∃ q, w' = (w.drewN q).setCell ⟨ib, 1, none⟩ (PO gb o) := by
  have c0 := hi.c0
  have c1 := hi.c1
  have f1 := hi.f1
  rw [show PO gb (some i) = NP gb i from rfl] at c1
  have HV := Lib.hid (valid_node h hx hk)
  have HN := Lib.hid (nxt_any h hx hl)
  have HV2 := Lib.hid (fun q => valid_po ((h.grown (grown_drewN w q)).box (j := 1) h1 h2 (PO gb o)) hl)
  have HM := Lib.hid (fun q => (hi.grown (grown_drewN w q)).move (o' := o))
  have hpo : ∃ p, PO gb o = .pointer p := by cases o <;> exact ⟨_, rfl⟩
  obtain ⟨p, hp⟩ := hpo
  rw [hp] at HN HV2 HM ⊢
  clear h hi hl hx hk hp
  go_enter Tryz.func44, Tryz.ntmps44
  go_wp2_with fail
  with_reducible refine HV.out.mono ?_
  rintro e w' ⟨rfl, hw'⟩
  rw [hw']
  clear hw' w'
  go_wp2_with fail
  with_reducible refine HN.out.mono ?_
  rintro e w' ⟨rfl, q, rfl⟩
  have HV3 := Lib.hid (HV2.out q)
  have cm := World.cell?_setCell_same (w.drewN q) ⟨ib, 1, none⟩ (.pointer p) c1
  go_wp2_with fail
  with_reducible refine HV3.out.mono ?_
  rintro e w' ⟨rfl, hw'⟩
  rw [hw']
  clear hw' w'
  go_wp2_with fail
  go_ret
  exact ⟨rfl, q, rfl⟩
set_option maxHeartbeats 1000000 in
theorem it_node {w : World} {gb ib : Nat} {st : Bool} {o : Option Nat} (hi : IT w gb ib st o) : Calls Tryz.prog 45 #[.pointer (some ⟨ib, 0, none⟩)] w fun e w' => e = .returned (PO gb o) ∧ w' = w := by
  have c1 := hi.c1
  have hpo : ∃ p, PO gb o = .pointer p := by cases o <;> exact ⟨_, rfl⟩
  obtain ⟨p, hp⟩ := hpo
  rw [hp] at c1 ⊢
  clear hi hp
  go_enter Tryz.func45, Tryz.ntmps45
  go_wp2_with fail
  go_ret
  exact ⟨rfl, rfl⟩
set_option maxHeartbeats 1000000 in
theorem val_any {w : World} {pp gb cap i : Nat} {ns : List PN} {x : PN} {o : Option Nat} (h : Rd w pp gb cap ns) (hx : ns[i]? = some x) (hl : Lk ns x.child o) : Calls Tryz.prog 21 #[NP gb i] w fun e w' => e = .returned (PO gb o) ∧ ∃ q, w' = w.drewN q := by
  have HC := Lib.hid (chd_any h hx hl)
  clear h hx hl
  go_enter Tryz.func21, Tryz.ntmps21
  go_wp2_with fail
  with_reducible refine HC.out.mono ?_
  rintro e w' ⟨rfl, q, rfl⟩
  go_wp2_with fail
  go_ret
  exact ⟨rfl, q, rfl⟩
set_option maxHeartbeats 1000000 in
theorem children_any {w : World} {pp gb cap i : Nat} {ns : List PN} {x : PN} {o : Option Nat} (h : Rd w pp gb cap ns) (hx : ns[i]? = some x) (hl : Lk ns x.child o) : Calls Tryz.prog 47 #[NP gb i] w fun e w' => e = .returned (.agg #[.bool false, PO gb o]) ∧ w.grownBy w' none := by
  have HC := Lib.hid (chd_any (h.grown (World.grownBy_alloc w (.cells #[.bool false, .pointer none] 90) none)) hx hl)
  have hpo : ∃ p, PO gb o = .pointer p := by cases o <;> exact ⟨_, rfl⟩
  obtain ⟨p, hp⟩ := hpo
  rw [hp] at HC ⊢
  clear h hx hl hp
  go_enter Tryz.func47, Tryz.ntmps47
  go_wp2_with fail
  with_reducible refine HC.out.mono ?_
  rintro e w' ⟨rfl, q, rfl⟩
  go_wp2_with fail
  have hb : ((w.alloc (.cells #[.bool false, .pointer none] 90)).drewN q).heap[w.heap.size]? = some (.cells #[.bool false, .pointer none] 90 (0, 0)) := heap_alloc_new w _
  obtain ⟨W0, hW0⟩ : ∃ W0 : World, (w.alloc (.cells #[.bool false, .pointer none] 90)).drewN q = W0 := ⟨_, rfl⟩
  have hg0 : w.grownBy W0 none := by rw [← hW0]; exact gtrans (World.grownBy_alloc w _ none) (grown_drewN _ q)
  rw [hW0] at hb ⊢
  clear hW0
  have e0 : W0.cell? ⟨w.heap.size, 0, none⟩ = some (.bool false) := by rw [cell_of_row _ _ 0 _ _ _ hb]; rfl
  have e1 : W0.cell? ⟨w.heap.size, 1, none⟩ = some (.pointer none) := by rw [cell_of_row _ _ 1 _ _ _ hb]; rfl
  obtain ⟨b, hbb⟩ : ∃ b, w.heap.size = b := ⟨_, rfl⟩
  rw [hbb] at e0 e1 ⊢
  have d0 : ((W0.setCell ⟨b, 0, none⟩ (.bool false)).setCell ⟨b, 1, none⟩ (.pointer p)).cell? ⟨b, 0, none⟩ = some (.bool false) := (World.cell?_setCell_other _ _ _ _ (by simp)).trans (World.cell?_setCell_same W0 _ _ e0)
  have d1 : ((W0.setCell ⟨b, 0, none⟩ (.bool false)).setCell ⟨b, 1, none⟩ (.pointer p)).cell? ⟨b, 1, none⟩ = some (.pointer p) := World.cell?_setCell_same _ _ _ ((World.cell?_setCell_other W0 _ _ _ (by simp)).trans e1)
  exact bodyPost_ret (v := .agg #[.bool false, .pointer p]) (by simp [results, Tryz.results47, go_sem, d0, d1]) rfl ⟨rfl, grown_setNew (grown_setNew hg0 _ (by show w.heap.size ≤ b; omega) _) _ (by show w.heap.size ≤ b; omega) _⟩

theorem Lk.step {ns : List PN} {n : Int} {j : Nat} {y : PN} (hn : n = ((j + 1 : Nat) : Int)) (hy : ns[j]? = some y) (hk : y.kind ≠ 0) : Lk ns n (some j) := .inr ⟨j, y, rfl, hn, hy, hk⟩
set_option maxHeartbeats 2000000 in
theorem key_kv {w : World} {pp gb cap i c j : Nat} {ns : List PN} {x y z : PN} (h : Rd w pp gb cap ns) (hx : ns[i]? = some x) (hk : x.kind = 5) (hc : x.child = ((c + 1 : Nat) : Int)) (hy : ns[c]? = some y) (hyk : y.kind ≠ 0) (hn : y.next = ((j + 1 : Nat) : Int)) (hz : ns[j]? = some z) (hzk : z.kind ≠ 0) :
    Calls Tryz.prog 43 #[NP gb i] w fun e w' => e = .returned (.agg #[.bool false, NP gb j]) ∧ w.grownBy w' none := by
  have hg1 := World.grownBy_alloc w (.cells #[.bool false, .pointer none] 90) none
  have ck := (h.grown hg1).kind hx
  rw [hk] at ck
  have HC := Lib.hid (chd_any (h.grown hg1) hx (Lk.step hc hy hyk))
  have HV := Lib.hid (fun q => valid_node ((h.grown hg1).grown (grown_drewN _ q)) hy hyk)
  have HN := Lib.hid (fun q => nxt_any ((h.grown hg1).grown (grown_drewN _ q)) hy (Lk.step hn hz hzk))
  clear h hx hk hc hy hyk hn hz hzk hg1
  go_enter Tryz.func43, Tryz.ntmps43
  go_wp2_with fail
  with_reducible refine HC.out.mono ?_
  rintro e w' ⟨rfl, q1, rfl⟩
  rw [show PO gb (some c) = NP gb c from rfl]
  have HV1 := Lib.hid (HV.out q1)
  have HN1 := Lib.hid (HN.out q1)
  clear HV HN
  go_wp2_with fail
  with_reducible refine HV1.out.mono ?_
  rintro e w' ⟨rfl, hw'⟩
  rw [hw']
  clear hw' w'
  go_wp2_with fail
  with_reducible refine HN1.out.mono ?_
  rintro e w' ⟨rfl, q2, rfl⟩
  rw [show PO gb (some j) = NP gb j from rfl]
  go_wp2_with fail
  obtain ⟨q, hq⟩ : ∃ q, q1 + q2 = q := ⟨_, rfl⟩
  rw [hq]
  unfold NP
  obtain ⟨p, hp⟩ : ∃ p : Option Addr, some (⟨gb, 7 * j, none⟩ : Addr) = p := ⟨_, rfl⟩
  rw [hp]
  have hb : ((w.alloc (.cells #[.bool false, .pointer none] 90)).drewN q).heap[w.heap.size]? = some (.cells #[.bool false, .pointer none] 90 (0, 0)) := heap_alloc_new w _
  obtain ⟨W0, hW0⟩ : ∃ W0 : World, (w.alloc (.cells #[.bool false, .pointer none] 90)).drewN q = W0 := ⟨_, rfl⟩
  have hg0 : w.grownBy W0 none := by rw [← hW0]; exact gtrans (World.grownBy_alloc w _ none) (grown_drewN _ q)
  rw [hW0] at hb ⊢
  clear hW0
  have e0 : W0.cell? ⟨w.heap.size, 0, none⟩ = some (.bool false) := by rw [cell_of_row _ _ 0 _ _ _ hb]; rfl
  have e1 : W0.cell? ⟨w.heap.size, 1, none⟩ = some (.pointer none) := by rw [cell_of_row _ _ 1 _ _ _ hb]; rfl
  obtain ⟨b, hbb⟩ : ∃ b, w.heap.size = b := ⟨_, rfl⟩
  rw [hbb] at e0 e1 ⊢
  have d0 : ((W0.setCell ⟨b, 0, none⟩ (.bool false)).setCell ⟨b, 1, none⟩ (.pointer p)).cell? ⟨b, 0, none⟩ = some (.bool false) := (World.cell?_setCell_other _ _ _ _ (by simp)).trans (World.cell?_setCell_same W0 _ _ e0)
  have d1 : ((W0.setCell ⟨b, 0, none⟩ (.bool false)).setCell ⟨b, 1, none⟩ (.pointer p)).cell? ⟨b, 1, none⟩ = some (.pointer p) := World.cell?_setCell_same _ _ _ ((World.cell?_setCell_other W0 _ _ _ (by simp)).trans e1)
  exact bodyPost_ret (v := .agg #[.bool false, .pointer p]) (by simp [results, Tryz.results43, go_sem, d0, d1]) rfl ⟨rfl, grown_setNew (grown_setNew hg0 _ (by show w.heap.size ≤ b; omega) _) _ (by show w.heap.size ≤ b; omega) _⟩
set_option maxHeartbeats 2000000 in
theorem key_tb {w : World} {pp gb cap i j : Nat} {ns : List PN} {x z : PN} (h : Rd w pp gb cap ns) (hx : ns[i]? = some x) (hk : x.kind = 3 ∨ x.kind = 4) (hc : x.child = ((j + 1 : Nat) : Int)) (hz : ns[j]? = some z) (hzk : z.kind ≠ 0) :
    Calls Tryz.prog 43 #[NP gb i] w fun e w' => e = .returned (.agg #[.bool false, NP gb j]) ∧ w.grownBy w' none := by
  have hg1 := World.grownBy_alloc w (.cells #[.bool false, .pointer none] 90) none
  have ck := (h.grown hg1).kind hx
  have HC := Lib.hid (chd_any (h.grown hg1) hx (Lk.step hc hz hzk))
  clear h hx hc hz hzk hg1
  rcases hk with hk | hk
  all_goals
    rw [hk] at ck
    clear hk
    go_enter Tryz.func43, Tryz.ntmps43
    go_wp2_with fail
    with_reducible refine HC.out.mono ?_
    rintro e w' ⟨rfl, q, rfl⟩
    rw [show PO gb (some j) = NP gb j from rfl]
    go_wp2_with fail
    unfold NP
    obtain ⟨p, hp⟩ : ∃ p : Option Addr, some (⟨gb, 7 * j, none⟩ : Addr) = p := ⟨_, rfl⟩
    rw [hp]
    have hb : ((w.alloc (.cells #[.bool false, .pointer none] 90)).drewN q).heap[w.heap.size]? = some (.cells #[.bool false, .pointer none] 90 (0, 0)) := heap_alloc_new w _
    obtain ⟨W0, hW0⟩ : ∃ W0 : World, (w.alloc (.cells #[.bool false, .pointer none] 90)).drewN q = W0 := ⟨_, rfl⟩
    have hg0 : w.grownBy W0 none := by rw [← hW0]; exact gtrans (World.grownBy_alloc w _ none) (grown_drewN _ q)
    rw [hW0] at hb ⊢
    clear hW0
    have e0 : W0.cell? ⟨w.heap.size, 0, none⟩ = some (.bool false) := by rw [cell_of_row _ _ 0 _ _ _ hb]; rfl
    have e1 : W0.cell? ⟨w.heap.size, 1, none⟩ = some (.pointer none) := by rw [cell_of_row _ _ 1 _ _ _ hb]; rfl
    obtain ⟨b, hbb⟩ : ∃ b, w.heap.size = b := ⟨_, rfl⟩
    rw [hbb] at e0 e1 ⊢
    have d0 : ((W0.setCell ⟨b, 0, none⟩ (.bool false)).setCell ⟨b, 1, none⟩ (.pointer p)).cell? ⟨b, 0, none⟩ = some (.bool false) := (World.cell?_setCell_other _ _ _ _ (by simp)).trans (World.cell?_setCell_same W0 _ _ e0)
    have d1 : ((W0.setCell ⟨b, 0, none⟩ (.bool false)).setCell ⟨b, 1, none⟩ (.pointer p)).cell? ⟨b, 1, none⟩ = some (.pointer p) := World.cell?_setCell_same _ _ _ ((World.cell?_setCell_other W0 _ _ _ (by simp)).trans e1)
    exact bodyPost_ret (v := .agg #[.bool false, .pointer p]) (by simp [results, Tryz.results43, go_sem, d0, d1]) rfl ⟨rfl, grown_setNew (grown_setNew hg0 _ (by show w.heap.size ≤ b; omega) _) _ (by show w.heap.size ≤ b; omega) _⟩
set_option maxHeartbeats 1000000 in
theorem expr_any {w : World} {pp gb cap : Nat} {ns : List PN} (h : Rd w pp gb cap ns) (hne : 0 < ns.length) : Calls Tryz.prog 18 #[.pointer (some ⟨pp, 0, none⟩)] w fun e w' => e = .returned (NP gb 0) ∧ w' = w := by
  have cn := h.nodes
  have hl := h.len
  obtain ⟨n, hn⟩ : ∃ n, ns.length = n := ⟨_, rfl⟩
  rw [hn] at cn hne hl
  clear h hn
  go_enter Tryz.func18, Tryz.ntmps18
  go_wp2_with fail
  go_ret
  exact ⟨rfl, rfl⟩
set_option maxHeartbeats 1000000 in
theorem err_any {w : World} {pp db C : Nat} {B : List UInt8} {nv : Value} {ns : List PN} {g : Int} (hP : PS w pp db C B nv ns g) : Calls Tryz.prog 22 #[.pointer (some ⟨pp, 0, none⟩)] w fun e w' => e = .returned .nilIface ∧ w' = w := by
  have ce := hP.er
  clear hP
  go_enter Tryz.func22, Tryz.ntmps22
  go_wp2_with fail
  go_ret
  exact ⟨rfl, rfl⟩
end Go.Proofs.YtalmpddmhakdmaaGreat

/-
  The walk of a function of impl: the parts of a key (19). Conditions: the nodes lie in memory as stated.
-/
namespace Go.Proofs.YtalmpddmhakdmaaGreat
open Go.RowKit

/-- A text that lies in memory. -/
def Tx (w : World) (v : Value) (t : List UInt8) : Prop := TxtAt (fun b => b < w.heap.size) w v t
theorem Tx.grown {w w' : World} {v : Value} {t : List UInt8} (h : Tx w v t) (hg : w.grownBy w' none) : Tx w' v t := TxtAt.frame h (fun b hb => hg.block b hb (by simp)) fun _ hb => Nat.lt_of_lt_of_le hb hg.size
theorem DtN.tx {base db pp : Nat} {w : World} {nv v : Value} {t : List UInt8} (h : DtN base db w pp nv v t) : Tx w v t := TxtAt.frame h (fun _ _ => rfl) fun _ hb => hb.1.1
theorem Tx.conv {w : World} {v : Value} {t : List UInt8} (h : Tx w v t) : (convert 22 9 v).run Tryz.prog w = .ok (.string ⟨t.toArray⟩) w := by
  obtain ⟨a, c, rfl, _, h2⟩ := h
  exact run_conv a c t t.length rfl h2
theorem KyN.at {M : Value → List UInt8 → Prop} {ns : List PN} : ∀ {ks : List (List UInt8)} {i k : Nat} {t : List UInt8}, KyN M ns i ks → ks[k]? = some t → ∃ x, ns[i + k]? = some x ∧ x.kind = 2 ∧ M x.data t ∧ x.next = (if k + 1 = ks.length then (0 : Int) else ((i + k + 1 + 1 : Nat) : Int))
  | [], _, k, _, _, h => by cases h
  | t0 :: ks, i, 0, t, hk, h => by
    obtain ⟨x, h1, h2, h3, h4, h5⟩ := hk
    cases h
    refine ⟨x, h1, h2, h3, ?_⟩
    rw [h4]
    cases ks with
    | nil => rfl
    | cons a l => simp; omega
  | t0 :: ks, i, k + 1, t, hk, h => by
    obtain ⟨x, h1, h2, h3, h4, h5⟩ := hk
    obtain ⟨y, g1, g2, g3, g4⟩ := KyN.at (k := k) h5 h
    refine ⟨y, by rw [← g1]; congr 1; omega, g2, g3, ?_⟩
    rw [g4]
    by_cases hk : k + 1 = ks.length
    · rw [if_pos hk, if_pos (by simp; omega)]
    · rw [if_neg hk, if_neg (by simp; omega)]
      congr 1
      omega
theorem IT.kept {w w' : World} {gb ib : Nat} {st : Bool} {o : Option Nat} {row : Option Nat} (h : IT w gb ib st o) (hg : w.grownBy w' row) (hr : row ≠ some ib) : IT w' gb ib st o := by
  have hb := hg.block ib (cell_lt h.c0) (fun e => hr e.symm)
  exact ⟨(World.cell?_of_block (w := w) hb).trans h.c0, (World.cell?_of_block (w := w) hb).trans h.c1, (World.frozen?_of_block (w := w) hb).trans h.f0, (World.frozen?_of_block (w := w) hb).trans h.f1⟩
/-- What holds at the head of the loop. -/
def KoL (w : World) (gb ib i0 : Nat) (ks : List (List UInt8)) (v : Value) (wr : World) : Prop :=
  ∃ k : Nat, k ≤ ks.length ∧ IT wr gb ib (decide (0 < k)) (some (i0 + (k - 1))) ∧ OwnS wr (ib + 1) v (ks.take k) ∧ w.grownBy wr none
theorem OwnS.lenOf {base : Nat} {ks : List (List UInt8)} {v : Value} {wr : World} (h : OwnS wr base v ks) : YtalmpddmhakdmaaGreat.lenOf v = ks.length := by
  rcases h.2 with ⟨rfl, h2⟩ | ⟨g, c, cur, rfl, _⟩
  · exact h2.symm
  · rfl
theorem OwnS.base {base base' : Nat} {ks : List (List UInt8)} {v : Value} {wr : World} (h : OwnS wr base v ks) (hb : base' ≤ base) : OwnS wr base' v ks :=
  ⟨h.1, h.2.imp id fun ⟨g, c, cur, h1, h2, h3⟩ => ⟨g, c, cur, h1, Nat.le_trans hb h2, h3⟩⟩

set_option maxRecDepth 100000 in
set_option maxHeartbeats 4000000 in
theorem keys_of {w : World} {pp gb cap n i0 : Nat} {ns : List PN} {ks : List (List UInt8)} (hR : Rd w pp gb cap ns) (hK : KyN (Tx w) ns i0 ks) (hne : ks ≠ []) (hlen : ks.length ≤ 300000) (hgb : gb < w.heap.size)
    (hY : ∀ W, Rd W pp gb cap ns → Calls Tryz.prog 43 #[NP gb n] W fun e w' => e = .returned (.agg #[.bool false, NP gb i0]) ∧ W.grownBy w' none) :
    Calls Tryz.prog 19 #[NP gb n] w fun e w' => ∃ v, e = .returned v ∧ OwnS w' w.heap.size v ks ∧ w.grownBy w' none := by
  obtain ⟨i0', hi, hz0, hz1, hz2⟩ := info_parts Tryz.info9
  have HR := Lib.hid hR
  have HK := Lib.hid hK
  have HY := Lib.hid (hY w hR)
  have hpp := cell_lt hR.nodes
  have hks : 0 < ks.length := List.length_pos_iff.2 hne
  clear hR hK hY hne
  go_enter Tryz.func19, Tryz.ntmps19
  go_wp2_with fail
  with_reducible refine HY.out.mono ?_
  rintro e w1 ⟨rfl, hg1⟩
  have hsz1 := hg1.size
  have hg2 := gtrans hg1 (World.grownBy_alloc w1 (.cells #[.bool false, NP gb i0] 90) none)
  have hb := heap_alloc_new w1 (.cells #[.bool false, NP gb i0] 90)
  have HST := Lib.hid (show KoL w gb w1.heap.size i0 ks (.slice none 0 0) (w1.alloc (.cells #[.bool false, NP gb i0] 90)) from
    ⟨0, Nat.zero_le _, ⟨by rw [cell_of_row _ _ 0 _ _ _ hb]; rfl, by rw [cell_of_row _ _ 1 _ _ _ hb]; rfl, frozen_of_row _ _ 0 _ _ hb, frozen_of_row _ _ 1 _ _ hb⟩, by rw [List.take_zero]; exact OwnS.nil _ _, hg2⟩)
  clear hg1 hg2 hb HY
  go_wp2_with fail
  go_loopw [3] (fun u3 wr => KoL w gb w1.heap.size i0 ks u3 wr) (fun u3 _ => ks.length - lenOf u3)
  case atStart => exact HST.out
  case round =>
    obtain ⟨k, hk, hit, how, hgr⟩ := hrel
    have hlv := how.lenOf
    rw [List.length_take, Nat.min_eq_left hk] at hlv
    have HLV := Lib.hid hlv
    have HOW := Lib.hid how
    have HGR := Lib.hid hgr
    have HRR := Lib.hid (HR.out.grown hgr)
    have HIT0 := Lib.hid hit
    have hne1 : w1.heap.size ≠ pp := by omega
    have hne2 : w1.heap.size ≠ gb := by omega
    have hszr := hgr.size
    have hib := cell_lt hit.c0
    obtain ⟨ib, hibb⟩ : ∃ ib, w1.heap.size = ib := ⟨_, rfl⟩
    rw [hibb] at HOW HIT0 hne1 hne2 hib hsz1 ⊢
    have key : ∀ k' x o, k = k' + 1 → ns[i0 + k']? = some x → x.kind ≠ 0 → Lk ns x.next o → Calls Tryz.prog 44 #[.pointer (some ⟨ib, 0, none⟩)] wr fun e w' => e = .returned (.bool o.isSome) ∧ IT w' gb ib true o ∧ w.grownBy w' none ∧ OwnS w' (ib + 1) u3 (ks.take k) := by
      intro k' x o hk1 hx hxk hlk
      subst hk1
      have hit := HIT0.out
      refine (it_next HRR.out hne1 hne2 hit hx hxk hlk).mono ?_
      rintro e w' ⟨he, q, rfl⟩
      exact ⟨he, (hit.grown (grown_drewN wr q)).move, grown_setNew (gtrans HGR.out (grown_drewN wr q)) _ hsz1 _, (HOW.out.drewN q).setCell _ (Nat.lt_succ_self ib) _⟩
    have HKEY := Lib.hid key
    clear hlv how hgr hit key HST
    by_cases hkl : k < ks.length
    · obtain ⟨t, ht⟩ : ∃ t, ks[k]? = some t := ⟨_, List.getElem?_eq_getElem hkl⟩
      obtain ⟨x, hx, hxk, hxd, _⟩ := HK.out.at ht
      have hxk0 : x.kind ≠ 0 := by rw [hxk]; decide
      have hcall : Calls Tryz.prog 44 #[.pointer (some ⟨ib, 0, none⟩)] wr fun e w' => e = .returned (.bool true) ∧ IT w' gb ib true (some (i0 + k)) ∧ w.grownBy w' none ∧ OwnS w' (ib + 1) u3 (ks.take k) := by
        cases k with
        | zero =>
          have hit := HIT0.out
          refine (it_first HRR.out hne1 hne2 hit (n := ((i0 + 1 : Nat) : Int)) (Lk.step rfl hx hxk0)).mono ?_
          rintro e w' ⟨he, rfl⟩
          exact ⟨he, hit.start, grown_setNew HGR.out _ hsz1 _, HOW.out.setCell _ (Nat.lt_succ_self ib) _⟩
        | succ k' =>
          obtain ⟨t', ht'⟩ : ∃ t', ks[k']? = some t' := ⟨_, List.getElem?_eq_getElem (by omega)⟩
          obtain ⟨x', hx', hxk', _, hxn'⟩ := HK.out.at ht'
          rw [if_neg (by omega)] at hxn'
          refine (HKEY.out k' x' (some (i0 + k' + 1)) rfl hx' (by rw [hxk']; decide) (Lk.step hxn' hx hxk0)).mono ?_
          rintro e w' ⟨he, h2, h3, h4⟩
          exact ⟨he, h2, h3, h4⟩
      have HC := Lib.hid hcall
      have HX := Lib.hid (And.intro hx hxd)
      have HT := Lib.hid ht
      clear hcall hx hxk hxd hxk0 ht HKEY HIT0
      go_wp2_with fail
      with_reducible refine HC.out.mono ?_
      rintro e w5 ⟨rfl, hit5, hg5, how5⟩
      have hR5 := HR.out.grown hg5
      have htx := HX.out.2.grown hg5
      have hcv := htx.conv
      obtain ⟨da, dc, hda, _, _⟩ := htx
      have hcd := hR5.cells _ _ 3 _ HX.out.1 (by decide) rfl
      rw [hda] at hcv hcd
      have HIT := Lib.hid hit5
      have HO5 := Lib.hid how5
      have HG5 := Lib.hid hg5
      have hibw : ib + 1 ≤ w5.heap.size := cell_lt hit5.c0
      have HND := Lib.hid (it_node hit5)
      have hkk : (ks.take k).length ≤ 300000 := by rw [List.length_take]; omega
      obtain ⟨st, hst⟩ : ∃ st : ByteArray, (⟨t.toArray⟩ : ByteArray) = st := ⟨_, rfl⟩
      rw [hst] at hcv
      have HST := Lib.hid hst
      clear hit5 hg5 how5 hR5 hda HC hst
      go_wp2_with fail
      with_reducible refine HND.out.mono ?_
      rintro e w' ⟨rfl, hw'⟩
      rw [hw']
      clear hw' w'
      rw [show PO gb (some (i0 + k)) = NP gb (i0 + k) from rfl]
      go_wp2_with (at_builtin; (refine wpList_append_own _ rfl _ _ 35 rfl (ib + 1) 9 i0' (.string ⟨#[]⟩) 1 16 Tryz.u35 hi hz0 hz1 hz2 rfl (by decide) u3 _ _ rfl (HO5.out.alloc _) ⟨w5.heap.size, 0, none⟩ 1 1 [.string st] rfl rfl (lit_cell9 _ _ rfl _) (stv_one _) (by unfold maxLen; omega) (by omega) (by simp; omega) ?_); intro v' w3 hown3 hgrow3 hnil3; have HO3 := Lib.hid (OwnS.app st.toList (by rw [stv_toList]; exact hown3)); have HG3 := Lib.hid (grow (gtrans HG5.out (World.grownBy_alloc w5 (.cells #[.string st] 9) none)) hgrow3 (fun k hk => Nat.le_trans (by omega) (HO5.out.lt k hk))); have HI3 := Lib.hid hgrow3; clear hown3 hgrow3 hnil3)
      have htk : ks.take (k + 1) = ks.take k ++ [st.toList] := by
        rw [List.take_add_one, HT.out, ← HST.out, ByteArray.toList_eq]
        rfl
      have hl3 := HO3.out.lenOf
      have hlv := HLV.out
      rw [List.length_append, List.length_take, Nat.min_eq_left hk, List.length_singleton] at hl3
      refine ⟨⟨k + 1, hkl, ?_, by rw [htk]; exact HO3.out, HG3.out⟩, by omega⟩
      have hit := (HIT.out.grown (World.grownBy_alloc w5 (.cells #[.string st] 9) none)).kept HI3.out (fun e => by have := HO5.out.lt _ e; omega)
      exact hit
    · have hke : k = ks.length := by omega
      subst hke
      obtain ⟨k', hk'⟩ : ∃ k', ks.length = k' + 1 := ⟨ks.length - 1, by omega⟩
      obtain ⟨t', ht'⟩ : ∃ t', ks[k']? = some t' := ⟨_, List.getElem?_eq_getElem (by omega)⟩
      obtain ⟨x', hx', hxk', _, hxn'⟩ := HK.out.at ht'
      rw [if_pos hk'.symm] at hxn'
      have HC := Lib.hid (HKEY.out k' x' none hk' hx' (by rw [hxk']; decide) (.inl ⟨hxn', rfl⟩))
      clear hk' ht' hx' hxk' hxn' HKEY HIT0
      go_wp2_with fail
      with_reducible refine HC.out.mono ?_
      rintro e w5 ⟨rfl, hit5, hg5, how5⟩
      have HO5 := Lib.hid how5
      have HG5 := Lib.hid hg5
      clear hit5 hg5 how5 HC
      go_wp2_with fail
      go_ret
      have := HO5.out
      rw [List.take_length] at this
      exact ⟨_, rfl, this.base (by omega), HG5.out⟩
end Go.Proofs.YtalmpddmhakdmaaGreat
