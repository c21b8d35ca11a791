/-
  Plain, and the walks of functions of impl: the kind of a value (46); a chain of nodes is gone through; a list under way. Conditions: as each lemma states.
-/
import Derived.Test.YtalmpddmhakdmaaGreatCJ28
import Derived.Test.YtalmpddmhakdmaaGreatCJ31
namespace Go.Proofs.YtalmpddmhakdmaaGreat
open Go.RowKit

/-- A row that is owned reads as the parts of a value. -/
theorem NdAt.rowW {d base n : Nat} {P : Nat → Prop} {w : World} {v : Value} {cs : List Value} {vs : List Nd} (kd : Int) (ho : w.ownsRow base 64 4 v n cs) (hn : vs.length = n) (h : RowAt d P w cs vs) (hP : ∀ b, v.ownBlock = some b → P b) :
    NdAt (d + 1) P w [.int .i64 kd, .string ⟨#[]⟩, v, .slice none 0 0] (.mk kd [] vs []) := by
  subst hn
  rcases ho.2 with ⟨h1, h2⟩ | ⟨g, cap, cur, rfl, _⟩
  · have : vs = [] := List.eq_nil_of_length_eq_zero h2
    subst this
    subst h1
    exact ⟨none, 0, _, rfl, ⟨none, 0, rfl, .inl rfl⟩, .inl rfl⟩
  · refine ⟨some ⟨g, 0, none⟩, cap, _, rfl, ⟨none, 0, rfl, .inl rfl⟩, .inr ⟨_, rfl, hP g rfl, fun j x hj => ⟨(cs.drop (4 * j)).take 4, ?_, fun i u hu => ?_, h.2 j x hj⟩⟩⟩
    · have h1 := h.1
      have h2 := (List.getElem?_eq_some_iff.1 hj).1
      rw [List.length_take, List.length_drop]
      omega
    · rw [List.getElem?_take] at hu
      split at hu
      · rw [List.getElem?_drop] at hu
        exact World.ownsRow.cells ho (g := g) rfl _ _ hu
      · cases hu


/-- A list under way: its block, the row of its parts from a base on, how they read. -/
structure UW (d o bs : Nat) (kd : Int) (v : Value) (n : Nat) (cs : List Value) (vs : List Nd) (w : World) : Prop where
  out : OutAt o kd v w
  own : w.ownsRow bs 64 4 v n cs
  ob : o < bs
  len : vs.length = n
  row : ∃ P : Nat → Prop, RowAt d P w cs vs ∧ ∀ b, P b → bs ≤ b ∧ b < w.heap.size ∧ v.ownBlock ≠ some b
theorem UW.kept {d o bs : Nat} {kd : Int} {v : Value} {n : Nat} {cs : List Value} {vs : List Nd} {w w' : World} {ib : Option Nat} (h : UW d o bs kd v n cs vs w) (hg : w.grownBy w' ib) (h1 : ∀ k, ib = some k → k ≠ o ∧ k < bs) : UW d o bs kd v n cs vs w' where
  out := h.out.of (hg.block o h.out.lt fun e => (h1 o e.symm).1 rfl)
  own := World.ownsRow.kept h.own hg (by
    rcases hv : v.ownBlock with _ | k
    · exact .inl rfl
    · refine .inr fun e => ?_
      have h2 := (World.ownsRow.lt h.own k hv).1
      have := (h1 k e.symm).2
      omega)
  ob := h.ob
  len := h.len
  row := by
    obtain ⟨P, h2, h3⟩ := h.row
    exact ⟨P, h2.frame (fun b hb => hg.block b (h3 b hb).2.1 fun e => by have := (h1 b e.symm).2; have := (h3 b hb).1; omega) fun _ h => h, fun b hb => ⟨(h3 b hb).1, Nat.lt_of_lt_of_le (h3 b hb).2.1 hg.size, (h3 b hb).2.2⟩⟩
theorem UW.form {d o bs : Nat} {kd : Int} {v : Value} {n : Nat} {cs : List Value} {vs : List Nd} {w : World} (h : UW d o bs kd v n cs vs w) : ∃ p c, v = .slice p n c := by
  rcases h.own.2 with ⟨h1, h2⟩ | ⟨g, cap, cur, h1, _⟩
  · exact ⟨none, 0, by rw [h1, h2]⟩
  · exact ⟨_, _, h1⟩
/-- .. behind the append of a value. -/
theorem UW.app {d o bs n H : Nat} {kd : Int} {p : Option Addr} {c : Nat} {cs c4 : List Value} {vs : List Nd} {x : Nd} {w3 w4 : World} {ob : Obj} (h : UW d o bs kd (.slice p n c) n cs vs w3) (g cap : Nat)
    (h4 : c4.length = 4) (ho : w4.ownsRow bs 64 4 (.slice (some ⟨g, 0, none⟩) (n + 1) cap) (n + 1) (cs ++ c4)) (hg : (w3.alloc ob).grownBy w4 (Value.ownBlock (.slice p n c)))
    (hgl : Value.ownBlock (.slice p n c) = some g ∨ g = H) (hH : H = (w3.alloc ob).heap.size) (hbs : bs ≤ w3.heap.size)
    (hx : ∃ P : Nat → Prop, (∀ b, P b → bs ≤ b ∧ b < w3.heap.size ∧ Value.ownBlock (.slice p n c) ≠ some b) ∧ NdAt d P w3 c4 x) :
    UW d o bs kd (.slice (some ⟨g, 0, none⟩) (n + 1) cap) (n + 1) (cs ++ c4) (vs ++ [x]) (w4.setCell ⟨o, 2, none⟩ (.slice (some ⟨g, 0, none⟩) (n + 1) cap)) := by
  have ho3 : o < w3.heap.size := h.out.lt
  have hobs := h.ob
  have hsz : (w3.alloc ob).heap.size = w3.heap.size + 1 := World.size_alloc _ _
  have hold : ∀ b, b < w3.heap.size → (w3.alloc ob).heap[b]? = w3.heap[b]? := fun b hb => (World.grownBy_alloc w3 ob none).block b hb (by simp)
  have hne : some o ≠ Value.ownBlock (.slice p n c) := fun e => by
    have := (World.ownsRow.lt h.own o e.symm).1
    omega
  have hgo : bs ≤ g := by
    rcases hgl with e | e
    · have := (World.ownsRow.lt h.own g e).1
      omega
    · omega
  have hsz4 := hg.size
  have hgo2 : Value.ownBlock (.slice (some ⟨g, 0, none⟩) (n + 1) cap) ≠ some o := fun e => by
    have e2 : g = o := by simpa [Value.ownBlock] using e
    omega
  refine ⟨(h.out.of (w' := w4) ((hg.block o (by omega) hne).trans (hold o ho3))).put _, ?_, hobs, by rw [List.length_append, h.len]; rfl, ?_⟩
  · exact World.ownsRow.kept ho (row := some o) ⟨rfl, rfl, rfl, by simp [World.setCell], fun k _ hne => Below.heap_setCell w4 _ _ k (fun e => hne (by rw [e]))⟩ (.inr hgo2)
  · obtain ⟨P3, hP3, hx3⟩ := hx
    obtain ⟨P, h2, h3⟩ := h.row
    have hfr : ∀ b, (P b ∨ P3 b) → bs ≤ b ∧ b < w3.heap.size ∧ Value.ownBlock (.slice p n c) ≠ some b := fun b hb => hb.elim (h3 b) (hP3 b)
    have hbl : ∀ b, (P b ∨ P3 b) → (w4.setCell ⟨o, 2, none⟩ (.slice (some ⟨g, 0, none⟩) (n + 1) cap)).heap[b]? = w3.heap[b]? := fun b hb => by
      obtain ⟨g1, g2, g3⟩ := hfr b hb
      rw [Below.heap_setCell _ _ _ _ (by show b ≠ o; omega)]
      exact (hg.block b (by omega) (fun e => g3 e.symm)).trans (hold b g2)
    refine ⟨fun b => P b ∨ P3 b, RowAt.app (h2.frame (fun b hb => hbl b (.inl hb)) fun _ hb => .inl hb) h4 (hx3.frame (fun b hb => hbl b (.inr hb)) fun _ hb => .inr hb), fun b hb => ?_⟩
    obtain ⟨g1, g2, g3⟩ := hfr b hb
    refine ⟨g1, ?_, fun e => ?_⟩
    · rw [World.size_setCell]
      omega
    · have eg : g = b := by simpa [Value.ownBlock] using e
      subst eg
      rcases hgl with e2 | e2
      · exact g3 e2
      · omega
/-- What is handed back at the end. -/
theorem UW.tree {d o bs n : Nat} {kd : Int} {v : Value} {cs : List Value} {vs : List Nd} {w : World} (h : UW d o bs kd v n cs vs w) : NdAt (d + 1) (fun b => bs ≤ b ∧ b < w.heap.size) w [.int .i64 kd, .string ⟨#[]⟩, v, .slice none 0 0] (.mk kd [] vs []) := by
  obtain ⟨P, h2, h3⟩ := h.row
  exact NdAt.rowW kd h.own h.len (h2.frame (fun _ _ => rfl) fun b hb => ⟨(h3 b hb).1, (h3 b hb).2.1⟩) fun b hb => World.ownsRow.lt h.own b hb

set_option maxRecDepth 100000 in
set_option maxHeartbeats 4000000 in
theorem kind_of (w : World) (kind : Int) (h0 : 0 ≤ kind) (h9 : kind ≤ 9) : Calls Tryz.prog 46 #[.int .i64 (kdP kind)] w fun e w' => e = .returned (.int .i64 kind) ∧ w' = w := by
  have hk : kind = 0 ∨ kind = 1 ∨ kind = 2 ∨ kind = 3 ∨ kind = 4 ∨ kind = 5 ∨ kind = 6 ∨ kind = 7 ∨ kind = 8 ∨ kind = 9 := by omega
  rcases hk with rfl | rfl | rfl | rfl | rfl | rfl | rfl | rfl | rfl | rfl
  · show Calls Tryz.prog 46 #[.int .i64 8] w _
    clear h0 h9
    go_enter Tryz.func46, Tryz.ntmps46
    go_wp2_with fail
    go_ret
    exact ⟨rfl, rfl⟩
  · show Calls Tryz.prog 46 #[.int .i64 11] w _
    clear h0 h9
    go_enter Tryz.func46, Tryz.ntmps46
    go_wp2_with fail
    go_ret
    exact ⟨rfl, rfl⟩
  · show Calls Tryz.prog 46 #[.int .i64 10] w _
    clear h0 h9
    go_enter Tryz.func46, Tryz.ntmps46
    go_wp2_with fail
    go_ret
    exact ⟨rfl, rfl⟩
  · show Calls Tryz.prog 46 #[.int .i64 9] w _
    clear h0 h9
    go_enter Tryz.func46, Tryz.ntmps46
    go_wp2_with fail
    go_ret
    exact ⟨rfl, rfl⟩
  · show Calls Tryz.prog 46 #[.int .i64 15] w _
    clear h0 h9
    go_enter Tryz.func46, Tryz.ntmps46
    go_wp2_with fail
    go_ret
    exact ⟨rfl, rfl⟩
  · show Calls Tryz.prog 46 #[.int .i64 14] w _
    clear h0 h9
    go_enter Tryz.func46, Tryz.ntmps46
    go_wp2_with fail
    go_ret
    exact ⟨rfl, rfl⟩
  · show Calls Tryz.prog 46 #[.int .i64 12] w _
    clear h0 h9
    go_enter Tryz.func46, Tryz.ntmps46
    go_wp2_with fail
    go_ret
    exact ⟨rfl, rfl⟩
  · show Calls Tryz.prog 46 #[.int .i64 13] w _
    clear h0 h9
    go_enter Tryz.func46, Tryz.ntmps46
    go_wp2_with fail
    go_ret
    exact ⟨rfl, rfl⟩
  · show Calls Tryz.prog 46 #[.int .i64 6] w _
    clear h0 h9
    go_enter Tryz.func46, Tryz.ntmps46
    go_wp2_with fail
    go_ret
    exact ⟨rfl, rfl⟩
  · show Calls Tryz.prog 46 #[.int .i64 7] w _
    clear h0 h9
    go_enter Tryz.func46, Tryz.ntmps46
    go_wp2_with fail
    go_ret
    exact ⟨rfl, rfl⟩

theorem kdP_ne (k : Int) : kdP k ≠ 0 := by
  unfold kdP
  repeat' split
  all_goals decide
/-- Where an iterator stands, and what is still to come. -/
def NxS (V : Nat → Nat → Nd → Prop) (ns : List PN) (st : Bool) (o : Option Nat) (vs : List Nd) : Prop :=
  (st = false ∧ ((vs = [] ∧ o = none) ∨ ∃ a l hi, o = some a ∧ ItN V ns a l hi vs)) ∨
  (st = true ∧ ∃ a x, o = some a ∧ ns[a]? = some x ∧ x.kind ≠ 0 ∧ ((vs = [] ∧ x.next = 0) ∨ ∃ b l hi, x.next = ((b + 1 : Nat) : Int) ∧ ItN V ns b l hi vs))
theorem ItN.head {V : Nat → Nat → Nd → Prop} {ns : List PN} {a l hi : Nat} {vs : List Nd} (h : ItN V ns a l hi vs) : ∃ v b v2 x, vs = v :: v2 ∧ V a b v ∧ ns[a]? = some x ∧ ((v2 = [] ∧ x.next = 0) ∨ (x.next = ((b + 1 : Nat) : Int) ∧ ItN V ns b l hi v2)) := by
  cases h with
  | one h1 h2 h3 => exact ⟨_, _, [], _, rfl, h1, h2, .inl ⟨rfl, h3⟩⟩
  | cons h1 h2 h3 h4 => exact ⟨_, _, _, _, rfl, h1, h2, .inr ⟨h3, h4⟩⟩
theorem it_step {V : Nat → Nat → Nd → Prop} {w : World} {pp gb cap ib : Nat} {ns : List PN} {st : Bool} {o : Option Nat} {vs : List Nd} (h : Rd w pp gb cap ns) (h1 : ib ≠ pp) (h2 : ib ≠ gb) (hi : IT w gb ib st o) (hs : NxS V ns st o vs) (hV : ∀ a b v, V a b v → ∃ x, ns[a]? = some x ∧ x.kind ≠ 0) :
    Calls Tryz.prog 44 #[.pointer (some ⟨ib, 0, none⟩)] w fun e w' => w.grownBy w' (some ib) ∧ ((vs = [] ∧ e = .returned (.bool false)) ∨ (e = .returned (.bool true) ∧ ∃ a l hi, IT w' gb ib true (some a) ∧ ItN V ns a l hi vs)) := by
  have hset : ∀ (W : World) (j : Nat) (u : Value), W.grownBy (W.setCell ⟨ib, j, none⟩ u) (some ib) := fun W j u => ⟨rfl, rfl, rfl, by simp [World.setCell], fun k _ hne => Below.heap_setCell W _ _ k (fun e => hne (by rw [e]))⟩
  have hdr : ∀ (q j : Nat) (u : Value), w.grownBy ((w.drewN q).setCell ⟨ib, j, none⟩ u) (some ib) := fun q j u => ⟨rfl, rfl, rfl, by simp [World.setCell, World.drewN], fun k _ hne => Below.heap_setCell (w.drewN q) _ _ k (fun e => hne (by rw [e]))⟩
  rcases hs with ⟨rfl, ⟨rfl, rfl⟩ | ⟨a, l, hi', rfl, hit⟩⟩ | ⟨rfl, a, x, rfl, hx, hk, ⟨rfl, hn⟩ | ⟨b, l, hi', hn, hit⟩⟩
  · refine (it_first h h1 h2 hi (n := 0) (.inl ⟨rfl, rfl⟩)).mono ?_
    rintro e w' ⟨he, rfl⟩
    exact ⟨hset w 0 _, .inl ⟨rfl, he⟩⟩
  · obtain ⟨v, b, v2, x, hvs, hv, _, _⟩ := hit.head
    obtain ⟨y, hy, hyk⟩ := hV _ _ _ hv
    refine (it_first h h1 h2 hi (n := ((a + 1 : Nat) : Int)) (Lk.step rfl hy hyk)).mono ?_
    rintro e w' ⟨he, rfl⟩
    exact ⟨hset w 0 _, .inr ⟨he, a, l, hi', hi.start, hit⟩⟩
  · refine (it_next h h1 h2 hi hx hk (.inl ⟨hn, rfl⟩)).mono ?_
    rintro e w' ⟨he, q, rfl⟩
    exact ⟨hdr q 1 _, .inl ⟨rfl, he⟩⟩
  · obtain ⟨v, c, v2, y, hvs, hv, _, _⟩ := hit.head
    obtain ⟨z, hz, hzk⟩ := hV _ _ _ hv
    refine (it_next h h1 h2 hi hx hk (Lk.step hn hz hzk)).mono ?_
    rintro e w' ⟨he, q, rfl⟩
    exact ⟨hdr q 1 _, .inr ⟨he, b, l, hi', (hi.grown (grown_drewN w q)).move, hit⟩⟩
/-- No keys but those of a table's parts; no text at lists and tables. -/
def NoK : Nat → Nd → Prop
  | 0, _ => False
  | d + 1, .mk kind text items keys => keys = [] ∧ 0 ≤ kind ∧ kind ≤ 9 ∧ (kind = 8 → text = [] ∧ ∀ v ∈ items, NoK d v) ∧ (kind = 9 → text = [] ∧ ∀ v ∈ items, v.ks ≠ [] ∧ NoK d (v.wk []))
end Go.Proofs.YtalmpddmhakdmaaGreat

/-
  The walk of a function of impl: a value as plain data (20). Conditions: the nodes lie in memory as stated.
-/
namespace Go.Proofs.YtalmpddmhakdmaaGreat
open Go.RowKit

/-- A value has been handed back. -/
def NofQ (d : Nat) (w : World) (x : Nd) (e : Ending) (w' : World) : Prop :=
  ∃ (c0 c1 c2 c3 : Value), e = .returned (.agg #[c0, c1, c2, c3]) ∧ w.grownBy w' none ∧ NdAt d (fun b => w.heap.size ≤ b ∧ b < w'.heap.size) w' [c0, c1, c2, c3] x
/-- The contract, at a depth. -/
def NofC (d : Nat) : Prop := ∀ (w : World) (pp gb cap : Nat) (ns : List PN) (lo hi : Nat) (x : Nd), Rd w pp gb cap ns → gb < w.heap.size → VlN (Tx w) ns d lo hi x → NoK d x → Calls Tryz.prog 20 #[NP gb lo] w (NofQ d w x)
theorem Res4 {w0 W : World} {o : Nat} {c0 c1 c2 c3 : Value} (hg : w0.grownBy W none) (ho : w0.heap.size ≤ o) : w0.grownBy ((((W.setCell ⟨o, 0, none⟩ c0).setCell ⟨o, 1, none⟩ c1).setCell ⟨o, 2, none⟩ c2).setCell ⟨o, 3, none⟩ c3) none :=
  grown_setNew (grown_setNew (grown_setNew (grown_setNew hg _ ho _) _ ho _) _ ho _) _ ho _

set_option maxRecDepth 100000 in
set_option maxHeartbeats 8000000 in
theorem nof_leaf {d : Nat} {w : World} {pp gb cap lo : Nat} {ns : List PN} {kind : Int} {text : List UInt8} {x : PN} (hR : Rd w pp gb cap ns) (hx : ns[lo]? = some x) (hk : x.kind = kdP kind) (h0 : 0 ≤ kind) (h8 : kind < 8) (ht : Tx w x.data text) :
    Calls Tryz.prog 20 #[NP gb lo] w (NofQ (d + 1) w (.mk kind text [] [])) := by
  have HR := Lib.hid hR
  have HT := Lib.hid ht
  have HX := Lib.hid hx
  have HKD := Lib.hid (fun W => kind_of W kind h0 (by omega))
  have hg1 := World.grownBy_alloc w (.cells #[.int .i64 0, .string ⟨#[]⟩, .slice none 0 0, .slice none 0 0] 64) none
  have ck := (hR.grown hg1).kind hx
  rw [hk] at ck
  clear hR ht hx hk
  go_enter Tryz.func20, Tryz.ntmps20
  go_wp2_with fail
  with_reducible refine (HKD.out _).mono ?_
  rintro e w' ⟨rfl, hw'⟩
  rw [hw']
  clear hw' w'
  go_upto_region 3 with fail
  have hg2 := gtrans (World.grownBy_alloc w (.cells #[.int .i64 0, .string ⟨#[]⟩, .slice none 0 0, .slice none 0 0] 64) none) (World.grownBy_alloc _ (.cells #[.int .i64 kind, .string ⟨#[]⟩, .slice none 0 0, .slice none 0 0] 64) none)
  have htx := HT.out.grown hg2
  have hcv := htx.conv
  obtain ⟨da, dc, hda, _, _⟩ := htx
  have hcd := (HR.out.grown hg2).cells _ _ 3 _ HX.out (by decide) rfl
  rw [hda] at hcv hcd
  obtain ⟨st, hst⟩ : ∃ st : ByteArray, (⟨text.toArray⟩ : ByteArray) = st := ⟨_, rfl⟩
  rw [hst] at hcv
  have HG2 := Lib.hid hg2
  have HST := Lib.hid hst
  clear hda ck hg2 hst
  go_wp2_with fail
  have hb1 : ((w.alloc (.cells #[.int .i64 kind, .string st, .slice none 0 0, .slice none 0 0] 64)).alloc (.cells #[.int .i64 kind, .string st, .slice none 0 0, .slice none 0 0] 64)).heap[w.heap.size]? = some (.cells #[.int .i64 kind, .string st, .slice none 0 0, .slice none 0 0] 64 (0, 0)) :=
    ((World.grownBy_alloc _ (.cells #[.int .i64 kind, .string st, .slice none 0 0, .slice none 0 0] 64) none).block w.heap.size (by rw [World.size_alloc]; omega) (by simp)).trans (heap_alloc_new w _)
  obtain ⟨W, hW⟩ : ∃ W : World, (w.alloc (.cells #[.int .i64 kind, .string st, .slice none 0 0, .slice none 0 0] 64)).alloc (.cells #[.int .i64 kind, .string st, .slice none 0 0, .slice none 0 0] 64) = W := ⟨_, rfl⟩
  have hgW : w.grownBy W none := by rw [← hW]; exact gtrans (World.grownBy_alloc w _ none) (World.grownBy_alloc _ _ none)
  rw [hW] at hb1 ⊢
  have e0 : W.cell? ⟨w.heap.size, 0, none⟩ = some (.int .i64 kind) := by rw [cell_of_row _ _ 0 _ _ _ hb1]; rfl
  have e1 : W.cell? ⟨w.heap.size, 1, none⟩ = some (.string st) := by rw [cell_of_row _ _ 1 _ _ _ hb1]; rfl
  have e2 : W.cell? ⟨w.heap.size, 2, none⟩ = some (.slice none 0 0) := by rw [cell_of_row _ _ 2 _ _ _ hb1]; rfl
  have e3 : W.cell? ⟨w.heap.size, 3, none⟩ = some (.slice none 0 0) := by rw [cell_of_row _ _ 3 _ _ _ hb1]; rfl
  exact bodyPost_ret (v := .agg #[.int .i64 kind, .string st, .slice none 0 0, .slice none 0 0]) (by simp [results, Tryz.results20, go_sem, e0, e1, e2, e3]) rfl ⟨_, _, _, _, rfl, hgW, none, 0, .slice none 0 0, by rw [HST.out]; rfl, ⟨none, 0, rfl, .inl rfl⟩, .inl rfl⟩

theorem kdP_ne1 (k : Int) : (kdP k == 1) = false := by
  unfold kdP
  repeat' split
  all_goals decide
theorem Tryz.info64 : (Tryz.prog.info? 64).map (fun i => (i.zero, i.size, i.bytes)) = some (some (.agg #[.int .i64 0, .string ⟨#[]⟩, .slice none 0 0, .slice none 0 0]), 4, 72) := by kernel_rfl
theorem Tryz.u62 : Tryz.prog.underlying 62 = some (.slice 64) := by kernel_rfl
theorem lit_cell64 (W : World) (n : Nat) (hW : W.heap.size = n) (v0 v1 v2 v3 : Value) : ∀ j u, [v0, v1, v2, v3][j]? = some u → (W.alloc (.cells #[v0, v1, v2, v3] 64)).cell? ((⟨n, 0, none⟩ : Addr).add j) = some u := by
  subst hW
  intro j u hj
  have e : (⟨W.heap.size, 0, none⟩ : Addr).add j = ⟨W.heap.size, j, none⟩ := by unfold Addr.add; split <;> simp_all
  rw [e, cell_marked]
  match j, hj with
  | 0, hj => cases hj; rfl
  | 1, hj => cases hj; rfl
  | 2, hj => cases hj; rfl
  | 3, hj => cases hj; rfl
theorem nd_one' (kd : Int) (s : ByteArray) (p1 p2 : Option Addr) (n1 q1 n2 q2 : Nat) : ∀ u ∈ [Value.int .i64 kd, .string s, .slice p1 n1 q1, .slice p2 n2 q2], u.oneCell' = true := by
  intro u hu
  simp at hu
  rcases hu with rfl | rfl | rfl | rfl <;> rfl
theorem NdAt.form {d : Nat} {P : Nat → Prop} {w : World} {cs : List Value} {x : Nd} (h : NdAt d P w cs x) : ∃ kd s p1 n1 c1 p2 n2 c2, cs = [.int .i64 kd, .string s, .slice p1 n1 c1, .slice p2 n2 c2] := by
  cases d with
  | zero => exact h.elim
  | succ d =>
    obtain ⟨kind, text, items, keys⟩ := x
    obtain ⟨p, c, kv, hc, ⟨p2, c2, hk, _⟩, _⟩ := h
    subst hk
    exact ⟨_, _, _, _, _, _, _, _, hc⟩
theorem UW.keptO {d o bs n : Nat} {kd : Int} {v : Value} {cs : List Value} {vs : List Nd} {w3 w4 : World} {ob : Obj} (h : UW d o bs kd v n cs vs w3) (hg : (w3.alloc ob).grownBy w4 v.ownBlock) : OutAt o kd v w4 := by
  have ho3 : o < w3.heap.size := h.out.lt
  refine h.out.of ((hg.block o (by rw [World.size_alloc]; omega) fun e => ?_).trans ((World.grownBy_alloc w3 ob none).block o ho3 (by simp)))
  have := (World.ownsRow.lt h.own o e.symm).1
  have := h.ob
  omega
/-- The result as it is made first. -/
abbrev Z64 : Array Value := #[.int .i64 0, .string ⟨#[]⟩, .slice none 0 0, .slice none 0 0]
theorem cell_four {W : World} {o : Nat} {l : Array Value} {t : TypeId} (hl : l.size = 4) (hb : W.heap[o]? = some (.cells l t (0, 0))) (j : Nat) (hj : j < 4) : ∃ u, W.cell? ⟨o, j, none⟩ = some u := by
  rw [cell_of_row _ _ j _ _ _ hb]
  exact ⟨_, Array.getElem?_eq_getElem (by omega)⟩
theorem res_four {W : World} {o : Nat} {l : Array Value} {t : TypeId} (hl : l.size = 4) (hb : W.heap[o]? = some (.cells l t (0, 0))) (c0 c1 c2 c3 : Value) :
    ((((W.setCell ⟨o, 0, none⟩ c0).setCell ⟨o, 1, none⟩ c1).setCell ⟨o, 2, none⟩ c2).setCell ⟨o, 3, none⟩ c3).cell? ⟨o, 0, none⟩ = some c0 ∧ ((((W.setCell ⟨o, 0, none⟩ c0).setCell ⟨o, 1, none⟩ c1).setCell ⟨o, 2, none⟩ c2).setCell ⟨o, 3, none⟩ c3).cell? ⟨o, 1, none⟩ = some c1 ∧
    ((((W.setCell ⟨o, 0, none⟩ c0).setCell ⟨o, 1, none⟩ c1).setCell ⟨o, 2, none⟩ c2).setCell ⟨o, 3, none⟩ c3).cell? ⟨o, 2, none⟩ = some c2 ∧ ((((W.setCell ⟨o, 0, none⟩ c0).setCell ⟨o, 1, none⟩ c1).setCell ⟨o, 2, none⟩ c2).setCell ⟨o, 3, none⟩ c3).cell? ⟨o, 3, none⟩ = some c3 := by
  obtain ⟨u0, h0⟩ := cell_four hl hb 0 (by decide)
  obtain ⟨u1, h1⟩ := cell_four hl hb 1 (by decide)
  obtain ⟨u2, h2⟩ := cell_four hl hb 2 (by decide)
  obtain ⟨u3, h3⟩ := cell_four hl hb 3 (by decide)
  have oth : ∀ (V : World) (i j : Nat) (c : Value), i ≠ j → (V.setCell ⟨o, i, none⟩ c).cell? ⟨o, j, none⟩ = V.cell? ⟨o, j, none⟩ := fun V i j c hij => World.cell?_setCell_other V _ _ _ (by simp; try omega)
  have a1 : (W.setCell ⟨o, 0, none⟩ c0).cell? ⟨o, 1, none⟩ = some u1 := (oth _ _ _ _ (by decide)).trans h1
  have a2 : ((W.setCell ⟨o, 0, none⟩ c0).setCell ⟨o, 1, none⟩ c1).cell? ⟨o, 2, none⟩ = some u2 := (oth _ _ _ _ (by decide)).trans ((oth _ _ _ _ (by decide)).trans h2)
  have a3 : (((W.setCell ⟨o, 0, none⟩ c0).setCell ⟨o, 1, none⟩ c1).setCell ⟨o, 2, none⟩ c2).cell? ⟨o, 3, none⟩ = some u3 := (oth _ _ _ _ (by decide)).trans ((oth _ _ _ _ (by decide)).trans ((oth _ _ _ _ (by decide)).trans h3))
  refine ⟨?_, ?_, ?_, ?_⟩
  · rw [oth _ _ _ _ (by decide), oth _ _ _ _ (by decide), oth _ _ _ _ (by decide)]
    exact World.cell?_setCell_same W _ _ h0
  · rw [oth _ _ _ _ (by decide), oth _ _ _ _ (by decide)]
    exact World.cell?_setCell_same _ _ _ a1
  · rw [oth _ _ _ _ (by decide)]
    exact World.cell?_setCell_same _ _ _ a2
  · exact World.cell?_setCell_same _ _ _ a3
/-- What holds at the head of the loop. -/
def NfL (V : Nat → Nat → Nd → Prop) (ns : List PN) (gb d rb tb ib bs : Nat) (kd : Int) (items : List Nd) (w wr : World) : Prop :=
  ∃ (v1 v2 : List Nd) (st : Bool) (o : Option Nat) (v : Value) (n : Nat) (cs : List Value), items = v1 ++ v2 ∧ UW d tb bs kd v n cs v1 wr ∧ IT wr gb ib st o ∧ NxS V ns st o v2 ∧ w.grownBy wr none ∧ wr.heap[rb]? = some (.cells Z64 64 (0, 0)) ∧ bs ≤ wr.heap.size
/-- How many parts there are. -/
def cntL (w : World) (tb : Nat) : Nat := lenOf ((w.cell? ⟨tb, 2, none⟩).getD undef)
theorem UW.cnt {d o bs n : Nat} {kd : Int} {v : Value} {cs : List Value} {vs : List Nd} {w : World} (h : UW d o bs kd v n cs vs w) : cntL w o = vs.length := by
  obtain ⟨p, c, rfl⟩ := h.form
  unfold cntL
  rw [h.out.c2]
  exact h.len.symm
theorem PtN.link {V : Nat → Nat → Nd → Prop} {ns : List PN} {lo hi : Nat} {c : Int} {vs : List Nd} (h : PtN (ItN V ns) lo hi c vs) (hV : ∀ a b v, V a b v → ∃ x, ns[a]? = some x ∧ x.kind ≠ 0) : ∃ o, Lk ns c o ∧ NxS V ns false o vs := by
  rcases h with ⟨rfl, _, rfl⟩ | ⟨hc, l, hit⟩
  · exact ⟨none, .inl ⟨rfl, rfl⟩, .inl ⟨rfl, .inl ⟨rfl, rfl⟩⟩⟩
  · obtain ⟨v, b, v2, x, hvs, hv, _⟩ := hit.head
    obtain ⟨y, hy, hyk⟩ := hV _ _ _ hv
    exact ⟨some lo, Lk.step hc hy hyk, .inl ⟨rfl, .inr ⟨lo, l, hi, rfl, hit⟩⟩⟩
theorem NxS.next {V : Nat → Nat → Nd → Prop} {ns : List PN} {a b l hi : Nat} {v2 : List Nd} {x : PN} (hx : ns[a]? = some x) (hk : x.kind ≠ 0) (h : (v2 = [] ∧ x.next = 0) ∨ (x.next = ((b + 1 : Nat) : Int) ∧ ItN V ns b l hi v2)) : NxS V ns true (some a) v2 :=
  .inr ⟨rfl, a, x, rfl, hx, hk, h.imp id fun h => ⟨b, l, hi, h.1, h.2⟩⟩
end Go.Proofs.YtalmpddmhakdmaaGreat

/-
  The walk of a function of impl: a list as plain data (20). Conditions: the nodes lie in memory as stated.
-/
namespace Go.Proofs.YtalmpddmhakdmaaGreat
open Go.RowKit

theorem vln_kind {M : Value → List UInt8 → Prop} {ns : List PN} {d lo hi : Nat} {v : Nd} {x : PN} (hx : ns[lo]? = some x) (h : VlN M ns d lo hi v) : ∃ k, x.kind = kdP k := by
  cases d with
  | zero => exact h.elim
  | succ d =>
    obtain ⟨kind, text, items, keys⟩ := v
    obtain ⟨y, hy, hk, _⟩ := h
    rw [hx] at hy
    cases hy
    exact ⟨_, hk⟩
theorem VlN.mono {M M' : Value → List UInt8 → Prop} {ns : List PN} {d lo hi : Nat} {v : Nd} (h : VlN M ns d lo hi v) (hM : ∀ v t, M v t → M' v t) : VlN M' ns d lo hi v := h.same hM (.of rfl) fun _ _ _ => rfl

set_option maxRecDepth 100000 in
set_option maxHeartbeats 8000000 in
theorem nof_list {d : Nat} (IH : NofC d) {w : World} {pp gb cap lo hi : Nat} {ns : List PN} {items : List Nd} {x : PN} (hR : Rd w pp gb cap ns) (hgb : gb < w.heap.size) (hx : ns[lo]? = some x) (hk : x.kind = 6) (hp : PtN (ItN (VlN (Tx w) ns d) ns) (lo + 1) hi x.child items) (hno : ∀ v ∈ items, NoK d v) (hlen : items.length ≤ 300000) (HVK : ∀ a b v, VlN (Tx w) ns d a b v → ∃ x, ns[a]? = some x ∧ x.kind ≠ 0) :
    Calls Tryz.prog 20 #[NP gb lo] w (NofQ (d + 1) w (.mk 8 [] items [])) := by
  have HR := Lib.hid hR
  have hpp := cell_lt hR.nodes
  have HIH := Lib.hid IH
  obtain ⟨i0, hi0, hz0, hz10, hz20⟩ := info_parts Tryz.info64
  have HKD := Lib.hid (show ∀ W, Calls Tryz.prog 46 #[.int .i64 6] W (fun e w' => e = .returned (.int .i64 8) ∧ w' = W) from fun W => kind_of W 8 (by decide) (by decide))
  have hVk : ∀ a b v, (VlN (Tx w) ns d) a b v → ∃ x, ns[a]? = some x ∧ x.kind ≠ 0 := HVK
  obtain ⟨ho, hlk, hnx⟩ := hp.link hVk
  have hg1 := World.grownBy_alloc w (.cells #[.int .i64 0, .string ⟨#[]⟩, .slice none 0 0, .slice none 0 0] 64) none
  have ck := (hR.grown hg1).kind hx
  rw [hk] at ck
  have hg2 := gtrans hg1 (World.grownBy_alloc _ (.cells #[.int .i64 8, .string ⟨#[]⟩, .slice none 0 0, .slice none 0 0] 64) none)
  have HCH := Lib.hid (children_any (hR.grown hg2) hx hlk)
  have HVK := Lib.hid hVk
  have HNX := Lib.hid hnx
  have HNO := Lib.hid hno
  obtain ⟨hpt, hpt2⟩ : ∃ p, PO gb ho = .pointer p := by cases ho <;> exact ⟨_, rfl⟩
  rw [hpt2] at HCH
  have HPO := Lib.hid hpt2
  have HG2 := Lib.hid hg2
  have HLEN := Lib.hid hlen
  have hsz2 : ((w.alloc (.cells #[.int .i64 0, .string ⟨#[]⟩, .slice none 0 0, .slice none 0 0] 64)).alloc (.cells #[.int .i64 8, .string ⟨#[]⟩, .slice none 0 0, .slice none 0 0] 64)).heap.size = w.heap.size + 2 := by rw [World.size_alloc, World.size_alloc]
  have HB1 := Lib.hid (show ((w.alloc (.cells Z64 64)).alloc (.cells #[.int .i64 8, .string ⟨#[]⟩, .slice none 0 0, .slice none 0 0] 64)).heap[w.heap.size]? = some (.cells Z64 64 (0, 0)) from ((World.grownBy_alloc _ _ none).block w.heap.size (by rw [World.size_alloc]; omega) (by simp)).trans (heap_alloc_new w _))
  have hb2 : ((w.alloc (.cells #[.int .i64 0, .string ⟨#[]⟩, .slice none 0 0, .slice none 0 0] 64)).alloc (.cells #[.int .i64 8, .string ⟨#[]⟩, .slice none 0 0, .slice none 0 0] 64)).heap[w.heap.size + 1]? = some (.cells #[.int .i64 8, .string ⟨#[]⟩, .slice none 0 0, .slice none 0 0] 64 (0, 0)) := by
    have := heap_alloc_new (w.alloc (.cells #[.int .i64 0, .string ⟨#[]⟩, .slice none 0 0, .slice none 0 0] 64)) (.cells #[.int .i64 8, .string ⟨#[]⟩, .slice none 0 0, .slice none 0 0] 64)
    rwa [World.size_alloc] at this
  have HB2 := Lib.hid hb2
  clear hR hx hk hp hno hlk hnx hg1 hg2 IH hVk hlen hb2
  go_enter Tryz.func20, Tryz.ntmps20
  go_wp2_with fail
  with_reducible refine (HKD.out _).mono ?_
  rintro e w' ⟨rfl, hw'⟩
  rw [hw']
  clear hw' w'
  go_upto_region 5 with fail
  clear ck
  obtain ⟨W2, hW2⟩ : ∃ W2 : World, (w.alloc (.cells #[.int .i64 0, .string ⟨#[]⟩, .slice none 0 0, .slice none 0 0] 64)).alloc (.cells #[.int .i64 8, .string ⟨#[]⟩, .slice none 0 0, .slice none 0 0] 64) = W2 := ⟨_, rfl⟩
  have hb1 := HB1.out
  have hb2 := HB2.out
  have hg2 := HG2.out
  rw [hW2] at HCH hsz2 hb1 hb2 hg2 ⊢
  clear HB1 HB2 HG2 hW2 HKD
  have HB1 := Lib.hid hb1
  have HB2 := Lib.hid hb2
  have HG2 := Lib.hid hg2
  clear hb1 hb2 hg2
  go_wp2_with fail
  with_reducible refine HCH.out.mono ?_
  rintro e w3 ⟨rfl, hg3⟩
  have hsz3 := hg3.size
  have hb := heap_alloc_new w3 (.cells #[.bool false, .pointer hpt] 90)
  have hg4 := gtrans (gtrans HG2.out hg3) (World.grownBy_alloc w3 (.cells #[.bool false, .pointer hpt] 90) none)
  have hg34 := gtrans hg3 (World.grownBy_alloc w3 (.cells #[.bool false, .pointer hpt] 90) none)
  have hb2' := (hg34.block (w.heap.size + 1) (by omega) (by simp)).trans HB2.out
  have hb1' := (hg34.block w.heap.size (by omega) (by simp)).trans HB1.out
  have hout : OutAt (w.heap.size + 1) 8 (.slice none 0 0) (w3.alloc (.cells #[.bool false, .pointer hpt] 90)) :=
    ⟨by rw [cell_of_row _ _ 0 _ _ _ hb2']; rfl, by rw [cell_of_row _ _ 1 _ _ _ hb2']; rfl, by rw [cell_of_row _ _ 2 _ _ _ hb2']; rfl, by rw [cell_of_row _ _ 3 _ _ _ hb2']; rfl, frozen_of_row _ _ 2 _ _ hb2'⟩
  have HST := Lib.hid (show NfL (VlN (Tx w) ns d) ns gb d w.heap.size (w.heap.size + 1) w3.heap.size (w3.heap.size + 1) 8 items w (w3.alloc (.cells #[.bool false, .pointer hpt] 90)) from
    ⟨[], items, false, ho, .slice none 0 0, 0, [], rfl, ⟨hout, World.ownsRow_nil _ _ _ _, by omega, rfl, fun _ => False, RowAt.nil _ _ _, fun _ h => h.elim⟩,
      ⟨by rw [cell_of_row _ _ 0 _ _ _ hb]; rfl, by rw [cell_of_row _ _ 1 _ _ _ hb, HPO.out]; rfl, frozen_of_row _ _ 0 _ _ hb, frozen_of_row _ _ 1 _ _ hb⟩, HNX.out, hg4, hb1', by rw [World.size_alloc]; exact Nat.le_refl _⟩)
  clear hg3 hb hg4 hg34 hb2' hb1' hout HCH HB1 HB2 HG2 HPO HNX
  go_wp2_with fail
  go_loopw [] (fun wr => NfL (VlN (Tx w) ns d) ns gb d w.heap.size (w.heap.size + 1) w3.heap.size (w3.heap.size + 1) 8 items w wr) (fun wr => items.length - cntL wr (w.heap.size + 1))
  case atStart => exact HST.out
  case round =>
    obtain ⟨v1, v2, st, o, v, n, cs, hit, hU, hIT, hNS, hgr, hrb, hbs⟩ := hrel
    obtain ⟨ib, hibb⟩ : ∃ ib, w3.heap.size = ib := ⟨_, rfl⟩
    rw [hibb] at hsz3 hU hIT hbs ⊢
    have HIS := Lib.hid (it_step (HR.out.grown hgr) (by omega) (by omega) hIT hNS HVK.out)
    have hcnt := hU.cnt
    have HCNT := Lib.hid hcnt
    have HU := Lib.hid hU
    have HGR := Lib.hid hgr
    have HRB := Lib.hid hrb
    have HITS := Lib.hid hit
    have hol := hU.out.lt
    clear hIT hNS hgr hrb hcnt hU hit HST hibb
    go_wp2_with fail
    with_reducible refine HIS.out.mono ?_
    rintro e w5 ⟨hg5, hcase⟩
    have hsz5 := hg5.size
    have HU5 := Lib.hid (HU.out.kept hg5 (fun k hk => by cases hk; omega))
    have HG5 := Lib.hid (grow HGR.out hg5 (fun k hk => by cases hk; omega))
    have HRB5 := Lib.hid ((hg5.block w.heap.size (by omega) (by simp; omega)).trans HRB.out)
    clear HIS hg5
    rcases hcase with ⟨hv2, rfl⟩ | ⟨rfl, a, l, hi', hit5, hin⟩
    · have d0 := HU5.out.out.c0
      have d1 := HU5.out.out.c1
      have d2 := HU5.out.out.c2
      have d3 := HU5.out.out.c3
      obtain ⟨p, c, hvv⟩ := HU5.out.form
      subst hvv
      have k0 : w5.cell? ⟨w.heap.size, 0, none⟩ = some (.int .i64 0) := by rw [cell_of_row _ _ 0 _ _ _ HRB5.out]; rfl
      have k1 : w5.cell? ⟨w.heap.size, 1, none⟩ = some (.string ⟨#[]⟩) := by rw [cell_of_row _ _ 1 _ _ _ HRB5.out]; rfl
      have k2 : w5.cell? ⟨w.heap.size, 2, none⟩ = some (.slice none 0 0) := by rw [cell_of_row _ _ 2 _ _ _ HRB5.out]; rfl
      have k3 : w5.cell? ⟨w.heap.size, 3, none⟩ = some (.slice none 0 0) := by rw [cell_of_row _ _ 3 _ _ _ HRB5.out]; rfl
      have z0 := frozen_of_row _ w.heap.size 0 _ _ HRB5.out
      have z1 := frozen_of_row _ w.heap.size 1 _ _ HRB5.out
      have z2 := frozen_of_row _ w.heap.size 2 _ _ HRB5.out
      have z3 := frozen_of_row _ w.heap.size 3 _ _ HRB5.out
      have HV2 := Lib.hid hv2
      clear hv2
      go_wp2_with fail
      obtain ⟨e0, e1, e2, e3⟩ := res_four (by rfl) HRB5.out (.int .i64 8) (.string ⟨#[]⟩) (.slice p n c) (.slice none 0 0)
      have hall : items = v1 := by rw [HITS.out, HV2.out]; simp
      have htr := HU5.out.tree
      have hpost : w.grownBy ((((w5.setCell ⟨w.heap.size, 0, none⟩ (.int .i64 8)).setCell ⟨w.heap.size, 1, none⟩ (.string ⟨#[]⟩)).setCell ⟨w.heap.size, 2, none⟩ (.slice p n c)).setCell ⟨w.heap.size, 3, none⟩ (.slice none 0 0)) none := Res4 HG5.out (Nat.le_refl _)
      refine bodyPost_ret (v := .agg #[.int .i64 8, .string ⟨#[]⟩, .slice p n c, .slice none 0 0]) (by simp [results, Tryz.results20, go_sem, e0, e1, e2, e3]) rfl ⟨_, _, _, _, rfl, hpost, ?_⟩
      rw [hall]
      refine htr.frame (fun b hb => ?_) fun b hb => ⟨by omega, by simp only [World.size_setCell]; exact hb.2⟩
      have hbne : b ≠ w.heap.size := by omega
      rw [Below.heap_setCell _ _ _ _ hbne, Below.heap_setCell _ _ _ _ hbne, Below.heap_setCell _ _ _ _ hbne, Below.heap_setCell _ _ _ _ hbne]
    · obtain ⟨v0, b0, v3, x5, rfl, hv0, hx5, hnx5⟩ := hin.head
      obtain ⟨kk, hkk⟩ := vln_kind hx5 hv0
      have hk50 : x5.kind ≠ 0 := by rw [hkk]; exact kdP_ne kk
      have ck5 := (HR.out.grown HG5.out).kind hx5
      rw [hkk] at ck5
      have hk1 := kdP_ne1 kk
      obtain ⟨k5, hk5⟩ : ∃ k5, kdP kk = k5 := ⟨_, rfl⟩
      rw [hk5] at hk1 ck5
      have HNX5 := Lib.hid (NxS.next hx5 hk50 hnx5)
      have hNO5 : NoK d v0 := HNO.out _ (by rw [HITS.out]; simp)
      have HV0 := Lib.hid (fun W (hW : w.grownBy W none) => HIH.out W pp gb cap ns a b0 v0 (HR.out.grown hW) (Nat.lt_of_lt_of_le hgb hW.size) (hv0.mono fun _ _ h => h.grown hW) hNO5)
      have hn0 : n + 1 ≤ 300000 := by
        have h1 := HLEN.out
        rw [HITS.out] at h1
        have h2 := HU5.out.len
        simp at h1
        omega
      have HIN := Lib.hid (it_node hit5)
      have HIT5 := Lib.hid hit5
      obtain ⟨p, c, hvv⟩ := HU5.out.form
      subst hvv
      have d0 := HU5.out.out.c0
      have d2 := HU5.out.out.c2
      have f2 := HU5.out.out.f2
      have hib2 : w.heap.size + 2 ≤ ib := by omega
      have HDR := Lib.hid (show w5.grownBy w5.drew none from grown_drewN w5 1)
      clear hin hkk hk5 hk50 hnx5 hv0 hx5 hNO5 hit5 hsz3
      have hPO : PO gb (some a) = NP gb a := rfl
      rw [hPO] at HIN
      clear hPO
      go_wp2_with fail
      with_reducible refine HIN.out.mono ?_
      rintro e w' ⟨rfl, hw'⟩
      rw [hw']
      clear hw' w' HIN
      go_wp2_with fail
      go_region_law (first
        | (refine step_append_lies _ rfl (.tmp 48) (.tmp 51) 62 rfl (ib + 1) 64 i0 (.agg Z64) 4 72 Tryz.u62 hi0 hz0 hz10 hz20 rfl (by decide) (.slice p n c) n cs (by simp [Act.eval]) (HU6.out.own.alloc _) ⟨w6.heap.size, 0, none⟩ 1 1 [.int .i64 kd, .string s, .slice p1 n1 q1, .slice p2 n2 q2] (by simp [Act.eval]) rfl (lit_cell64 _ _ rfl _ _ _ _) (nd_one' _ _ _ _ _ _ _ _) (by decide) (by unfold maxLen; omega) (by omega) (by simp; omega) _ rfl ?_
           intro g cap' w7 hown7 hgrow7 hgl hgh
           have hoz7 := HU6.out.keptO hgrow7
           have oz7 := hoz7.c2
           have fz7 := hoz7.f2
           clear hoz7)
        | (go_simp
           go_at_call 20
           with_reducible refine (HV0.out w5.drew (gtrans HG5.out HDR.out)).mono ?_
           rintro e w6 ⟨c0, c1, c2, c3, rfl, hg6, hN6⟩
           obtain ⟨kd, s, p1, n1, q1, p2, n2, q2, hcs⟩ := hN6.form
           cases hcs
           have hg56 : w5.grownBy w6 none := gtrans HDR.out hg6
           have HG6 := Lib.hid hg56
           have HU6 := Lib.hid (HU5.out.kept hg56 (fun k hk => by cases hk))
           have HN6 := Lib.hid hN6
           have oz6 := HU6.out.out.c2
           have oz6b := (HU6.out.out.of (w' := w6.alloc (.cells #[.int .i64 kd, .string s, .slice p1 n1 q1, .slice p2 n2 q2] 64)) ((World.grownBy_alloc w6 _ none).block _ HU6.out.out.lt (by simp))).c2
           have hsz6 := hg56.size
           have hsz6' : w.heap.size + 1 < w6.heap.size := HU6.out.out.lt
           clear hN6 hg6 hg56))
      all_goals
        have hU8 := HU6.out.app (x := v0) g cap' rfl hown7 hgrow7 hgl rfl (Nat.le_trans hbs (Nat.le_trans hsz5 hsz6)) ⟨_, fun b hb => ⟨Nat.le_trans hbs (Nat.le_trans hsz5 hb.1), hb.2, fun e => by
          have h1 := (World.ownsRow.lt HU5.out.own b e).2
          have h2 : w5.heap.size ≤ b := hb.1
          omega⟩, HN6.out⟩
        have hsz7 := hgrow7.size
        rw [World.size_alloc] at hsz7
        have h16 : w6.grownBy (w6.alloc (.cells #[.int .i64 kd, .string s, .slice p1 n1 q1, .slice p2 n2 q2] 64)) none := World.grownBy_alloc w6 _ none
        have hownlt : ∀ k, Value.ownBlock (.slice p n c) = some k → ib + 1 ≤ k := fun k hk => (World.ownsRow.lt HU5.out.own k hk).1
        have hset : w7.grownBy (w7.setCell ⟨w.heap.size + 1, 2, none⟩ (.slice (some ⟨g, 0, none⟩) (n + 1) cap')) (some (w.heap.size + 1)) := ⟨rfl, rfl, rfl, by simp [World.setCell], fun k _ hne => Below.heap_setCell w7 _ _ k (fun e => hne (by rw [e]))⟩
        have hIT8 := ((((HIT5.out.grown HG6.out).grown h16).kept hgrow7 (fun e => by have := hownlt _ e; omega)).kept hset (by simp; omega))
        have hG8 : w.grownBy (w7.setCell ⟨w.heap.size + 1, 2, none⟩ (.slice (some ⟨g, 0, none⟩) (n + 1) cap')) none := grow (grow (gtrans (gtrans HG5.out HG6.out) h16) hgrow7 (fun k hk => by have := hownlt k hk; omega)) hset (fun k hk => by cases hk; omega)
        have hRB8 := (((hset.block w.heap.size (by omega) (by simp)).trans ((hgrow7.block w.heap.size (by rw [World.size_alloc]; omega) (fun e => by have := hownlt _ e.symm; omega)).trans (h16.block w.heap.size (by omega) (by simp)))).trans ((HG6.out.block w.heap.size (by omega) (by simp)).trans HRB5.out))
        obtain ⟨w8, hw8⟩ : ∃ w8, w7.setCell ⟨w.heap.size + 1, 2, none⟩ (.slice (some ⟨g, 0, none⟩) (n + 1) cap') = w8 := ⟨_, rfl⟩
        rw [hw8] at hU8 hIT8 hG8 hRB8 hset ⊢
        have hsz8 := hset.size
        have HU8 := Lib.hid hU8
        have HIT8 := Lib.hid hIT8
        have HG8 := Lib.hid hG8
        have HRB8 := Lib.hid hRB8
        clear hU8 hIT8 hG8 hRB8 hset hw8 hown7 hgrow7 hgl hgh oz6 oz6b oz7 fz7 h16 hownlt
        go_wp2_with fail
        go_roundw
        case rel =>
          exact ⟨v1 ++ [v0], v3, true, some a, _, _, _, by rw [HITS.out]; simp, HU8.out, HIT8.out, HNX5.out, HG8.out, HRB8.out, by omega⟩
        case measure =>
          have h1 := HU8.out.cnt
          have h2 := HCNT.out
          have h3 : items.length = v1.length + (v3.length + 1) := by rw [HITS.out]; simp
          show items.length - cntL w8 (w.heap.size + 1) < items.length - cntL wr (w.heap.size + 1)
          rw [h1, h2, h3, List.length_append]
          simp
          omega
end Go.Proofs.YtalmpddmhakdmaaGreat

/-
  The walk of a function of impl: a table as plain data (20). Conditions: the nodes lie in memory as stated.
-/
namespace Go.Proofs.YtalmpddmhakdmaaGreat
open Go.RowKit

theorem Nd.wk_self (v : Nd) : (v.wk []).wk v.ks = v := by cases v; rfl
/-- A key is laid into a box. -/
theorem box_keyed {w : World} {b : Nat} {c0 c1 c2 c3 v : Value} {ks : List (List UInt8)} (hb : w.heap[b]? = some (.cells #[c0, c1, c2, c3] 64 (0, 0))) (ho : OwnS w (b + 1) v ks) (u : Value) :
    (w.setCell ⟨b, 3, none⟩ u).heap[b]? = some (.cells #[c0, c1, c2, u] 64 (0, 0)) ∧ OwnS (w.setCell ⟨b, 3, none⟩ u) (b + 1) v ks ∧ (∀ k, k ≠ b → (w.setCell ⟨b, 3, none⟩ u).heap[k]? = w.heap[k]?) ∧ (w.setCell ⟨b, 3, none⟩ u).heap.size = w.heap.size := by
  refine ⟨?_, ho.setCell _ (Nat.lt_succ_self b) _, fun k hk => Below.heap_setCell w _ _ k hk, by simp [World.setCell]⟩
  exact blk_put hb 3 u

set_option maxRecDepth 100000 in
set_option maxHeartbeats 8000000 in
theorem nof_table {d : Nat} (IH : NofC d) {w : World} {pp gb cap lo hi : Nat} {ns : List PN} {items : List Nd} {x : PN} (hR : Rd w pp gb cap ns) (hgb : gb < w.heap.size) (hx : ns[lo]? = some x) (hk : x.kind = 7) (hp : PtN (ItN (KvN (Tx w) (VlN (Tx w) ns d) ns) ns) (lo + 1) hi x.child items) (hno : ∀ v ∈ items, v.ks ≠ [] ∧ NoK d (v.wk [])) (hlen : items.length ≤ 300000) (HVK : ∀ a b v, KvN (Tx w) (VlN (Tx w) ns d) ns a b v → ∃ x, ns[a]? = some x ∧ x.kind ≠ 0) :
    Calls Tryz.prog 20 #[NP gb lo] w (NofQ (d + 1) w (.mk 9 [] items [])) := by
  have HR := Lib.hid hR
  have hpp := cell_lt hR.nodes
  have HIH := Lib.hid IH
  obtain ⟨i0, hi0, hz0, hz10, hz20⟩ := info_parts Tryz.info64
  have HKD := Lib.hid (show ∀ W, Calls Tryz.prog 46 #[.int .i64 7] W (fun e w' => e = .returned (.int .i64 9) ∧ w' = W) from fun W => kind_of W 9 (by decide) (by decide))
  have hVk : ∀ a b v, (KvN (Tx w) (VlN (Tx w) ns d) ns) a b v → ∃ x, ns[a]? = some x ∧ x.kind ≠ 0 := HVK
  obtain ⟨ho, hlk, hnx⟩ := hp.link hVk
  have hg1 := World.grownBy_alloc w (.cells #[.int .i64 0, .string ⟨#[]⟩, .slice none 0 0, .slice none 0 0] 64) none
  have ck := (hR.grown hg1).kind hx
  rw [hk] at ck
  have hg2 := gtrans hg1 (World.grownBy_alloc _ (.cells #[.int .i64 9, .string ⟨#[]⟩, .slice none 0 0, .slice none 0 0] 64) none)
  have HCH := Lib.hid (children_any (hR.grown hg2) hx hlk)
  have HVK := Lib.hid hVk
  have HNX := Lib.hid hnx
  have HNO := Lib.hid hno
  obtain ⟨hpt, hpt2⟩ : ∃ p, PO gb ho = .pointer p := by cases ho <;> exact ⟨_, rfl⟩
  rw [hpt2] at HCH
  have HPO := Lib.hid hpt2
  have HG2 := Lib.hid hg2
  have HLEN := Lib.hid hlen
  have hsz2 : ((w.alloc (.cells #[.int .i64 0, .string ⟨#[]⟩, .slice none 0 0, .slice none 0 0] 64)).alloc (.cells #[.int .i64 9, .string ⟨#[]⟩, .slice none 0 0, .slice none 0 0] 64)).heap.size = w.heap.size + 2 := by rw [World.size_alloc, World.size_alloc]
  have HB1 := Lib.hid (show ((w.alloc (.cells Z64 64)).alloc (.cells #[.int .i64 9, .string ⟨#[]⟩, .slice none 0 0, .slice none 0 0] 64)).heap[w.heap.size]? = some (.cells Z64 64 (0, 0)) from ((World.grownBy_alloc _ _ none).block w.heap.size (by rw [World.size_alloc]; omega) (by simp)).trans (heap_alloc_new w _))
  have hb2 : ((w.alloc (.cells #[.int .i64 0, .string ⟨#[]⟩, .slice none 0 0, .slice none 0 0] 64)).alloc (.cells #[.int .i64 9, .string ⟨#[]⟩, .slice none 0 0, .slice none 0 0] 64)).heap[w.heap.size + 1]? = some (.cells #[.int .i64 9, .string ⟨#[]⟩, .slice none 0 0, .slice none 0 0] 64 (0, 0)) := by
    have := heap_alloc_new (w.alloc (.cells #[.int .i64 0, .string ⟨#[]⟩, .slice none 0 0, .slice none 0 0] 64)) (.cells #[.int .i64 9, .string ⟨#[]⟩, .slice none 0 0, .slice none 0 0] 64)
    rwa [World.size_alloc] at this
  have HB2 := Lib.hid hb2
  clear hR hx hk hp hno hlk hnx hg1 hg2 IH hVk hlen hb2
  go_enter Tryz.func20, Tryz.ntmps20
  go_wp2_with fail
  with_reducible refine (HKD.out _).mono ?_
  rintro e w' ⟨rfl, hw'⟩
  rw [hw']
  clear hw' w'
  go_upto_region 5 with fail
  clear ck
  obtain ⟨W2, hW2⟩ : ∃ W2 : World, (w.alloc (.cells #[.int .i64 0, .string ⟨#[]⟩, .slice none 0 0, .slice none 0 0] 64)).alloc (.cells #[.int .i64 9, .string ⟨#[]⟩, .slice none 0 0, .slice none 0 0] 64) = W2 := ⟨_, rfl⟩
  have hb1 := HB1.out
  have hb2 := HB2.out
  have hg2 := HG2.out
  rw [hW2] at HCH hsz2 hb1 hb2 hg2 ⊢
  clear HB1 HB2 HG2 hW2 HKD
  have HB1 := Lib.hid hb1
  have HB2 := Lib.hid hb2
  have HG2 := Lib.hid hg2
  clear hb1 hb2 hg2
  go_wp2_with fail
  with_reducible refine HCH.out.mono ?_
  rintro e w3 ⟨rfl, hg3⟩
  have hsz3 := hg3.size
  have hb := heap_alloc_new w3 (.cells #[.bool false, .pointer hpt] 90)
  have hg4 := gtrans (gtrans HG2.out hg3) (World.grownBy_alloc w3 (.cells #[.bool false, .pointer hpt] 90) none)
  have hg34 := gtrans hg3 (World.grownBy_alloc w3 (.cells #[.bool false, .pointer hpt] 90) none)
  have hb2' := (hg34.block (w.heap.size + 1) (by omega) (by simp)).trans HB2.out
  have hb1' := (hg34.block w.heap.size (by omega) (by simp)).trans HB1.out
  have hout : OutAt (w.heap.size + 1) 9 (.slice none 0 0) (w3.alloc (.cells #[.bool false, .pointer hpt] 90)) :=
    ⟨by rw [cell_of_row _ _ 0 _ _ _ hb2']; rfl, by rw [cell_of_row _ _ 1 _ _ _ hb2']; rfl, by rw [cell_of_row _ _ 2 _ _ _ hb2']; rfl, by rw [cell_of_row _ _ 3 _ _ _ hb2']; rfl, frozen_of_row _ _ 2 _ _ hb2'⟩
  have HST := Lib.hid (show NfL (KvN (Tx w) (VlN (Tx w) ns d) ns) ns gb d w.heap.size (w.heap.size + 1) w3.heap.size (w3.heap.size + 1) 9 items w (w3.alloc (.cells #[.bool false, .pointer hpt] 90)) from
    ⟨[], items, false, ho, .slice none 0 0, 0, [], rfl, ⟨hout, World.ownsRow_nil _ _ _ _, by omega, rfl, fun _ => False, RowAt.nil _ _ _, fun _ h => h.elim⟩,
      ⟨by rw [cell_of_row _ _ 0 _ _ _ hb]; rfl, by rw [cell_of_row _ _ 1 _ _ _ hb, HPO.out]; rfl, frozen_of_row _ _ 0 _ _ hb, frozen_of_row _ _ 1 _ _ hb⟩, HNX.out, hg4, hb1', by rw [World.size_alloc]; exact Nat.le_refl _⟩)
  clear hg3 hb hg4 hg34 hb2' hb1' hout HCH HB1 HB2 HG2 HPO HNX
  go_wp2_with fail
  go_loopw [] (fun wr => NfL (KvN (Tx w) (VlN (Tx w) ns d) ns) ns gb d w.heap.size (w.heap.size + 1) w3.heap.size (w3.heap.size + 1) 9 items w wr) (fun wr => items.length - cntL wr (w.heap.size + 1))
  case atStart => exact HST.out
  case round =>
    obtain ⟨v1, v2, st, o, v, n, cs, hit, hU, hIT, hNS, hgr, hrb, hbs⟩ := hrel
    obtain ⟨ib, hibb⟩ : ∃ ib, w3.heap.size = ib := ⟨_, rfl⟩
    rw [hibb] at hsz3 hU hIT hbs ⊢
    have HIS := Lib.hid (it_step (HR.out.grown hgr) (by omega) (by omega) hIT hNS HVK.out)
    have hcnt := hU.cnt
    have HCNT := Lib.hid hcnt
    have HU := Lib.hid hU
    have HGR := Lib.hid hgr
    have HRB := Lib.hid hrb
    have HITS := Lib.hid hit
    have hol := hU.out.lt
    clear hIT hNS hgr hrb hcnt hU hit HST hibb
    go_wp2_with fail
    with_reducible refine HIS.out.mono ?_
    rintro e w5 ⟨hg5, hcase⟩
    have hsz5 := hg5.size
    have HU5 := Lib.hid (HU.out.kept hg5 (fun k hk => by cases hk; omega))
    have HG5 := Lib.hid (grow HGR.out hg5 (fun k hk => by cases hk; omega))
    have HRB5 := Lib.hid ((hg5.block w.heap.size (by omega) (by simp; omega)).trans HRB.out)
    clear HIS hg5
    rcases hcase with ⟨hv2, rfl⟩ | ⟨rfl, a, l, hi', hit5, hin⟩
    · have d0 := HU5.out.out.c0
      have d1 := HU5.out.out.c1
      have d2 := HU5.out.out.c2
      have d3 := HU5.out.out.c3
      obtain ⟨p, c, hvv⟩ := HU5.out.form
      subst hvv
      have k0 : w5.cell? ⟨w.heap.size, 0, none⟩ = some (.int .i64 0) := by rw [cell_of_row _ _ 0 _ _ _ HRB5.out]; rfl
      have k1 : w5.cell? ⟨w.heap.size, 1, none⟩ = some (.string ⟨#[]⟩) := by rw [cell_of_row _ _ 1 _ _ _ HRB5.out]; rfl
      have k2 : w5.cell? ⟨w.heap.size, 2, none⟩ = some (.slice none 0 0) := by rw [cell_of_row _ _ 2 _ _ _ HRB5.out]; rfl
      have k3 : w5.cell? ⟨w.heap.size, 3, none⟩ = some (.slice none 0 0) := by rw [cell_of_row _ _ 3 _ _ _ HRB5.out]; rfl
      have z0 := frozen_of_row _ w.heap.size 0 _ _ HRB5.out
      have z1 := frozen_of_row _ w.heap.size 1 _ _ HRB5.out
      have z2 := frozen_of_row _ w.heap.size 2 _ _ HRB5.out
      have z3 := frozen_of_row _ w.heap.size 3 _ _ HRB5.out
      have HV2 := Lib.hid hv2
      clear hv2
      go_wp2_with fail
      obtain ⟨e0, e1, e2, e3⟩ := res_four (by rfl) HRB5.out (.int .i64 9) (.string ⟨#[]⟩) (.slice p n c) (.slice none 0 0)
      have hall : items = v1 := by rw [HITS.out, HV2.out]; simp
      have htr := HU5.out.tree
      have hpost : w.grownBy ((((w5.setCell ⟨w.heap.size, 0, none⟩ (.int .i64 9)).setCell ⟨w.heap.size, 1, none⟩ (.string ⟨#[]⟩)).setCell ⟨w.heap.size, 2, none⟩ (.slice p n c)).setCell ⟨w.heap.size, 3, none⟩ (.slice none 0 0)) none := Res4 HG5.out (Nat.le_refl _)
      refine bodyPost_ret (v := .agg #[.int .i64 9, .string ⟨#[]⟩, .slice p n c, .slice none 0 0]) (by simp [results, Tryz.results20, go_sem, e0, e1, e2, e3]) rfl ⟨_, _, _, _, rfl, hpost, ?_⟩
      rw [hall]
      refine htr.frame (fun b hb => ?_) fun b hb => ⟨by omega, by simp only [World.size_setCell]; exact hb.2⟩
      have hbne : b ≠ w.heap.size := by omega
      rw [Below.heap_setCell _ _ _ _ hbne, Below.heap_setCell _ _ _ _ hbne, Below.heap_setCell _ _ _ _ hbne, Below.heap_setCell _ _ _ _ hbne]
    · obtain ⟨v0, b0, v3, x5, rfl, hv0, hx5, hnx5⟩ := hin.head
      obtain ⟨x', y, hx', hk5, hky, hkne, hch, hvl, hy, hyn⟩ := hv0
      cases hx5.symm.trans hx'
      obtain ⟨kk, hkk⟩ := vln_kind hy hvl
      have hyk : y.kind ≠ 0 := by rw [hkk]; exact kdP_ne kk
      have hk50 : x5.kind ≠ 0 := by rw [hk5]; decide
      have ck5 := (HR.out.grown HG5.out).kind hx5
      rw [hk5] at ck5
      have HNX5 := Lib.hid (NxS.next hx5 hk50 hnx5)
      have hNO5 : NoK d (v0.wk []) := (HNO.out _ (by rw [HITS.out]; simp)).2
      have HV0 := Lib.hid (fun W (hW : w.grownBy W none) => HIH.out W pp gb cap ns (a + 1 + v0.ks.length) b0 (v0.wk []) (HR.out.grown hW) (Nat.lt_of_lt_of_le hgb hW.size) ((hvl.mono fun _ _ h => h.grown hW).wk []) hNO5)
      obtain ⟨t0, ht0⟩ : ∃ t0, v0.ks[0]? = some t0 := ⟨_, List.getElem?_eq_getElem (List.length_pos_iff.2 hkne)⟩
      obtain ⟨z, hz, hzk, _, _⟩ := hky.at ht0
      have HKO := Lib.hid (fun W (hW : w.grownBy W none) => keys_of (n := a) (HR.out.grown hW) (hky.same (fun _ _ h => h.grown hW) fun _ _ _ => rfl) hkne (by have h1 := (List.getElem?_eq_some_iff.1 hy).1; have h2 := HR.out.len; omega) (Nat.lt_of_lt_of_le hgb hW.size)
        fun W2 hR2 => key_kv hR2 hx5 hk5 hch hy hyk hyn hz (by rw [hzk]; decide))
      have HVA := Lib.hid (show Calls Tryz.prog 21 #[NP gb a] w5 (fun e w' => e = .returned (NP gb (a + 1 + v0.ks.length)) ∧ ∃ q, w' = w5.drewN q) from val_any (HR.out.grown HG5.out) hx5 (Lk.step hch hy hyk))
      have hn0 : n + 1 ≤ 300000 := by
        have h1 := HLEN.out
        rw [HITS.out] at h1
        have h2 := HU5.out.len
        simp at h1
        omega
      have HIN := Lib.hid (show Calls Tryz.prog 45 #[.pointer (some ⟨ib, 0, none⟩)] w5 (fun e w' => e = .returned (NP gb a) ∧ w' = w5) from it_node hit5)
      have HIT5 := Lib.hid hit5
      obtain ⟨p, c, hvv⟩ := HU5.out.form
      subst hvv
      have d0 := HU5.out.out.c0
      have hib2 : w.heap.size + 2 ≤ ib := by omega
      obtain ⟨lo', hlo⟩ : ∃ lo', a + 1 + v0.ks.length = lo' := ⟨_, rfl⟩
      rw [hlo] at HV0 HVA
      clear hin hk5 hk50 hnx5 hvl hx5 hNO5 hit5 hsz3 hkk hyk hz hzk hy hyn hky hkne hch hx' ht0 hlo
      go_wp2_with fail
      with_reducible refine HIN.out.mono ?_
      rintro e w' ⟨rfl, hw'⟩
      rw [hw']
      clear hw' w' HIN
      go_wp2_with fail
      with_reducible refine HVA.out.mono ?_
      rintro e w' ⟨rfl, q, rfl⟩
      go_wp2_with fail
      with_reducible refine (HV0.out _ (gtrans HG5.out (grown_drewN w5 q))).mono ?_
      rintro e w6 ⟨c0, c1, c2, c3, rfl, hg6, hN6⟩
      obtain ⟨kd, s, p1, n1, q1, p2, n2, q2, hcs⟩ := hN6.form
      cases hcs
      have hg56 : w5.grownBy w6 none := gtrans (grown_drewN w5 q) hg6
      have hsz6 := hg56.size
      have hdl : (w5.drewN q).heap.size = w5.heap.size := rfl
      rw [hdl] at hN6
      have HN6 := Lib.hid hN6
      have HG6 := Lib.hid hg56
      clear hN6 hg6 hg56 HV0 HVA hdl
      go_wp2_with fail
      with_reducible refine (HKO.out _ (gtrans (gtrans HG5.out HG6.out) (World.grownBy_alloc w6 (.cells #[.int .i64 kd, .string s, .slice p1 n1 q1, .slice p2 n2 q2] 64) none))).mono ?_
      rintro e w8 ⟨kv, rfl, how8, hg8⟩
      obtain ⟨p5, n5, c5, hkv⟩ : ∃ p5 n5 c5, kv = .slice p5 n5 c5 := by
        rcases how8.2 with ⟨h1, _⟩ | ⟨g, cap, cur, h1, _⟩
        · exact ⟨_, _, _, h1⟩
        · exact ⟨_, _, _, h1⟩
      subst hkv
      have hb8 := (hg8.block w6.heap.size (by rw [World.size_alloc]; omega) (by simp)).trans (heap_alloc_new w6 (.cells #[.int .i64 kd, .string s, .slice p1 n1 q1, .slice p2 n2 q2] 64))
      have hg68 := gtrans (World.grownBy_alloc w6 (.cells #[.int .i64 kd, .string s, .slice p1 n1 q1, .slice p2 n2 q2] 64) none) hg8
      have hsz8 := hg8.size
      rw [World.size_alloc] at hsz8
      rw [World.size_alloc] at how8
      obtain ⟨HB9, hown9, hbl9, hsz9⟩ := box_keyed hb8 how8 (.slice p5 n5 c5)
      have z3 := frozen_of_row _ w6.heap.size 3 _ _ hb8
      have k3 : w8.cell? ⟨w6.heap.size, 3, none⟩ = some (.slice p2 n2 q2) := by rw [cell_of_row _ _ 3 _ _ _ hb8]; rfl
      obtain ⟨bx, hbx⟩ : ∃ bx, w6.heap.size = bx := ⟨_, rfl⟩
      rw [hbx] at HB9 hown9 hbl9 hsz9 hsz8 z3 k3 ⊢
      obtain ⟨w9, hw9⟩ : ∃ w9, w8.setCell ⟨bx, 3, none⟩ (.slice p5 n5 c5) = w9 := ⟨_, rfl⟩
      rw [hw9] at HB9 hown9 hbl9 hsz9
      have hg69 : w6.grownBy w9 none := by
        rw [← hw9]
        exact grown_setNew hg68 _ (Nat.le_of_eq hbx) _
      have e0 : w9.cell? ⟨bx, 0, none⟩ = some (.int .i64 kd) := by rw [cell_of_row _ _ 0 _ _ _ HB9]; rfl
      have e1 : w9.cell? ⟨bx, 1, none⟩ = some (.string s) := by rw [cell_of_row _ _ 1 _ _ _ HB9]; rfl
      have e2 : w9.cell? ⟨bx, 2, none⟩ = some (.slice p1 n1 q1) := by rw [cell_of_row _ _ 2 _ _ _ HB9]; rfl
      have e3 : w9.cell? ⟨bx, 3, none⟩ = some (.slice p5 n5 c5) := by rw [cell_of_row _ _ 3 _ _ _ HB9]; rfl
      have hN9 : NdAt d (fun b => w5.heap.size ≤ b ∧ b < w9.heap.size) w9 [.int .i64 kd, .string s, .slice p1 n1 q1, .slice p5 n5 c5] v0 := by
        have h1 := NdAt.keyed (kv := .slice p5 n5 c5) (ks := v0.ks) (HN6.out.frame (w' := w9) (Q := fun b => w5.heap.size ≤ b ∧ b < w9.heap.size) (fun b hb => hg69.block b hb.2 (by simp)) fun b hb => ⟨hb.1, Nat.lt_of_lt_of_le hb.2 hg69.size⟩) (hown9.reads _ fun b hb => by
          have h2 := World.ownsRow.lt hown9 b hb
          exact ⟨by omega, h2.2⟩)
        rwa [Nd.wk_self] at h1
      have HN9 := Lib.hid hN9
      have HG9 := Lib.hid (gtrans HG6.out hg69)
      have HU9 := Lib.hid (HU5.out.kept HG9.out (fun k hk => by cases hk))
      have oz9 := HU9.out.out.c2
      have HUb := Lib.hid (HU9.out.out.of (w' := w9.alloc (.cells #[.int .i64 kd, .string s, .slice p1 n1 q1, .slice p5 n5 c5] 64)) ((World.grownBy_alloc w9 _ none).block _ HU9.out.out.lt (by simp)))
      have oz9b := HUb.out.c2
      have hsz59 := HG9.out.size
      have hsz9' : w.heap.size + 1 < w9.heap.size := HU9.out.out.lt
      clear hN9 HB9 hown9 hbl9 hg68 hg69 hb8 how8 hg8 HKO HN6 HG6
      go_wp2_with (at_builtin; (refine wpList_append_lies _ rfl (.tmp 42) (.tmp 44) 62 rfl (ib + 1) 64 i0 (.agg Z64) 4 72 Tryz.u62 hi0 hz0 hz10 hz20 rfl (by decide) (.slice p n c) n cs (by simp [Act.eval]) (HU9.out.own.alloc _) ⟨w9.heap.size, 0, none⟩ 1 1 [.int .i64 kd, .string s, .slice p1 n1 q1, .slice p5 n5 c5] (by simp [Act.eval]) rfl (lit_cell64 _ _ rfl _ _ _ _) (nd_one' _ _ _ _ _ _ _ _) (by decide) (by unfold maxLen; omega) (by omega) (by simp; omega) _ rfl ?_); intro g cap' w7 hown7 hgrow7 hgl hgh; have hoz7 := HU9.out.keptO hgrow7; have oz7 := hoz7.c2; have fz7 := hoz7.f2; clear hoz7)
      have hsz7 := hgrow7.size
      rw [World.size_alloc] at hsz7
      have hU8 := HU9.out.app (x := v0) g cap' rfl hown7 hgrow7 hgl rfl (Nat.le_trans hbs (Nat.le_trans hsz5 hsz59)) ⟨_, fun b hb => ⟨Nat.le_trans hbs (Nat.le_trans hsz5 hb.1), hb.2, fun e => by
        have h1 := (World.ownsRow.lt HU5.out.own b e).2
        have h2 : w5.heap.size ≤ b := hb.1
        omega⟩, HN9.out⟩
      have h16 : w9.grownBy (w9.alloc (.cells #[.int .i64 kd, .string s, .slice p1 n1 q1, .slice p5 n5 c5] 64)) none := World.grownBy_alloc w9 _ none
      have hownlt : ∀ k, Value.ownBlock (.slice p n c) = some k → ib + 1 ≤ k := fun k hk => (World.ownsRow.lt HU5.out.own k hk).1
      have hset : w7.grownBy (w7.setCell ⟨w.heap.size + 1, 2, none⟩ (.slice (some ⟨g, 0, none⟩) (n + 1) cap')) (some (w.heap.size + 1)) := ⟨rfl, rfl, rfl, by simp [World.setCell], fun k _ hne => Below.heap_setCell w7 _ _ k (fun e => hne (by rw [e]))⟩
      have hIT8 := ((((HIT5.out.grown HG9.out).grown h16).kept hgrow7 (fun e => by have := hownlt _ e; omega)).kept hset (by simp; omega))
      have hG8 : w.grownBy (w7.setCell ⟨w.heap.size + 1, 2, none⟩ (.slice (some ⟨g, 0, none⟩) (n + 1) cap')) none := grow (grow (gtrans (gtrans HG5.out HG9.out) h16) hgrow7 (fun k hk => by have := hownlt k hk; omega)) hset (fun k hk => by cases hk; omega)
      have hRB8 := (((hset.block w.heap.size (by omega) (by simp)).trans ((hgrow7.block w.heap.size (by rw [World.size_alloc]; omega) (fun e => by have := hownlt _ e.symm; omega)).trans (h16.block w.heap.size (by omega) (by simp)))).trans ((HG9.out.block w.heap.size (by omega) (by simp)).trans HRB5.out))
      obtain ⟨wf, hwf⟩ : ∃ wf, w7.setCell ⟨w.heap.size + 1, 2, none⟩ (.slice (some ⟨g, 0, none⟩) (n + 1) cap') = wf := ⟨_, rfl⟩
      rw [hwf] at hU8 hIT8 hG8 hRB8 hset ⊢
      have hszf := hset.size
      have HU8 := Lib.hid hU8
      have HIT8 := Lib.hid hIT8
      have HG8 := Lib.hid hG8
      have HRB8 := Lib.hid hRB8
      clear hU8 hIT8 hG8 hRB8 hset hwf hown7 hgrow7 hgl hgh oz9 oz9b oz7 fz7 h16 hownlt
      go_wp2_with fail
      go_roundw
      case rel =>
        exact ⟨v1 ++ [v0], v3, true, some a, _, _, _, by rw [HITS.out]; simp, HU8.out, HIT8.out, HNX5.out, HG8.out, HRB8.out, by omega⟩
      case measure =>
        have h1 := HU8.out.cnt
        have h2 := HCNT.out
        have h3 : items.length = v1.length + (v3.length + 1) := by rw [HITS.out]; simp
        show items.length - cntL wf (w.heap.size + 1) < items.length - cntL wr (w.heap.size + 1)
        rw [h1, h2, h3, List.length_append]
        simp
        omega
end Go.Proofs.YtalmpddmhakdmaaGreat

/-
  Plain: a value's nodes read back as plain data (20), at every depth; what nodes tell of the values' form. Conditions: as each lemma states.
-/
namespace Go.Proofs.YtalmpddmhakdmaaGreat
open Go.RowKit

theorem ItN.count {V : Nat → Nat → Nd → Prop} (hV : ∀ a b v, V a b v → a < b) {ns : List PN} {lo l hi : Nat} {vs : List Nd} (h : ItN V ns lo l hi vs) (hi' : ∀ a b v, V a b v → b ≤ ns.length) : lo + vs.length ≤ hi ∧ hi ≤ ns.length := by
  induction h with
  | one h1 _ _ => exact ⟨by have := hV _ _ _ h1; simp; omega, hi' _ _ _ h1⟩
  | cons h1 _ _ _ ih => exact ⟨by have := hV _ _ _ h1; simp; omega, ih.2⟩
theorem VlN.fits {M : Value → List UInt8 → Prop} {ns : List PN} : ∀ {d lo hi : Nat} {v : Nd}, VlN M ns d lo hi v → hi ≤ ns.length
  | 0, _, _, _, h => h.elim
  | d + 1, lo, hi, .mk kind text items _, h => by
    obtain ⟨x, hx, _, h⟩ := h
    have hl := (List.getElem?_eq_some_iff.1 hx).1
    rcases h with h | ⟨_, h⟩ | ⟨_, h⟩
    · omega
    · rcases h with ⟨_, h, _⟩ | ⟨_, l, h⟩
      · omega
      · exact (h.count (fun _ _ _ => VlN.lt) fun _ _ _ => VlN.fits).2
    · rcases h with ⟨_, h, _⟩ | ⟨_, l, h⟩
      · omega
      · exact (h.count (fun _ _ _ => KvN.lt) fun a b v (hv : KvN M (VlN M ns d) ns a b v) => by
          obtain ⟨_, _, _, _, _, _, _, h, _⟩ := hv
          exact VlN.fits h).2
theorem node_of : ∀ d, NofC d
  | 0 => fun _ _ _ _ _ _ _ _ _ _ h _ => h.elim
  | d + 1 => fun w pp gb cap ns lo hi x hR hgb h hN => by
    obtain ⟨kind, text, items, keys⟩ := x
    obtain ⟨hks, h0, h9, h8n, h9n⟩ := hN
    subst hks
    obtain ⟨x, hx, hk, h⟩ := h
    have hlen : ∀ (V : Nat → Nat → Nd → Prop), (∀ a b v, V a b v → a < b) → (∀ a b v, V a b v → b ≤ ns.length) → PtN (ItN V ns) (lo + 1) hi x.child items → items.length ≤ 300000 := by
      intro V hV hf hp
      rcases hp with ⟨rfl, _, _⟩ | ⟨_, l, hp⟩
      · simp
      · have h1 := hp.count hV hf
        have h2 := hR.len
        omega
    rcases h with ⟨h1, h2, h3, h4, h5⟩ | ⟨h1, h2⟩ | ⟨h1, h2⟩
    · subst h5
      exact nof_leaf hR hx hk h1 h2 h4
    · subst h1
      obtain ⟨rfl, h3⟩ := h8n rfl
      exact nof_list (node_of d) hR hgb hx hk h2 h3 (hlen _ (fun _ _ _ => VlN.lt) (fun _ _ _ => VlN.fits) h2) fun a b v hv => by
        cases d with
        | zero => exact hv.elim
        | succ d =>
          obtain ⟨k, t, i, ks⟩ := v
          obtain ⟨y, hy, hyk, _⟩ := hv
          exact ⟨y, hy, by rw [hyk]; exact kdP_ne k⟩
    · subst h1
      obtain ⟨rfl, h3⟩ := h9n rfl
      exact nof_table (node_of d) hR hgb hx hk h2 h3 (hlen _ (fun _ _ _ => KvN.lt) (fun a b v hv => by
        obtain ⟨_, _, _, _, _, _, _, h, _⟩ := hv
        exact VlN.fits h) h2) fun a b v hv => by
        obtain ⟨y, _, hy, hyk, _⟩ := hv
        exact ⟨y, hy, by rw [hyk]; decide⟩
end Go.Proofs.YtalmpddmhakdmaaGreat

/-
  Plain: the form of the values that a text tells. Conditions: as each lemma states.
-/
namespace Go.Proofs.YtalmpddmhakdmaaGreat
open Go.RowKit

theorem NumR.kinds {B : List UInt8} {i n : Nat} {kind : Int} (h : NumR B i n kind) : 0 ≤ kind ∧ kind < 8 := by
  cases h with
  | date hd => rcases hd.2 with ⟨rfl, _⟩ | ⟨_, c, _, _, ⟨rfl, _⟩ | ⟨rfl, _⟩ | ⟨rfl, _⟩⟩ <;> decide
  | clock _ _ => decide
  | radix _ _ _ _ => decide
  | word _ _ => decide
  | dec _ hd _ =>
    obtain ⟨e1, e2, e3, _, _, _, _, _, rfl⟩ := hd
    split <;> decide
theorem ItR.nok {B : List UInt8} {V : Nat → Nat → Nd → Prop} {Q : Nd → Prop} (hV : ∀ a b v, V a b v → Q v) {i j : Nat} {vs : List Nd} (h : ItR B V i j vs) : ∀ v ∈ vs, Q v := by
  induction h with
  | close _ _ => exact fun _ hv => by cases hv
  | last _ _ h1 _ _ => exact fun v hv => by rw [List.mem_singleton.1 hv]; exact hV _ _ _ h1
  | comma _ _ h1 _ _ _ ih =>
    intro v hv
    rcases List.mem_cons.1 hv with rfl | hv
    · exact hV _ _ _ h1
    · exact ih v hv
theorem PrR.nok {B : List UInt8} {V : Nat → Nat → Nd → Prop} {Q : Nd → Prop} (hV : ∀ a b v, V a b v → Q v) {i j : Nat} {vs : List Nd} (h : PrR B V i j vs) : ∀ v ∈ vs, v.ks ≠ [] ∧ ∃ x ks, v = x.wk ks ∧ Q x := by
  have one : ∀ {i m : Nat} {ks : List (List UInt8)} {x : Nd}, KyR B i m ks → Q x → (x.wk ks).ks ≠ [] ∧ ∃ y ks', x.wk ks = y.wk ks' ∧ Q y := fun {i m ks x} h1 h2 => ⟨by cases x; exact h1.len.1, _, _, rfl, h2⟩
  induction h with
  | last h1 _ h2 _ => exact fun v hv => by rw [List.mem_singleton.1 hv]; exact one h1 (hV _ _ _ h2)
  | comma h1 _ h2 _ _ ih =>
    intro v hv
    rcases List.mem_cons.1 hv with rfl | hv
    · exact one h1 (hV _ _ _ h2)
    · exact ih v hv
theorem NoK.wk {d : Nat} {x : Nd} (h : NoK d x) (ks : List (List UInt8)) : NoK d ((x.wk ks).wk []) := by
  cases d with
  | zero => exact h.elim
  | succ d =>
    obtain ⟨kind, text, items, keys⟩ := x
    exact ⟨rfl, h.2⟩
/-- A value as a text tells it has no key but those of its parts. -/
theorem ValR.nok {B : List UInt8} : ∀ {d i j : Nat} {v : Nd}, ValR B d i j v → NoK d v
  | 0, _, _, _, h => h.elim
  | d + 1, i, j, v, h => by
    rcases h with h | ⟨_, vs, h, rfl⟩ | ⟨_, _, _, rfl⟩ | ⟨_, _, vs, h, rfl⟩
    · have key : ∃ kind t, v = .mk kind t [] [] ∧ 0 ≤ kind ∧ kind < 8 := by
        cases h with
        | lines _ _ _ => exact ⟨_, _, rfl, by decide, by decide⟩
        | text _ _ _ _ => exact ⟨_, _, rfl, by decide, by decide⟩
        | yes _ _ _ _ => exact ⟨_, _, rfl, by decide, by decide⟩
        | no _ _ _ _ _ => exact ⟨_, _, rfl, by decide, by decide⟩
        | num h => exact ⟨_, _, rfl, h.kinds⟩
      obtain ⟨kind, t, rfl, h0, h8⟩ := key
      exact ⟨rfl, h0, by omega, fun e => by omega, fun e => by omega⟩
    · exact ⟨rfl, by decide, by decide, fun _ => ⟨rfl, h.nok (Q := NoK d) (fun _ _ _ => ValR.nok)⟩, fun e => absurd e (by decide)⟩
    · exact ⟨rfl, by decide, by decide, fun e => absurd e (by decide), fun _ => ⟨rfl, fun _ hv => by cases hv⟩⟩
    · refine ⟨rfl, by decide, by decide, fun e => absurd e (by decide), fun _ => ⟨rfl, fun v hv => ?_⟩⟩
      obtain ⟨h1, x, ks, rfl, h2⟩ := h.nok (Q := NoK d) (fun _ _ _ => ValR.nok) v hv
      exact ⟨h1, h2.wk ks⟩
end Go.Proofs.YtalmpddmhakdmaaGreat

/-
  The walks of functions: a parser is set up (15). Conditions: as stated.
-/
namespace Go.Proofs.YtalmpddmhakdmaaGreat
open Go.RowKit

/-- A parser as it is made. -/
abbrev Z49 : Array Value := #[.bool false, .slice none 0 0, .slice none 0 0, .slice none 0 0, .nilIface, .int .i64 0]
set_option maxRecDepth 100000 in
set_option maxHeartbeats 4000000 in
theorem reset_new {w : World} {pp db n C : Nat} (hb : w.heap[pp]? = some (.cells Z49 49 (0, 0))) :
    Calls Tryz.prog 15 #[.pointer (some ⟨pp, 0, none⟩), .slice (some ⟨db, 0, none⟩) n C] w fun e w' => e = .returned (.tuple #[]) ∧ w.grownBy w' (some pp) ∧
      w'.heap[pp]? = some (.cells #[.bool false, .slice (some ⟨db, 0, none⟩) n C, .slice (some ⟨db, 0, none⟩) n C, .slice none 0 0, .nilIface, .int .i64 0] 49 (0, 0)) := by
  have c1 : w.cell? ⟨pp, 1, none⟩ = some (.slice none 0 0) := by rw [cell_of_row _ _ 1 _ _ _ hb]; rfl
  have c2 : w.cell? ⟨pp, 2, none⟩ = some (.slice none 0 0) := by rw [cell_of_row _ _ 2 _ _ _ hb]; rfl
  have c3 : w.cell? ⟨pp, 3, none⟩ = some (.slice none 0 0) := by rw [cell_of_row _ _ 3 _ _ _ hb]; rfl
  have c4 : w.cell? ⟨pp, 4, none⟩ = some .nilIface := by rw [cell_of_row _ _ 4 _ _ _ hb]; rfl
  have c5 : w.cell? ⟨pp, 5, none⟩ = some (.int .i64 0) := by rw [cell_of_row _ _ 5 _ _ _ hb]; rfl
  have f1 := frozen_of_row _ pp 1 _ _ hb
  have f2 := frozen_of_row _ pp 2 _ _ hb
  have f3 := frozen_of_row _ pp 3 _ _ hb
  have f4 := frozen_of_row _ pp 4 _ _ hb
  have f5 := frozen_of_row _ pp 5 _ _ hb
  have HB := Lib.hid hb
  clear hb
  go_enter Tryz.func15, Tryz.ntmps15
  go_wp2_with fail
  go_end0
  have h1 := blk_put HB.out 1 (.slice (some ⟨db, 0, none⟩) n C)
  have h2 := blk_put h1 2 (.slice (some ⟨db, 0, none⟩) n C)
  have h3 := blk_put h2 3 (.slice none 0 0)
  have h4 := blk_put h3 4 .nilIface
  have h5 := blk_put h4 5 (.int .i64 0)
  exact ⟨rfl, ⟨rfl, rfl, rfl, by simp [World.setCell], fun k _ hne => by
    have hk : k ≠ pp := fun e => hne (by rw [e])
    rw [Below.heap_setCell _ _ _ _ hk, Below.heap_setCell _ _ _ _ hk, Below.heap_setCell _ _ _ _ hk, Below.heap_setCell _ _ _ _ hk, Below.heap_setCell _ _ _ _ hk]⟩, h5⟩
end Go.Proofs.YtalmpddmhakdmaaGreat

/-
  The walks of functions: a text is copied (16). Conditions: as stated.
-/
namespace Go.Proofs.YtalmpddmhakdmaaGreat
open Go.RowKit

theorem Tryz.u22 : Tryz.prog.underlying 22 = some (.slice 5) := by kernel_rfl
set_option maxRecDepth 100000 in
set_option maxHeartbeats 4000000 in
theorem clone_full {w : World} {a0 : Addr} {c : Nat} {B : List UInt8} (hne : B ≠ []) (hl : B.length ≤ 65536) (hd : ∀ i u, B[i]? = some u → w.cell? (a0.add i) = some (.int .u8 (u.toNat : Int))) (ha : a0.block < w.heap.size) :
    Calls Tryz.prog 16 #[.slice (some a0) B.length c] w fun e w' => ∃ g C, e = .returned (.slice (some ⟨g, 0, none⟩) B.length C) ∧ w.grownBy w' none ∧ w.heap.size ≤ g ∧ w'.ownsRow w.heap.size 5 1 (.slice (some ⟨g, 0, none⟩) B.length C) B.length (B.map fun u => .int .u8 (u.toNat : Int)) := by
  obtain ⟨i0, hi0, hz0, hz10, hz20⟩ := info_parts Tryz.info5
  have HD := Lib.hid hd
  have hl0 : 0 < B.length := List.length_pos_iff.2 hne
  clear hd hne
  have hnn : (binOp .eql 22 (.slice (some a0) B.length c) (.slice none 0 0)).run Tryz.prog w = .ok (.bool false) w := by
    have := Lib.run_eql_slice_nil (P := Tryz.prog) w 22 5 (some a0) B.length c 0 0 Tryz.u22
    exact this
  go_enter Tryz.func16, Tryz.ntmps16
  go_upto_region 3 with fail
  have HC := Lib.hid (show ∀ (o : Obj) (j : Nat) (u : Value), (B.map fun u => Value.int .u8 (u.toNat : Int))[j]? = some u → (w.alloc o).cell? (a0.add j) = some u from fun o j u hj => by
    rw [List.getElem?_map] at hj
    obtain ⟨b, hb, rfl⟩ := Option.map_eq_some_iff.1 hj
    exact (World.cell?_of_block (w := w) (by rw [add_block]; exact (World.grownBy_alloc w o none).block _ ha (by simp))).trans (HD.out _ _ hb))
  have HG := Lib.hid (fun o => World.grownBy_alloc w o none)
  go_wp2_with (at_builtin; (refine wpList_append_lies _ rfl (.tmp 5) (.tmp 6) 22 rfl w.heap.size 5 i0 (.int .u8 0) 1 1 Tryz.u22 hi0 hz0 hz10 hz20 rfl (by decide) (.slice (some ⟨w.heap.size, 0, none⟩) 0 0) 0 [] (by simp [Act.eval]) (World.ownsRow_made w #[] 0 (Nat.le_refl _) (by decide) rfl) a0 B.length c (B.map fun u => .int .u8 (u.toNat : Int)) (by simp [Act.eval]) (by simp) (HC.out _) (by simp; intro a _; rfl) hl0 (by unfold maxLen; omega) (by omega) (by simp) _ rfl ?_); intro g cap w7 hown7 hgrow7 hgl hgh)
  go_ret
  refine ⟨g, cap, ?_⟩
  rw [Nat.zero_add, List.nil_append] at hown7
  have h16 := HG.out (.cells #[] 5)
  have hg : w.grownBy w7 none := grow h16 hgrow7 (fun k hk => by cases hk; exact Nat.le_refl _)
  exact ⟨rfl, hg, (World.ownsRow.lt hown7 g rfl).1, hown7⟩
end Go.Proofs.YtalmpddmhakdmaaGreat

/-
  Plain: what an expression's nodes give to its readers. Conditions: as each lemma states.
-/
namespace Go.Proofs.YtalmpddmhakdmaaGreat
open Go.RowKit

theorem PS.rd {w : World} {pp db C : Nat} {B : List UInt8} {nv : Value} {ns : List PN} {g : Int} (hP : PS w pp db C B nv ns g) (hne : ns ≠ []) (hl : ns.length ≤ 300000) : ∃ gb cap, nv = .slice (some ⟨gb, 0, none⟩) ns.length cap ∧ Rd w pp gb cap ns ∧ gb < w.heap.size := by
  obtain ⟨gb, cap, e, _⟩ := hP.lt (List.length_pos_iff.2 hne)
  subst e
  have hn := hP.nodes
  refine ⟨gb, cap, rfl, ⟨hn, fun i x k v hx hk hv => hP.node hx hk hv, hl⟩, (World.ownsRow.lt hP.own gb rfl).2⟩
end Go.Proofs.YtalmpddmhakdmaaGreat
