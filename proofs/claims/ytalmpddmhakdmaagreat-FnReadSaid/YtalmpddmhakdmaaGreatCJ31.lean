/-
  The walk of a function of the spec's parser: a value; by the contracts of lists and tables. Conditions: the parser lies in memory as stated.
-/
import Derived.Test.YtalmpddmhakdmaaGreatCTree
import Derived.Test.YtalmpddmhakdmaaGreatCNumE
import Derived.Deep.AppendLies
import Derived.Deep.RegionLaw
namespace Go.Proofs.YtalmpddmhakdmaaGreat
open Go.RowKit

/-- .. of a function that hands back a value with so many levels left. -/
def VLPost (d : Nat) (pb : Nat) (a : Addr) (C : Nat) (B : List UInt8) (k : Nat) (st : Int) (w : World) (e : Ending) (w' : World) : Prop :=
  ∃ (kd : Int) (s : ByteArray) (p1 : Option Addr) (n1 c1 : Nat) (p2 : Option Addr) (n2 c2 : Nat), e = .returned (.agg #[.int .i64 kd, .string s, .slice p1 n1 c1, .slice p2 n2 c2]) ∧
    SPost pb a C B k st w (fun j => ∃ v : Nd, ValR B d k j v ∧ ∃ P : Nat → Prop, (∀ b, P b → w.heap.size ≤ b ∧ b < w'.heap.size) ∧ NdAt d P w' [.int .i64 kd, .string s, .slice p1 n1 c1, .slice p2 n2 c2] v) w'
theorem VLPost.mk {d : Nat} {pb : Nat} {a : Addr} {C : Nat} {B : List UInt8} {k : Nat} {st : Int} {w : World} {e : Ending} {w' : World} (kd : Int) (s : ByteArray) (p1 : Option Addr) (n1 c1 : Nat) (p2 : Option Addr) (n2 c2 : Nat)
    (h : e = .returned (.agg #[.int .i64 kd, .string s, .slice p1 n1 c1, .slice p2 n2 c2]))
    (h2 : SPost pb a C B k st w (fun j => ∃ v : Nd, ValR B d k j v ∧ ∃ P : Nat → Prop, (∀ b, P b → w.heap.size ≤ b ∧ b < w'.heap.size) ∧ NdAt d P w' [.int .i64 kd, .string s, .slice p1 n1 c1, .slice p2 n2 c2] v) w') : VLPost d pb a C B k st w e w' :=
  ⟨kd, s, p1, n1, c1, p2, n2, c2, h, h2⟩
/-- What a function does that reads a value: number f, with so many levels left, where the text stands as g says. -/
def RdC (f : FuncId) (d : Nat) (g : List UInt8 → Nat → Prop) : Prop :=
  ∀ (w : World) (pb : Nat) (a : Addr) (C : Nat) (B : List UInt8) (k : Nat) (st z : Int), SP w pb a C B k st → k ≤ B.length → B ≠ [] → g B k → z = 51 - (d : Int) → Calls Tryz.prog f #[.pointer (some ⟨pb, 0, none⟩), .int .i64 z] w (VLPost d pb a C B k st w)
theorem NdAt.leaf (d : Nat) (P : Nat → Prop) (w : World) (kd : Int) (t : List UInt8) : NdAt (d + 1) P w [.int .i64 kd, .string ⟨t.toArray⟩, .slice none 0 0, .slice none 0 0] (.mk kd t [] []) :=
  ⟨none, 0, .slice none 0 0, rfl, ⟨none, 0, rfl, .inl rfl⟩, .inl rfl⟩

theorem str_of (s : ByteArray) : (⟨s.toList.toArray⟩ : ByteArray) = s := by
  rw [ByteArray.toList_eq]
/-- The world behind the storing of a result, where what was read lies in blocks above it. -/
theorem SPost.res2 {pb : Nat} {a : Addr} {C : Nat} {B : List UInt8} {k : Nat} {st : Int} {w w3 : World} {R R' : Nat → Prop} (h : SPost pb a C B k st w R w3) (hin : pb < w.heap.size ∧ (B ≠ [] → a.block < w.heap.size)) (v0 v1 v2 v3 : Value) (hR : ∀ j, R j → R' j) :
    SPost pb a C B k st w R' ((((w3.setCell ⟨w.heap.size, 0, none⟩ v0).setCell ⟨w.heap.size, 1, none⟩ v1).setCell ⟨w.heap.size, 2, none⟩ v2).setCell ⟨w.heap.size, 3, none⟩ v3) := by
  obtain ⟨k', st', h1, h2, h3, h4, h5⟩ := h.res hin v0 v1 v2 v3
  exact ⟨k', st', h1, h2, h3, h4, fun e => ⟨(h5 e).1, hR _ (h5 e).2⟩⟩
theorem res_block (w w3 : World) (v0 v1 v2 v3 : Value) (b : Nat) (hb : b ≠ w.heap.size) : ((((w3.setCell ⟨w.heap.size, 0, none⟩ v0).setCell ⟨w.heap.size, 1, none⟩ v1).setCell ⟨w.heap.size, 2, none⟩ v2).setCell ⟨w.heap.size, 3, none⟩ v3).heap[b]? = w3.heap[b]? := by
  rw [Below.heap_setCell _ _ _ _ hb, Below.heap_setCell _ _ _ _ hb, Below.heap_setCell _ _ _ _ hb, Below.heap_setCell _ _ _ _ hb]
theorem res_size (w w3 : World) (v0 v1 v2 v3 : Value) : ((((w3.setCell ⟨w.heap.size, 0, none⟩ v0).setCell ⟨w.heap.size, 1, none⟩ v1).setCell ⟨w.heap.size, 2, none⟩ v2).setCell ⟨w.heap.size, 3, none⟩ v3).heap.size = w3.heap.size := by
  simp [World.setCell]
/-- What a callee has read stays so behind the storing of the result. -/
theorem tree_res {d : Nat} {w w3 : World} {B : List UInt8} {k j : Nat} {cs : List Value} {n : Nat} (hn : w.heap.size < n) (v0 v1 v2 v3 : Value)
    (h : ∃ v : Nd, ValR B d k j v ∧ ∃ P : Nat → Prop, (∀ b, P b → n ≤ b ∧ b < w3.heap.size) ∧ NdAt d P w3 cs v) :
    ∃ v : Nd, ValR B d k j v ∧ ∃ P : Nat → Prop, (∀ b, P b → w.heap.size ≤ b ∧ b < ((((w3.setCell ⟨w.heap.size, 0, none⟩ v0).setCell ⟨w.heap.size, 1, none⟩ v1).setCell ⟨w.heap.size, 2, none⟩ v2).setCell ⟨w.heap.size, 3, none⟩ v3).heap.size) ∧
      NdAt d P ((((w3.setCell ⟨w.heap.size, 0, none⟩ v0).setCell ⟨w.heap.size, 1, none⟩ v1).setCell ⟨w.heap.size, 2, none⟩ v2).setCell ⟨w.heap.size, 3, none⟩ v3) cs v := by
  obtain ⟨v, hv, P, hP, hN⟩ := h
  refine ⟨v, hv, P, fun b hb => ?_, hN.frame (fun b hb => res_block _ _ _ _ _ _ b (by have := hP b hb; omega)) fun _ h => h⟩
  have := hP b hb
  rw [res_size]
  omega
/-- A value without parts. -/
theorem leaf_res {d : Nat} {w' w : World} {B : List UInt8} {k j : Nat} {kd : Int} {s : ByteArray} (h : ScR B k j (.mk kd s.toList [] [])) :
    ∃ v : Nd, ValR B (d + 1) k j v ∧ ∃ P : Nat → Prop, (∀ b, P b → w.heap.size ≤ b ∧ b < w'.heap.size) ∧ NdAt (d + 1) P w' [.int .i64 kd, .string s, .slice none 0 0, .slice none 0 0] v :=
  ⟨_, .inl h, fun _ => False, fun _ h => h.elim, by
    have := NdAt.leaf d (fun _ => False) w' kd s.toList
    rwa [str_of] at this⟩
theorem hasB_get {B : List UInt8} {k : Nat} {s : ByteArray} (h : hasB B k s = true) : k + s.size ≤ B.length ∧ ∀ j, j < s.size → pk B (k + j) = s.toList.getD j 0 := by
  unfold hasB at h
  rw [Bool.and_eq_true, decide_eq_true_eq, beq_iff_eq, ByteArray.toList_mk] at h
  refine ⟨h.1, fun j hj => ?_⟩
  rw [← h.2, List.getD, List.getElem?_take_of_lt hj, List.getElem?_drop]
  rfl
end Go.Proofs.YtalmpddmhakdmaaGreat

/-
  Plain: a list under way: its parts in a row that is owned; how they read. Conditions: as each lemma states.
-/
namespace Go.Proofs.YtalmpddmhakdmaaGreat
open Go.RowKit

/-- Cells read as values, four each. -/
def RowAt (d : Nat) (P : Nat → Prop) (w : World) (cs : List Value) (vs : List Nd) : Prop :=
  cs.length = 4 * vs.length ∧ ∀ j x, vs[j]? = some x → NdAt d P w ((cs.drop (4 * j)).take 4) x
theorem RowAt.nil (d : Nat) (P : Nat → Prop) (w : World) : RowAt d P w [] [] := ⟨rfl, fun j x h => by cases h⟩
theorem RowAt.frame {d : Nat} {P Q : Nat → Prop} {w w' : World} {cs : List Value} {vs : List Nd} (h : RowAt d P w cs vs) (hb : ∀ b, P b → w'.heap[b]? = w.heap[b]?) (hq : ∀ b, P b → Q b) : RowAt d Q w' cs vs :=
  ⟨h.1, fun j x hj => (h.2 j x hj).frame hb hq⟩
theorem RowAt.app {d : Nat} {P : Nat → Prop} {w : World} {cs c4 : List Value} {vs : List Nd} {x : Nd} (h : RowAt d P w cs vs) (h4 : c4.length = 4) (hx : NdAt d P w c4 x) : RowAt d P w (cs ++ c4) (vs ++ [x]) := by
  refine ⟨by rw [List.length_append, List.length_append, h.1, h4]; simp; omega, fun j y hj => ?_⟩
  rcases Nat.lt_or_ge j vs.length with hlt | hge
  · rw [List.getElem?_append_left hlt] at hj
    have h1 := h.1
    rw [List.drop_append_of_le_length (by omega), List.take_append_of_le_length (by rw [List.length_drop]; omega)]
    exact h.2 j y hj
  · rw [List.getElem?_append_right hge] at hj
    have hj0 : j = vs.length := by
      have := (List.getElem?_eq_some_iff.1 hj).1
      simp at this
      omega
    subst hj0
    rw [Nat.sub_self] at hj
    cases hj
    rw [← h.1, List.drop_left, List.take_of_length_le (by omega)]
    exact hx
/-- A row that is owned reads as the parts of a value. -/
theorem NdAt.row {d base n : Nat} {P : Nat → Prop} {w : World} {v : Value} {cs : List Value} {vs : List Nd} (kd : Int) (ho : w.ownsRow base 38 4 v n cs) (hn : vs.length = n) (h : RowAt d P w cs vs) (hP : ∀ b, v.ownBlock = some b → P b) :
    NdAt (d + 1) P w [.int .i64 kd, .string ⟨#[]⟩, v, .slice none 0 0] (.mk kd [] vs []) := by
  subst hn
  rcases ho.2 with ⟨h1, h2⟩ | ⟨g, cap, cur, rfl, _⟩
  · have : vs = [] := List.eq_nil_of_length_eq_zero h2
    subst this
    subst h1
    exact ⟨none, 0, _, rfl, ⟨none, 0, rfl, .inl rfl⟩, .inl rfl⟩
  · refine ⟨some ⟨g, 0, none⟩, cap, _, rfl, ⟨none, 0, rfl, .inl rfl⟩, .inr ⟨_, rfl, hP g rfl, fun j x hj => ⟨(cs.drop (4 * j)).take 4, ?_, fun i u hu => ?_, h.2 j x hj⟩⟩⟩
    · have h1 := h.1
      have h2 := (List.getElem?_eq_some_iff.1 hj).1
      rw [List.length_take, List.length_drop]
      omega
    · rw [List.getElem?_take] at hu
      split at hu
      · rw [List.getElem?_drop] at hu
        exact World.ownsRow.cells ho (g := g) rfl _ _ hu
      · cases hu

/-- The value that is made, in its block. -/
structure OutAt (o : Nat) (kd : Int) (v : Value) (w : World) : Prop where
  c0 : w.cell? ⟨o, 0, none⟩ = some (.int .i64 kd)
  c1 : w.cell? ⟨o, 1, none⟩ = some (.string ⟨#[]⟩)
  c2 : w.cell? ⟨o, 2, none⟩ = some v
  c3 : w.cell? ⟨o, 3, none⟩ = some (.slice none 0 0)
  f2 : w.frozen? ⟨o, 2, none⟩ = false
theorem OutAt.of {o : Nat} {kd : Int} {v : Value} {w w' : World} (h : OutAt o kd v w) (hb : w'.heap[o]? = w.heap[o]?) : OutAt o kd v w' :=
  ⟨(World.cell?_of_block (w := w) hb).trans h.c0, (World.cell?_of_block (w := w) hb).trans h.c1, (World.cell?_of_block (w := w) hb).trans h.c2, (World.cell?_of_block (w := w) hb).trans h.c3, (World.frozen?_of_block (w := w) hb).trans h.f2⟩
theorem OutAt.lt {o : Nat} {kd : Int} {v : Value} {w : World} (h : OutAt o kd v w) : o < w.heap.size := cell_lt h.c0
theorem OutAt.put {o : Nat} {kd : Int} {v : Value} {w : World} (h : OutAt o kd v w) (v' : Value) : OutAt o kd v' (w.setCell ⟨o, 2, none⟩ v') where
  c0 := (World.cell?_setCell_other w _ _ _ (by simp)).trans h.c0
  c1 := (World.cell?_setCell_other w _ _ _ (by simp)).trans h.c1
  c2 := World.cell?_setCell_same w _ _ h.c2
  c3 := (World.cell?_setCell_other w _ _ _ (by simp)).trans h.c3
  f2 := by rw [World.frozen?_setCell]; exact h.f2

/-- The parts that have been read. -/
def RowS (d o : Nat) (v : Value) (n : Nat) (cs : List Value) (Q : List Nd → Prop) (w : World) : Prop :=
  ∃ (vs : List Nd) (P : Nat → Prop), vs.length = n ∧ RowAt d P w cs vs ∧ (∀ b, P b → o < b ∧ b < w.heap.size ∧ v.ownBlock ≠ some b) ∧ Q vs
/-- A list under way, in a state. -/
structure UL (d o : Nat) (kd : Int) (v : Value) (n : Nat) (cs : List Value) (Q : List Nd → Prop) (w : World) (s : Int) : Prop where
  out : OutAt o kd v w
  own : w.ownsRow (o + 1) 38 4 v n cs
  row : s = 0 → RowS d o v n cs Q w
theorem UL.gr {d o : Nat} {kd : Int} {v : Value} {n : Nat} {cs : List Value} {Q : List Nd → Prop} {w w' : World} {s : Int} {pb : Nat} (h : UL d o kd v n cs Q w s) (hg : Gr w w' pb) (hp : pb < o) : UL d o kd v n cs Q w' s where
  out := h.out.of (hg.block o h.out.lt fun e => by cases e; omega)
  own := World.ownsRow.kept h.own hg (by
    rcases hv : v.ownBlock with _ | k
    · exact .inl rfl
    · refine .inr fun e => ?_
      have h1 := (World.ownsRow.lt h.own k hv).1
      cases e
      omega)
  row := fun hs => by
    obtain ⟨vs, P, h1, h2, h3, h4⟩ := h.row hs
    exact ⟨vs, P, h1, h2.frame (fun b hb => hg.block b (h3 b hb).2.1 fun e => by have := (h3 b hb).1; cases e; omega) fun _ h => h, fun b hb => ⟨(h3 b hb).1, Nat.lt_of_lt_of_le (h3 b hb).2.1 hg.size, (h3 b hb).2.2⟩, h4⟩
theorem UL.next {d o : Nat} {kd : Int} {v : Value} {n : Nat} {cs : List Value} {Q Q' : List Nd → Prop} {w : World} {s s' : Int} (h : UL d o kd v n cs Q w s) (hq : s' = 0 → s = 0 ∧ ∀ vs, Q vs → Q' vs) : UL d o kd v n cs Q' w s' :=
  ⟨h.out, h.own, fun hs => by
    obtain ⟨vs, P, h1, h2, h3, h4⟩ := h.row (hq hs).1
    exact ⟨vs, P, h1, h2, h3, (hq hs).2 vs h4⟩⟩
theorem UL.form {d o : Nat} {kd : Int} {v : Value} {n : Nat} {cs : List Value} {Q : List Nd → Prop} {w : World} {s : Int} (h : UL d o kd v n cs Q w s) : ∃ p c, v = .slice p n c := by
  rcases h.own.2 with ⟨h1, h2⟩ | ⟨g, cap, cur, h1, _⟩
  · exact ⟨none, 0, by rw [h1, h2]⟩
  · exact ⟨_, _, h1⟩
/-- A list that has just been made. -/
theorem UL.made {d o : Nat} {kd : Int} {Q : List Nd → Prop} {w : World} {s : Int} (h : OutAt o kd (.slice none 0 0) w) (hq : Q []) : UL d o kd (.slice none 0 0) 0 [] Q w s :=
  ⟨h, World.ownsRow_nil _ _ _ _, fun _ => ⟨[], fun _ => False, rfl, RowAt.nil _ _ _, fun _ h => h.elim, hq⟩⟩
/-- .. behind the append of a value. -/
theorem UL.app {d o n H : Nat} {kd : Int} {p : Option Addr} {c : Nat} {cs c4 : List Value} {Q Q' : List Nd → Prop} {w3 w4 : World} {s s' : Int} {ob : Obj} (h : UL d o kd (.slice p n c) n cs Q w3 s) (g cap : Nat)
    (h4 : c4.length = 4) (ho : w4.ownsRow (o + 1) 38 4 (.slice (some ⟨g, 0, none⟩) (n + 1) cap) (n + 1) (cs ++ c4)) (hg : (w3.alloc ob).grownBy w4 (Value.ownBlock (.slice p n c)))
    (hgl : Value.ownBlock (.slice p n c) = some g ∨ g = H) (hH : H = (w3.alloc ob).heap.size)
    (hx : s' = 0 → s = 0 ∧ ∃ x, (∃ P : Nat → Prop, (∀ b, P b → o < b ∧ b < w3.heap.size ∧ Value.ownBlock (.slice p n c) ≠ some b) ∧ NdAt d P w3 c4 x) ∧ ∀ vs, Q vs → Q' (vs ++ [x])) :
    UL d o kd (.slice (some ⟨g, 0, none⟩) (n + 1) cap) (n + 1) (cs ++ c4) Q' (w4.setCell ⟨o, 2, none⟩ (.slice (some ⟨g, 0, none⟩) (n + 1) cap)) s' := by
  have ho3 : o < w3.heap.size := h.out.lt
  have hsz : (w3.alloc ob).heap.size = w3.heap.size + 1 := by
    show (w3.heap.push ob).size = _
    simp
  have hold : ∀ b, b < w3.heap.size → (w3.alloc ob).heap[b]? = w3.heap[b]? := fun b hb => (World.grownBy_alloc w3 ob none).block b hb (by simp)
  have hne : some o ≠ Value.ownBlock (.slice p n c) := fun e => by
    have := (World.ownsRow.lt h.own o e.symm).1
    omega
  have hgo : o < g := by
    rcases hgl with e | e
    · have := (World.ownsRow.lt h.own g e).1
      omega
    · omega
  have hsz4 := hg.size
  have hgo2 : Value.ownBlock (.slice (some ⟨g, 0, none⟩) (n + 1) cap) ≠ some o := fun e => by
    have e2 : g = o := by simpa [Value.ownBlock] using e
    omega
  refine ⟨(h.out.of (w' := w4) ((hg.block o (by omega) hne).trans (hold o ho3))).put _, ?_, fun hs => ?_⟩
  · exact World.ownsRow.kept ho (row := some o) ⟨rfl, rfl, rfl, by simp [World.setCell], fun k _ hne => Below.heap_setCell w4 _ _ k (fun e => hne (by rw [e]))⟩ (.inr hgo2)
  · obtain ⟨hs0, x, ⟨P3, hP3, hx3⟩, hqq⟩ := hx hs
    obtain ⟨vs, P, h1, h2, h3, hq⟩ := h.row hs0
    have hfr : ∀ b, (P b ∨ P3 b) → o < b ∧ b < w3.heap.size ∧ Value.ownBlock (.slice p n c) ≠ some b := fun b hb => hb.elim (h3 b) (hP3 b)
    have hbl : ∀ b, (P b ∨ P3 b) → (w4.setCell ⟨o, 2, none⟩ (.slice (some ⟨g, 0, none⟩) (n + 1) cap)).heap[b]? = w3.heap[b]? := fun b hb => by
      obtain ⟨g1, g2, g3⟩ := hfr b hb
      rw [Below.heap_setCell _ _ _ _ (by show b ≠ o; omega)]
      exact (hg.block b (by omega) (fun e => g3 e.symm)).trans (hold b g2)
    refine ⟨vs ++ [x], fun b => P b ∨ P3 b, by rw [List.length_append, h1]; rfl, RowAt.app (h2.frame (fun b hb => hbl b (.inl hb)) fun _ hb => .inl hb) h4 (hx3.frame (fun b hb => hbl b (.inr hb)) fun _ hb => .inr hb), fun b hb => ?_, hqq vs hq⟩
    obtain ⟨g1, g2, g3⟩ := hfr b hb
    refine ⟨g1, ?_, fun e => ?_⟩
    · have : (w4.setCell ⟨o, 2, none⟩ (.slice (some ⟨g, 0, none⟩) (n + 1) cap)).heap.size = w4.heap.size := by simp [World.setCell]
      omega
    · have eg : g = b := by simpa [Value.ownBlock] using e
      subst eg
      rcases hgl with e2 | e2
      · exact g3 e2
      · omega
/-- What is handed back at the end. -/
theorem UL.tree {d o n : Nat} {kd : Int} {p : Option Addr} {c : Nat} {cs : List Value} {Q : List Nd → Prop} {w : World} {B : List UInt8} {k j : Nat} (h : UL d o kd (.slice p n c) n cs Q w 0) (hq : ∀ vs, Q vs → ValR B (d + 1) k j (.mk kd [] vs [])) :
    ∃ v : Nd, ValR B (d + 1) k j v ∧ ∃ P : Nat → Prop, (∀ b, P b → o ≤ b ∧ b < w.heap.size) ∧ NdAt (d + 1) P w [.int .i64 kd, .string ⟨#[]⟩, .slice p n c, .slice none 0 0] v := by
  obtain ⟨vs, P, h1, h2, h3, hv⟩ := h.row rfl
  refine ⟨_, hq vs hv, fun b => P b ∨ Value.ownBlock (.slice p n c) = some b, fun b hb => ?_, NdAt.row kd h.own h1 (h2.frame (fun _ _ => rfl) fun _ hb => .inl hb) fun b hb => .inr hb⟩
  rcases hb with hb | hb
  · have := h3 b hb
    omega
  · have := World.ownsRow.lt h.own b hb
    omega

/-- What has been read of a list, at the head of its loop: at the closing bracket, or at a value. -/
def LiRel (B : List UInt8) (V : Nat → Nat → Nd → Prop) (k i : Nat) (vs : List Nd) : Prop :=
  (pk B i = 93 ∧ ItR B V k (i + 1) vs ∧ vs.length ≤ i + 1) ∨ ((∀ j us, ItR B V i j us → ItR B V k j (vs ++ us)) ∧ vs.length ≤ i)
/-- .. behind a value. -/
def LiMid (B : List UInt8) (V : Nat → Nat → Nd → Prop) (k j : Nat) (vs : List Nd) : Prop :=
  ∀ o, Sp B j o → j ≤ o → (pk B o = 44 → LiRel B V k (o + 1) vs) ∧ (pk B o = 93 → LiRel B V k o vs)
theorem sp_same {B : List UInt8} {i m : Nat} (h : Sp B i m) (h93 : pk B i = 93) : m = i := by
  have hs : skp B i = i := skp_stop (by rw [h93]; decide)
  have hl : lnN B i = 0 := by unfold lnN; rw [h93]; simp
  have hc : ∀ m, CmO B (skp B i) m → m = i := fun m hm => by
    rw [hs] at hm
    rcases hm with ⟨h1, _⟩ | ⟨_, h1⟩
    · rw [h93] at h1; cases h1
    · exact h1
  cases h with
  | stop h1 _ => exact hc _ h1
  | more h1 h2 _ =>
    have := hc _ h1
    subst this
    exact absurd hl h2
theorem LiRel.le {B : List UInt8} {V : Nat → Nat → Nd → Prop} {k i : Nat} {vs : List Nd} (h : LiRel B V k i vs) : vs.length ≤ i + 1 := by
  rcases h with ⟨_, _, h⟩ | ⟨_, h⟩ <;> omega
theorem LiRel.first (B : List UInt8) (V : Nat → Nat → Nd → Prop) (k : Nat) : LiRel B V k k [] := .inr ⟨fun _ _ h => h, Nat.zero_le _⟩
theorem LiRel.close {B : List UInt8} {V : Nat → Nat → Nd → Prop} {k i m : Nat} {vs : List Nd} (h : LiRel B V k i vs) (hs : Sp B i m) (hm : pk B m = 93) : ItR B V k (m + 1) vs := by
  rcases h with ⟨h1, h2, _⟩ | ⟨h1, _⟩
  · rw [sp_same hs h1]
    exact h2
  · have := h1 _ _ (.close hs hm)
    rwa [List.append_nil] at this
theorem LiRel.item {B : List UInt8} {V : Nat → Nat → Nd → Prop} {k i m n : Nat} {v : Nd} {vs : List Nd} (h : LiRel B V k i vs) (hs : Sp B i m) (hm : pk B m ≠ 93) (hv : V m n v) (hle : i ≤ n) : LiMid B V k n (vs ++ [v]) := by
  rcases h with ⟨h1, h2, _⟩ | ⟨h1, hl⟩
  · rw [sp_same hs h1] at hm
    exact absurd h1 hm
  · intro o ho hno
    exact ⟨fun h44 => .inr ⟨fun j us hj => by rw [List.append_assoc]; exact h1 _ _ (.comma hs hm hv ho h44 hj), by simp; omega⟩,
      fun h93 => .inl ⟨h93, h1 _ _ (.last hs hm hv ho h93), by simp; omega⟩⟩
/-- What a list's loop lowers. -/
def msrL (B : List UInt8) (pb : Nat) (w : World) : Nat := 2 * msr B pb w + (if pk B (intOf ((w.cell? ⟨pb, 1, none⟩).getD undef)).toNat = 93 then 0 else 1)
theorem SP.msrL {w : World} {pb : Nat} {a : Addr} {C : Nat} {B : List UInt8} {k : Nat} {st : Int} (h : SP w pb a C B k st) : msrL B pb w = 2 * (2 * (B.length - k) + (if st = 0 then 1 else 0)) + (if pk B k = 93 then 0 else 1) := by
  unfold YtalmpddmhakdmaaGreat.msrL
  rw [h.msr, h.at']
  rfl
/-- What has been read of a table, at the head of its loop. -/
def TbRel (B : List UInt8) (V : Nat → Nat → Nd → Prop) (k i : Nat) (vs : List Nd) : Prop :=
  (∀ j us, PrR B V i j us → PrR B V k j (vs ++ us)) ∧ vs.length ≤ i
/-- .. behind a value. -/
def TbMid (B : List UInt8) (V : Nat → Nat → Nd → Prop) (k n : Nat) (vs : List Nd) : Prop :=
  (pk B (skp B n) = 44 → TbRel B V k (skp B n + 1) vs) ∧ (pk B (skp B n) = 125 → PrR B V k (skp B n + 1) vs)
theorem TbRel.first (B : List UInt8) (V : Nat → Nat → Nd → Prop) (k : Nat) : TbRel B V k k [] := ⟨fun _ _ h => h, Nat.zero_le _⟩
theorem TbRel.item {B : List UInt8} {V : Nat → Nat → Nd → Prop} {k i m n : Nat} {ks : List (List UInt8)} {v : Nd} {vs : List Nd} (h : TbRel B V k i vs) (hk : KyR B i m ks) (hm : pk B m = 61) (hv : V (skp B (m + 1)) n v) (hle : i ≤ skp B n) : TbMid B V k n (vs ++ [v.wk ks]) :=
  ⟨fun h44 => ⟨fun j us hj => by rw [List.append_assoc]; exact h.1 _ _ (.comma hk hm hv h44 hj), by have := h.2; simp; omega⟩, fun h125 => h.1 _ _ (.last hk hm hv h125)⟩
/-- The keys are laid beside a value. -/
theorem NdAt.keyed {P : Nat → Prop} {w : World} : ∀ {d : Nat} {c0 c1 c2 c3 kv : Value} {x : Nd} {ks : List (List UInt8)}, NdAt d P w [c0, c1, c2, c3] x → TxsAt P w kv ks → NdAt d P w [c0, c1, c2, kv] (x.wk ks)
  | 0, _, _, _, _, _, _, _, h, _ => h.elim
  | d + 1, _, _, _, _, _, .mk kind text items keys, ks, h, hk => by
    obtain ⟨p, c, kv0, hc, _, hi⟩ := h
    cases hc
    exact ⟨p, c, _, rfl, hk, hi⟩
end Go.Proofs.YtalmpddmhakdmaaGreat

/-
  The walk of a function of the laws: two lists of keys are the same (23). Conditions: both read as the same texts.
-/
namespace Go.Proofs.YtalmpddmhakdmaaGreat
open Go.RowKit

set_option maxRecDepth 100000 in
set_option maxHeartbeats 4000000 in
theorem keys_are {w : World} {P Q : Nat → Prop} {va vb : Value} {ks : List (List UInt8)} (ha : TxsAt P w va ks) (hb : TxsAt Q w vb ks) (hl : ks.length ≤ 300000) :
    Calls Tryz.prog 23 #[va, vb] w fun e w' => e = .returned (.bool true) ∧ ∃ q, w' = w.drewN q := by
  obtain ⟨pa, ca, rfl, ha⟩ := ha
  obtain ⟨pb, cb, rfl, hb⟩ := hb
  have HA := Lib.hid ha
  have HB := Lib.hid hb
  obtain ⟨n, hn⟩ : ∃ n, ks.length = n := ⟨_, rfl⟩
  rw [hn] at hl ⊢
  have HN := Lib.hid hn
  clear ha hb hn
  go_enter Tryz.func23, Tryz.ntmps23
  go_wp2_with fail
  go_loopw [13] (fun v wr => ∃ k q : Nat, v = .int .i64 k ∧ k ≤ n ∧ wr = w.drewN q) (fun v _ => n - (intOf v).toNat)
  case atStart => exact ⟨0, 0, by simp, Nat.zero_le _, rfl⟩
  case round =>
    obtain ⟨k, q, rfl, hk, rfl⟩ := hrel
    by_cases hkn : k < n
    · obtain ⟨t, ht⟩ : ∃ t, ks[k]? = some t := ⟨_, List.getElem?_eq_getElem (by rw [HN.out]; exact hkn)⟩
      have hne : ks ≠ [] := by rintro rfl; cases ht
      obtain ⟨a, rfl, _, ha⟩ := HA.out.resolve_left hne
      obtain ⟨b, rfl, _, hb⟩ := HB.out.resolve_left hne
      have ca0 : w.cell? (a.add k) = some (.string ⟨t.toArray⟩) := ha k t ht
      have cb0 : w.cell? (b.add k) = some (.string ⟨t.toArray⟩) := hb k t ht
      have hlt : (k : Int) < (n : Int) := by omega
      clear ha hb ht hne
      go_wp2_with fail
      go_quiet (fail)
      go_wp2_with fail
      go_roundw
      case rel => exact ⟨k + 1, _, by go_num, by omega, rfl⟩
      case measure => simp [intOf]; omega
    · go_wp2_with fail
      go_ret
      exact ⟨rfl, q, rfl⟩
end Go.Proofs.YtalmpddmhakdmaaGreat

/-
  The walk of a function of the spec's parser: a value; by the contracts of lists and tables. Conditions: the parser lies in memory as stated.
-/
namespace Go.Proofs.YtalmpddmhakdmaaGreat
open Go.RowKit

set_option maxRecDepth 100000 in
set_option maxHeartbeats 4000000 in
theorem value_zero : RdC 12 0 (fun _ _ => True) := by
  intro w pb a C B k st z hS hk hB hg hz
  have hin := hS.in_heap
  have HS := Lib.hid (fun (o : Obj) (q : Nat) => (hS.alloc o).drewN q)
  have HG := Lib.hid (fun (o : Obj) (q : Nat) => ((Gr.refl w pb).alloc o).drewN q)
  have HB := Lib.hid hB
  have hl := hS.len
  have HZ := Lib.hid hz
  have hz50 : 50 < z := by omega
  clear hS hB hg hz
  go_enter Tryz.func12, Tryz.ntmps12
  go_wp2_with fail
  refine (open_any (HS.out _ 0)).mono ?_
  rintro e w3 ⟨rfl, hS3, hG3⟩
  have HS3 := Lib.hid hS3
  have HG3 := Lib.hid ((HG.out _ _).trans hG3)
  have hsz3 := hG3.size
  obtain ⟨⟨c0, hc0⟩, ⟨c1, hc1⟩, ⟨c2, hc2⟩, ⟨c3, hc3⟩, hcf⟩ := Res.of _ _ _ _ _ hG3.ofDrewN hin.1
  clear hS3 hG3
  go_wp2_with fail
  exact bodyPost_ret (v := .agg #[.int .i64 0, .string ⟨#[]⟩, .slice none 0 0, .slice none 0 0]) (by simp [results, Tryz.results12, go_sem, hc0, hc1, hc2, hc3]) rfl (VLPost.mk 0 ⟨#[]⟩ none 0 0 none 0 0 rfl ((SPost.bad HS3.out HG3.out hk (by decide)).res hin _ _ _ _))

set_option maxRecDepth 100000 in
set_option maxHeartbeats 4000000 in
theorem value_more (d : Nat) (hL : RdC 30 (d + 1) (fun B k => pk B k = 91)) (hT : RdC 31 (d + 1) (fun B k => pk B k = 123)) : RdC 12 (d + 1) (fun _ _ => True) := by
  intro w pb a C B k st z hS hk hB hg hz
  have hin := hS.in_heap
  have HS := Lib.hid (fun (o : Obj) (q : Nat) => (hS.alloc o).drewN q)
  have HG := Lib.hid (fun (o : Obj) (q : Nat) => ((Gr.refl w pb).alloc o).drewN q)
  have HB := Lib.hid hB
  have hl := hS.len
  have HZ := Lib.hid hz
  have hz50 : z ≤ 50 := by omega
  clear hS hB hg hz
  obtain ⟨c, hc⟩ : ∃ c, pk B k = c := ⟨_, rfl⟩
  have HP := Lib.hid (fun (W : World) (hW : SP W pb a C B k st) => peek_any hW 0 k (by omega) (by omega))
  rw [hc] at HP
  have HC := Lib.hid hc
  clear hc
  go_enter Tryz.func12, Tryz.ntmps12
  go_wp2_with fail
  refine (HP.out _ (HS.out _ 0)).mono ?_
  rintro e w' ⟨rfl, m0, rfl⟩
  obtain ⟨b1, hb1⟩ : ∃ b, threeB 34 B k = b := ⟨_, rfl⟩
  have HT1 := Lib.hid (fun (W : World) (hW : SP W pb a C B k st) => has3 hW 34 (by decide) b1 hb1)
  have HB1 := Lib.hid hb1
  clear hb1
  go_wp2_with fail
  with_reducible refine (HT1.out _ (HS.out _ _)).mono ?_
  rintro e w' ⟨rfl, m1, rfl⟩
  cases b1 with
  | true =>
    have h3 := threeB_iff.1 HB1.out
    have hc34 : c = 34 := HC.out.symm.trans h3.1
    have hk3 : k + 3 ≤ B.length := by have := pk_in (B := B) (k := k + 2) (by rw [h3.2.2]; decide); omega
    have H3 := Lib.hid h3
    subst hc34
    clear h3
    have HQQ := Lib.hid (fun (W : World) (hW : SP W pb a C B k st) => show Calls Tryz.prog 28 #[.pointer (some ⟨pb, 0, none⟩), .int .u8 34] W (TPost pb a C B k st W (LnR 34 B (k + 3 + lnN B (k + 3)))) from lines_any hW hk3 34 (.inl rfl))
    go_wp2_with fail
    with_reducible refine (HQQ.out _ (HS.out _ _)).mono ?_
    rintro e w3 ⟨s, rfl, j, s3, hS3, hG3, hj, hj2, hr3⟩
    have HR3 := Lib.hid hr3
    clear hr3
    have HS3 := Lib.hid hS3
    have HG3 := Lib.hid ((HG.out _ _).trans hG3)
    have hsz3 := hG3.size
    obtain ⟨⟨c0, hc0⟩, ⟨c1, hc1⟩, ⟨c2, hc2⟩, ⟨c3, hc3⟩, hcf⟩ := Res.of _ _ _ _ _ hG3.ofDrewN hin.1
    clear hS3 hG3
    go_wp2_with fail
    exact bodyPost_ret (v := .agg #[.int .i64 0, .string s, .slice none 0 0, .slice none 0 0]) (by simp [results, Tryz.results12, go_sem, hc0, hc1, hc2, hc3]) rfl (VLPost.mk 0 s none 0 0 none 0 0 rfl ((SPost.mk (R := fun j => ScR B k j (.mk 0 s.toList [] [])) HS3.out HG3.out (by omega) hj2 fun h => ⟨(HR3.out h).1, .lines (q := 34) (.inl rfl) H3.out (HR3.out h).2⟩).res2 hin _ _ _ _ fun j h => leaf_res h))
  | false =>
    obtain ⟨b2, hb2⟩ : ∃ b, threeB 39 B k = b := ⟨_, rfl⟩
    have HT2 := Lib.hid (fun (W : World) (hW : SP W pb a C B k st) => has3 hW 39 (by decide) b2 hb2)
    have HB2 := Lib.hid hb2
    clear hb2
    go_wp2_with fail
    with_reducible refine (HT2.out _ (HS.out _ _)).mono ?_
    rintro e w' ⟨rfl, m2, rfl⟩
    cases b2 with
    | true =>
      have h3 := threeB_iff.1 HB2.out
      have hc39 : c = 39 := HC.out.symm.trans h3.1
      have hk3 : k + 3 ≤ B.length := by have := pk_in (B := B) (k := k + 2) (by rw [h3.2.2]; decide); omega
      have H3 := Lib.hid h3
      subst hc39
      clear h3
      have HQQ := Lib.hid (fun (W : World) (hW : SP W pb a C B k st) => show Calls Tryz.prog 28 #[.pointer (some ⟨pb, 0, none⟩), .int .u8 39] W (TPost pb a C B k st W (LnR 39 B (k + 3 + lnN B (k + 3)))) from lines_any hW hk3 39 (.inr rfl))
      go_wp2_with fail
      with_reducible refine (HQQ.out _ (HS.out _ _)).mono ?_
      rintro e w3 ⟨s, rfl, j, s3, hS3, hG3, hj, hj2, hr3⟩
      have HR3 := Lib.hid hr3
      clear hr3
      have HS3 := Lib.hid hS3
      have HG3 := Lib.hid ((HG.out _ _).trans hG3)
      have hsz3 := hG3.size
      obtain ⟨⟨c0, hc0⟩, ⟨c1, hc1⟩, ⟨c2, hc2⟩, ⟨c3, hc3⟩, hcf⟩ := Res.of _ _ _ _ _ hG3.ofDrewN hin.1
      clear hS3 hG3
      go_wp2_with fail
      exact bodyPost_ret (v := .agg #[.int .i64 0, .string s, .slice none 0 0, .slice none 0 0]) (by simp [results, Tryz.results12, go_sem, hc0, hc1, hc2, hc3]) rfl (VLPost.mk 0 s none 0 0 none 0 0 rfl ((SPost.mk (R := fun j => ScR B k j (.mk 0 s.toList [] [])) HS3.out HG3.out (by omega) hj2 fun h => ⟨(HR3.out h).1, .lines (q := 39) (.inr rfl) H3.out (HR3.out h).2⟩).res2 hin _ _ _ _ fun j h => leaf_res h))
    | false =>
      by_cases h34 : c = 34
      · have hkl : k < B.length := pk_in (by rw [HC.out, h34]; decide)
        have H3 := Lib.hid (show ¬ three 34 B k from fun h => by have := threeB_iff.2 h; rw [HB1.out] at this; cases this)
        have HC2 := Lib.hid (HC.out.trans h34)
        subst h34
        have HQQ := Lib.hid (fun (W : World) (hW : SP W pb a C B k st) => show Calls Tryz.prog 25 #[.pointer (some ⟨pb, 0, none⟩), .int .u8 34] W (TPost pb a C B k st W (TxR 34 B (k + 1))) from text_any hW hkl 34)
        go_wp2_with fail
        with_reducible refine (HQQ.out _ (HS.out _ _)).mono ?_
        rintro e w3 ⟨s, rfl, j, s3, hS3, hG3, hj, hj2, hr3⟩
        have HR3 := Lib.hid hr3
        clear hr3
        have HS3 := Lib.hid hS3
        have HG3 := Lib.hid ((HG.out _ _).trans hG3)
        have hsz3 := hG3.size
        obtain ⟨⟨c0, hc0⟩, ⟨c1, hc1⟩, ⟨c2, hc2⟩, ⟨c3, hc3⟩, hcf⟩ := Res.of _ _ _ _ _ hG3.ofDrewN hin.1
        clear hS3 hG3
        go_wp2_with fail
        exact bodyPost_ret (v := .agg #[.int .i64 0, .string s, .slice none 0 0, .slice none 0 0]) (by simp [results, Tryz.results12, go_sem, hc0, hc1, hc2, hc3]) rfl (VLPost.mk 0 s none 0 0 none 0 0 rfl ((SPost.mk (R := fun j => ScR B k j (.mk 0 s.toList [] [])) HS3.out HG3.out (by omega) hj2 fun h => ⟨(HR3.out h).1, .text (q := 34) (.inl rfl) HC2.out H3.out (HR3.out h).2⟩).res2 hin _ _ _ _ fun j h => leaf_res h))
      · have t34 := byte_ne h34 (n := 34) rfl
        by_cases h39 : c = 39
        · have hkl : k < B.length := pk_in (by rw [HC.out, h39]; decide)
          have H3 := Lib.hid (show ¬ three 39 B k from fun h => by have := threeB_iff.2 h; rw [HB2.out] at this; cases this)
          have HC2 := Lib.hid (HC.out.trans h39)
          subst h39
          clear h34 t34
          have HQQ := Lib.hid (fun (W : World) (hW : SP W pb a C B k st) => show Calls Tryz.prog 25 #[.pointer (some ⟨pb, 0, none⟩), .int .u8 39] W (TPost pb a C B k st W (TxR 39 B (k + 1))) from text_any hW hkl 39)
          go_wp2_with fail
          with_reducible refine (HQQ.out _ (HS.out _ _)).mono ?_
          rintro e w3 ⟨s, rfl, j, s3, hS3, hG3, hj, hj2, hr3⟩
          have HR3 := Lib.hid hr3
          clear hr3
          have HS3 := Lib.hid hS3
          have HG3 := Lib.hid ((HG.out _ _).trans hG3)
          have hsz3 := hG3.size
          obtain ⟨⟨c0, hc0⟩, ⟨c1, hc1⟩, ⟨c2, hc2⟩, ⟨c3, hc3⟩, hcf⟩ := Res.of _ _ _ _ _ hG3.ofDrewN hin.1
          clear hS3 hG3
          go_wp2_with fail
          exact bodyPost_ret (v := .agg #[.int .i64 0, .string s, .slice none 0 0, .slice none 0 0]) (by simp [results, Tryz.results12, go_sem, hc0, hc1, hc2, hc3]) rfl (VLPost.mk 0 s none 0 0 none 0 0 rfl ((SPost.mk (R := fun j => ScR B k j (.mk 0 s.toList [] [])) HS3.out HG3.out (by omega) hj2 fun h => ⟨(HR3.out h).1, .text (q := 39) (.inr rfl) HC2.out H3.out (HR3.out h).2⟩).res2 hin _ _ _ _ fun j h => leaf_res h))
        · have t39 := byte_ne h39 (n := 39) rfl
          clear h34 h39
          obtain ⟨b3, hb3⟩ : ∃ b, hasB B k ⟨#[116, 114, 117, 101]⟩ = b := ⟨_, rfl⟩
          have hx3 := fun (W : World) (hW : SP W pb a C B k st) => has_in hW ⟨#[116, 114, 117, 101]⟩ (by decide) (by decide)
          rw [hb3] at hx3
          have HX3 := Lib.hid hx3
          have HB3 := Lib.hid hb3
          clear hb3 hx3
          go_wp2_with fail
          with_reducible refine (HX3.out _ (HS.out _ _)).mono ?_
          rintro e w' ⟨rfl, m3, rfl⟩
          cases b3 with
          | true =>
            have hg := hasB_get HB3.out
            have hg1 : k + 4 ≤ B.length := hg.1
            have G := Lib.hid hg
            clear hg
            obtain ⟨s, hs⟩ : ∃ s : ByteArray, s = ⟨(cutB B k 4).toArray⟩ := ⟨_, rfl⟩
            have hrw := fun (W : World) (hW : SP W pb a C B k st) => raw_z hW 3 4 4 (by omega) (by omega) (by omega) s hs
            have HRW := Lib.hid hrw
            have hsl : s.toList = cutB B k 4 := by rw [hs, ByteArray.toList_mk]
            have hres : ScR B k (k + 4) (.mk 3 s.toList [] []) := by rw [hsl]; exact .yes (by have := G.out.2 0 (show 0 < 4 by decide); rwa [ByteArray.toList_mk] at this) (by have := G.out.2 1 (show 1 < 4 by decide); rwa [ByteArray.toList_mk] at this) (by have := G.out.2 2 (show 2 < 4 by decide); rwa [ByteArray.toList_mk] at this) (by have := G.out.2 3 (show 3 < 4 by decide); rwa [ByteArray.toList_mk] at this)
            have HRES := Lib.hid hres
            clear hs hrw hsl hres
            go_wp2_with fail
            with_reducible refine (HRW.out _ (HS.out _ _)).mono ?_
            rintro e w3 ⟨rfl, hS3, hG3⟩
            have HS3 := Lib.hid hS3
            have HG3 := Lib.hid ((HG.out _ _).trans hG3)
            have hsz3 := hG3.size
            obtain ⟨⟨c0, hc0⟩, ⟨c1, hc1⟩, ⟨c2, hc2⟩, ⟨c3, hc3⟩, hcf⟩ := Res.of _ _ _ _ _ hG3.ofDrewN hin.1
            clear hS3 hG3
            go_wp2_with fail
            exact bodyPost_ret (v := .agg #[.int .i64 3, .string s, .slice none 0 0, .slice none 0 0]) (by simp [results, Tryz.results12, go_sem, hc0, hc1, hc2, hc3]) rfl (VLPost.mk 3 s none 0 0 none 0 0 rfl ((SPost.mk (R := fun j => ScR B k j (.mk 3 s.toList [] [])) HS3.out HG3.out (by omega) (by omega) fun h => ⟨h, HRES.out⟩).res2 hin _ _ _ _ fun j h => leaf_res h))
          | false =>
            obtain ⟨b4, hb4⟩ : ∃ b, hasB B k ⟨#[102, 97, 108, 115, 101]⟩ = b := ⟨_, rfl⟩
            have hx4 := fun (W : World) (hW : SP W pb a C B k st) => has_in hW ⟨#[102, 97, 108, 115, 101]⟩ (by decide) (by decide)
            rw [hb4] at hx4
            have HX4 := Lib.hid hx4
            have HB4 := Lib.hid hb4
            clear hb4 hx4
            go_wp2_with fail
            with_reducible refine (HX4.out _ (HS.out _ _)).mono ?_
            rintro e w' ⟨rfl, m4, rfl⟩
            cases b4 with
            | true =>
              have hg := hasB_get HB4.out
              have hg1 : k + 5 ≤ B.length := hg.1
              have G := Lib.hid hg
              clear hg
              obtain ⟨s, hs⟩ : ∃ s : ByteArray, s = ⟨(cutB B k 5).toArray⟩ := ⟨_, rfl⟩
              have hrw := fun (W : World) (hW : SP W pb a C B k st) => raw_z hW 3 5 5 (by omega) (by omega) (by omega) s hs
              have HRW := Lib.hid hrw
              have hsl : s.toList = cutB B k 5 := by rw [hs, ByteArray.toList_mk]
              have hres : ScR B k (k + 5) (.mk 3 s.toList [] []) := by rw [hsl]; exact .no (by have := G.out.2 0 (show 0 < 5 by decide); rwa [ByteArray.toList_mk] at this) (by have := G.out.2 1 (show 1 < 5 by decide); rwa [ByteArray.toList_mk] at this) (by have := G.out.2 2 (show 2 < 5 by decide); rwa [ByteArray.toList_mk] at this) (by have := G.out.2 3 (show 3 < 5 by decide); rwa [ByteArray.toList_mk] at this) (by have := G.out.2 4 (show 4 < 5 by decide); rwa [ByteArray.toList_mk] at this)
              have HRES := Lib.hid hres
              clear hs hrw hsl hres
              go_wp2_with fail
              with_reducible refine (HRW.out _ (HS.out _ _)).mono ?_
              rintro e w3 ⟨rfl, hS3, hG3⟩
              have HS3 := Lib.hid hS3
              have HG3 := Lib.hid ((HG.out _ _).trans hG3)
              have hsz3 := hG3.size
              obtain ⟨⟨c0, hc0⟩, ⟨c1, hc1⟩, ⟨c2, hc2⟩, ⟨c3, hc3⟩, hcf⟩ := Res.of _ _ _ _ _ hG3.ofDrewN hin.1
              clear hS3 hG3
              go_wp2_with fail
              exact bodyPost_ret (v := .agg #[.int .i64 3, .string s, .slice none 0 0, .slice none 0 0]) (by simp [results, Tryz.results12, go_sem, hc0, hc1, hc2, hc3]) rfl (VLPost.mk 3 s none 0 0 none 0 0 rfl ((SPost.mk (R := fun j => ScR B k j (.mk 3 s.toList [] [])) HS3.out HG3.out (by omega) (by omega) fun h => ⟨h, HRES.out⟩).res2 hin _ _ _ _ fun j h => leaf_res h))
            | false =>
              by_cases h91 : c = 91
              · have t91 := byte_eq h91 (n := 91) rfl
                have HC2 := Lib.hid (HC.out.trans h91)
                clear h91
                have HQQ := Lib.hid (fun (W : World) (hW : SP W pb a C B k st) => hL W _ _ _ _ _ _ z hW hk HB.out HC2.out HZ.out)
                go_wp2_with fail
                with_reducible refine (HQQ.out _ (HS.out _ _)).mono ?_
                rintro e w3 ⟨kd, s, p1, n1, q1, p2, n2, q2, rfl, j, s3, hS3, hG3, hj, hj2, hr3⟩
                have HR3 := Lib.hid hr3
                clear hr3
                have HS3 := Lib.hid hS3
                have HG3 := Lib.hid ((HG.out _ _).trans hG3)
                have hsz3 := hG3.size
                obtain ⟨⟨c0, hc0⟩, ⟨c1, hc1⟩, ⟨c2, hc2⟩, ⟨c3, hc3⟩, hcf⟩ := Res.of _ _ _ _ _ hG3.ofDrewN hin.1
                clear hS3 hG3
                go_wp2_with fail
                exact bodyPost_ret (v := .agg #[.int .i64 kd, .string s, .slice p1 n1 q1, .slice p2 n2 q2]) (by simp [results, Tryz.results12, go_sem, hc0, hc1, hc2, hc3]) rfl (VLPost.mk kd s p1 n1 q1 p2 n2 q2 rfl ((SPost.mk HS3.out HG3.out hj hj2 fun h => ⟨(HR3.out h).1, (HR3.out h).2⟩).res2 hin _ _ _ _ fun j h => tree_res (by simp) _ _ _ _ h))
              · have t91 := byte_ne h91 (n := 91) rfl
                clear h91
                by_cases h123 : c = 123
                · have t123 := byte_eq h123 (n := 123) rfl
                  have HC2 := Lib.hid (HC.out.trans h123)
                  clear h123
                  have HQQ := Lib.hid (fun (W : World) (hW : SP W pb a C B k st) => hT W _ _ _ _ _ _ z hW hk HB.out HC2.out HZ.out)
                  go_wp2_with fail
                  with_reducible refine (HQQ.out _ (HS.out _ _)).mono ?_
                  rintro e w3 ⟨kd, s, p1, n1, q1, p2, n2, q2, rfl, j, s3, hS3, hG3, hj, hj2, hr3⟩
                  have HR3 := Lib.hid hr3
                  clear hr3
                  have HS3 := Lib.hid hS3
                  have HG3 := Lib.hid ((HG.out _ _).trans hG3)
                  have hsz3 := hG3.size
                  obtain ⟨⟨c0, hc0⟩, ⟨c1, hc1⟩, ⟨c2, hc2⟩, ⟨c3, hc3⟩, hcf⟩ := Res.of _ _ _ _ _ hG3.ofDrewN hin.1
                  clear hS3 hG3
                  go_wp2_with fail
                  exact bodyPost_ret (v := .agg #[.int .i64 kd, .string s, .slice p1 n1 q1, .slice p2 n2 q2]) (by simp [results, Tryz.results12, go_sem, hc0, hc1, hc2, hc3]) rfl (VLPost.mk kd s p1 n1 q1 p2 n2 q2 rfl ((SPost.mk HS3.out HG3.out hj hj2 fun h => ⟨(HR3.out h).1, (HR3.out h).2⟩).res2 hin _ _ _ _ fun j h => tree_res (by simp) _ _ _ _ h))
                · have t123 := byte_ne h123 (n := 123) rfl
                  clear h123
                  go_wp2_with fail
                  with_reducible refine (number_any (HS.out _ _) hk HB.out).mono ?_
                  rintro e w3 ⟨kd, t, rfl, j, s3, hS3, hG3, hj, hj2, hr3⟩
                  obtain ⟨s, hs⟩ : ∃ s : ByteArray, s = ⟨t.toArray⟩ := ⟨_, rfl⟩
                  have ht : t = s.toList := by rw [hs, ByteArray.toList_mk]
                  have HT := Lib.hid ht
                  have HR3 := Lib.hid hr3
                  unfold ndv
                  rw [← hs]
                  clear hr3 hs ht
                  have HS3 := Lib.hid hS3
                  have HG3 := Lib.hid ((HG.out _ _).trans hG3)
                  have hsz3 := hG3.size
                  obtain ⟨⟨c0, hc0⟩, ⟨c1, hc1⟩, ⟨c2, hc2⟩, ⟨c3, hc3⟩, hcf⟩ := Res.of _ _ _ _ _ hG3.ofDrewN hin.1
                  clear hS3 hG3
                  go_wp2_with fail
                  exact bodyPost_ret (v := .agg #[.int .i64 kd, .string s, .slice none 0 0, .slice none 0 0]) (by simp [results, Tryz.results12, go_sem, hc0, hc1, hc2, hc3]) rfl (VLPost.mk kd s none 0 0 none 0 0 rfl ((SPost.mk (R := fun j => ScR B k j (.mk kd s.toList [] [])) HS3.out HG3.out hj hj2 fun h => ⟨(HR3.out h).1, by
                    have h1 := ScR.num (HR3.out h).2.1
                    rw [Nat.add_sub_cancel' hj] at h1
                    have h2 := (HR3.out h).2.2
                    rw [HT.out] at h2
                    rw [h2]
                    exact h1⟩).res2 hin _ _ _ _ fun j h => leaf_res h))
end Go.Proofs.YtalmpddmhakdmaaGreat

/-
  The walk of a function of the spec's parser: a list; by the contract of its values. Conditions: the parser lies in memory as stated.
-/
namespace Go.Proofs.YtalmpddmhakdmaaGreat
open Go.RowKit

/-- What holds at the head of the loop. -/
def LiInv (d pb : Nat) (a : Addr) (C : Nat) (B : List UInt8) (k : Nat) (st : Int) (w wr : World) : Prop :=
  ∃ (i : Nat) (s1 : Int) (n : Nat) (p : Option Addr) (c : Nat) (cs : List Value), SP wr pb a C B i s1 ∧ Gr (w.alloc Z38) wr pb ∧ k < i ∧ i ≤ B.length ∧ (s1 = 0 → st = 0) ∧ UL d (w.heap.size + 1) 8 (.slice p n c) n cs (LiRel B (ValR B d) (k + 1) i) wr s1
theorem OutAt.fresh (W : World) (o : Nat) (hW : W.heap.size = o) (kd : Int) : OutAt o kd (.slice none 0 0) (W.alloc (.cells #[.int .i64 kd, .string ⟨#[]⟩, .slice none 0 0, .slice none 0 0] 38)) := by
  subst hW
  refine ⟨?_, ?_, ?_, ?_, ?_⟩
  · rw [cell_marked]; rfl
  · rw [cell_marked]; rfl
  · rw [cell_marked]; rfl
  · rw [cell_marked]; rfl
  · unfold World.frozen?
    rw [heap_alloc_new]
    rfl
theorem gr_start (w : World) (pb : Nat) (hp : pb < w.heap.size) (v : Value) (n : Nat) (t : TypeId) (cs : Array Value) (f : Nat × Nat) (O : Obj) : Gr (w.alloc (.cells cs t f)) (((w.setCell ⟨pb, n, none⟩ v).alloc (.cells cs t f)).alloc O) pb := by
  rw [← World.setCell_alloc_past (w := w) (.cells cs t f) pb n v hp]
  exact ((Gr.refl (w.alloc (.cells cs t f)) pb).setCell n v).alloc O
/-- Behind a list that has ended. -/
theorem li_end {d pb : Nat} {a : Addr} {C : Nat} {B : List UInt8} {k j : Nat} {st s : Int} {w w3 : World} {n : Nat} {p : Option Addr} {c : Nat} {cs : List Value} {Q : List Nd → Prop} {kd : Int}
    (hS : SP w3 pb a C B j s) (hG : Gr (w.alloc Z38) w3 pb) (hin : pb < w.heap.size ∧ (B ≠ [] → a.block < w.heap.size)) (hk : k ≤ j) (hj : j ≤ B.length) (hs : s = 0 → st = 0) (hU : UL d (w.heap.size + 1) kd (.slice p n c) n cs Q w3 s)
    (hq : s = 0 → ∀ vs, Q vs → ValR B (d + 1) k j (.mk kd [] vs [])) (e : Ending) (he : e = .returned (.agg #[.int .i64 kd, .string ⟨#[]⟩, .slice p n c, .slice none 0 0])) :
    VLPost (d + 1) pb a C B k st w e ((((w3.setCell ⟨w.heap.size, 0, none⟩ (.int .i64 kd)).setCell ⟨w.heap.size, 1, none⟩ (.string ⟨#[]⟩)).setCell ⟨w.heap.size, 2, none⟩ (.slice p n c)).setCell ⟨w.heap.size, 3, none⟩ (.slice none 0 0)) :=
  VLPost.mk kd ⟨#[]⟩ p n c none 0 0 he ((SPost.mk (R := fun j => ∃ v : Nd, ValR B (d + 1) k j v ∧ ∃ P : Nat → Prop, (∀ b, P b → w.heap.size + 1 ≤ b ∧ b < w3.heap.size) ∧ NdAt (d + 1) P w3 [.int .i64 kd, .string ⟨#[]⟩, .slice p n c, .slice none 0 0] v) hS hG.fromAlloc hk hj fun h => ⟨hs h, by
    subst h
    exact hU.tree (hq rfl)⟩).res2 hin _ _ _ _ fun j h => tree_res (by omega) _ _ _ _ h)
theorem Tryz.info38 : (Tryz.prog.info? 38).map (fun i => (i.zero, i.size, i.bytes)) = some (some (.agg #[.int .i64 0, .string ⟨#[]⟩, .slice none 0 0, .slice none 0 0]), 4, 72) := by kernel_rfl
theorem Tryz.u36 : Tryz.prog.underlying 36 = some (.slice 38) := by kernel_rfl
theorem lit_cell38 (W : World) (n : Nat) (hW : W.heap.size = n) (v0 v1 v2 v3 : Value) : ∀ j u, [v0, v1, v2, v3][j]? = some u → (W.alloc (.cells #[v0, v1, v2, v3] 38)).cell? ((⟨n, 0, none⟩ : Addr).add j) = some u := by
  subst hW
  intro j u hj
  have e : (⟨W.heap.size, 0, none⟩ : Addr).add j = ⟨W.heap.size, j, none⟩ := by unfold Addr.add; split <;> simp_all
  rw [e, cell_marked]
  match j, hj with
  | 0, hj => cases hj; rfl
  | 1, hj => cases hj; rfl
  | 2, hj => cases hj; rfl
  | 3, hj => cases hj; rfl
theorem nd_one (kd : Int) (s : ByteArray) (p1 p2 : Option Addr) (n1 q1 n2 q2 : Nat) : ∀ u ∈ [Value.int .i64 kd, .string s, .slice p1 n1 q1, .slice p2 n2 q2], u.oneCell' = true := by
  intro u hu
  simp at hu
  rcases hu with rfl | rfl | rfl | rfl <;> rfl
/-- The block of the value that is made is left as it was by an append to its row. -/
theorem UL.kept {d o n : Nat} {kd : Int} {v : Value} {cs : List Value} {Q : List Nd → Prop} {w3 w4 : World} {s : Int} {ob : Obj} (h : UL d o kd v n cs Q w3 s) (hg : (w3.alloc ob).grownBy w4 v.ownBlock) : OutAt o kd v w4 := by
  have ho3 : o < w3.heap.size := h.out.lt
  refine h.out.of ((hg.block o (by rw [World.size_alloc]; omega) fun e => ?_).trans ((World.grownBy_alloc w3 ob none).block o ho3 (by simp)))
  have := (World.ownsRow.lt h.own o e.symm).1
  omega
theorem UL.owns {d o n : Nat} {kd : Int} {v : Value} {cs : List Value} {Q : List Nd → Prop} {w : World} {s : Int} (h : UL d o kd v n cs Q w s) : ∀ k, v.ownBlock = some k → o + 1 ≤ k := fun k hk => (World.ownsRow.lt h.own k hk).1

set_option maxRecDepth 100000 in
set_option maxHeartbeats 4000000 in
theorem list_more (d : Nat) (hd : d ≤ 50) (hV : RdC 12 d (fun _ _ => True)) : RdC 30 (d + 1) (fun B k => pk B k = 91) := by
  intro w pb a C B k st z hS hk hB hg hz
  have hin := hS.in_heap
  have hkl : k < B.length := pk_in (by rw [hg]; decide)
  have hl := hS.len
  have hzz : z + 1 = 51 - (d : Int) := by omega
  have hz1 : z ≤ 50 := by omega
  have hz2 : 0 ≤ z := by omega
  have HV := Lib.hid (fun (W : World) (k' : Nat) (st' : Int) (hW : SP W pb a C B k' st') (hk' : k' ≤ B.length) => hV W pb a C B k' st' (z + 1) hW hk' hB trivial hzz)
  have HG91 := Lib.hid hg
  have HB := Lib.hid hB
  have HS := Lib.hid hS
  have h2 := hS.at'
  have f1 := hS.f1
  clear hS hB hg hV hz hzz
  go_enter Tryz.func30, Tryz.ntmps30
  go_wp2_with fail
  go_loopw [] (fun wr => LiInv d pb a C B k st w wr) (fun wr => msrL B pb wr)
  case atStart =>
    exact ⟨k + 1, st, 0, none, 0, [], ((HS.out.setAt (k + 1) (by omega)).alloc _).alloc _, gr_start w pb hin.1 _ _ _ _ _ _, Nat.lt_succ_self k, hkl, fun h => h,
      UL.made (OutAt.fresh _ _ (by rw [World.size_alloc, World.size_setCell]) 8) (LiRel.first _ _ _)⟩
  case round =>
    obtain ⟨i, s1, n, p, c, cs, hS, hG, hki, hi', hst, hU⟩ := hrel
    have HS1 := Lib.hid hS
    have HG1 := Lib.hid hG
    have HST1 := Lib.hid hst
    have HU1 := Lib.hid hU
    have hst1 := hS.st'
    clear hS hG hst hU h2 f1
    by_cases h0 : s1 = 0
    · subst h0
      have hn : n ≤ i + 1 := by
        obtain ⟨vs, P, h1, _, _, hq⟩ := HU1.out.row rfl
        have := hq.le
        omega
      go_wp2_with fail
      with_reducible refine (space_any HS1.out hi').mono ?_
      rintro e w2 ⟨rfl, i1, s2, hS2, hG2, hi1, hi1', hr2⟩
      have HS2 := Lib.hid hS2
      have HG2 := Lib.hid (HG1.out.trans hG2)
      have HU2 := Lib.hid (HU1.out.gr hG2 (by omega))
      have HR2 := Lib.hid hr2
      obtain ⟨cc, hc⟩ : ∃ cc, pk B i1 = cc := ⟨_, rfl⟩
      have hp := peek_any hS2 0 i1 (by omega) (by omega)
      rw [hc] at hp
      have HP := Lib.hid hp
      have HC := Lib.hid hc
      have hat2 := hS2.at'
      have hf2 := hS2.f1
      clear hS2 hG2 hr2 hc hp hst1
      by_cases h93 : cc = 93
      · have t93 := byte_eq h93 (n := 93) rfl
        have H93 := Lib.hid h93
        have hlt : i1 < B.length := pk_in (by rw [HC.out, h93]; decide)
        clear h93
        go_wp2_with fail
        with_reducible refine HP.out.mono ?_
        rintro e w' ⟨rfl, m1, rfl⟩
        have o0 := HU2.out.out.c0
        have o1 := HU2.out.out.c1
        have o2 := HU2.out.out.c2
        have o3 := HU2.out.out.c3
        obtain ⟨⟨c0, hc0⟩, ⟨c1, hc1⟩, ⟨c2, hc2⟩, ⟨c3, hc3⟩, hcf⟩ := Res.of _ _ _ _ _ HG2.out hin.1
        go_wp2_with fail
        have hgq := ((Gr.refl w2 pb).drewN m1).setCell 1 (.int .i64 ((i1 + 1 : Nat) : Int))
        exact bodyPost_ret (v := .agg #[.int .i64 8, .string ⟨#[]⟩, .slice p n c, .slice none 0 0]) (by simp [results, Tryz.results30, go_sem, hc0, hc1, hc2, hc3]) rfl
          (li_end ((HS2.out.drewN m1).setAt (i1 + 1) (by omega)) (HG2.out.trans hgq) hin (by omega) hlt (fun h => HST1.out (HR2.out h).1) (HU2.out.gr hgq (by omega) |>.next (Q' := LiRel B (ValR B d) (k + 1) i) fun h => ⟨rfl, fun vs hv => hv⟩)
            (fun h vs hv => .inr (.inl ⟨HG91.out, vs, hv.close (HR2.out h).2 (HC.out.trans H93.out), rfl⟩)) _ rfl)
      · have t93 := byte_ne h93 (n := 93) rfl
        have H93 := Lib.hid (show pk B i1 ≠ 93 by rw [HC.out]; exact h93)
        clear h93
        obtain ⟨i0, hi0, hz0, hz10, hz20⟩ := info_parts Tryz.info38
        go_wp2_with fail
        with_reducible refine HP.out.mono ?_
        rintro e w' ⟨rfl, m1, rfl⟩
        obtain ⟨wz, hwz⟩ : ∃ wz, w2.drewN m1 = wz := ⟨_, rfl⟩
        rw [hwz]
        have HSz := Lib.hid (hwz ▸ HS2.out.drewN m1 : SP wz pb a C B i1 s2)
        have HGz := Lib.hid (hwz ▸ HG2.out.drewN m1 : Gr (w.alloc Z38) wz pb)
        have HUz := Lib.hid (hwz ▸ HU2.out.gr ((Gr.refl w2 pb).drewN m1) (by omega) : UL d (w.heap.size + 1) 8 (.slice p n c) n cs (LiRel B (ValR B d) (k + 1) i) wz 0)
        have HVz := Lib.hid (HV.out wz.drew i1 s2 (HSz.out.drewN 1) hi1')
        have oz := HUz.out.out.c2
        have hszz : w.heap.size + 1 < wz.heap.size := HUz.out.out.lt
        clear hwz hat2 hf2
        go_wp2_with fail
        have hwr : IntKind.i64.wrap (z + 1) = z + 1 := IntWalk.i64_in _ (by omega)
        go_region_law (first
          | (refine step_append_lies _ rfl (.tmp 33) (.tmp 38) 36 rfl (w.heap.size + 2) 38 i0 (.agg #[.int .i64 0, .string ⟨#[]⟩, .slice none 0 0, .slice none 0 0]) 4 72 Tryz.u36 hi0 hz0 hz10 hz20 rfl (by decide) (.slice p n c) n cs (by simp [Act.eval]) (HU3.out.own.alloc _) ⟨w3.heap.size, 0, none⟩ 1 1 [.int .i64 kd, .string s, .slice p1 n1 q1, .slice p2 n2 q2] (by simp [Act.eval]) rfl (lit_cell38 _ _ rfl _ _ _ _) (nd_one _ _ _ _ _ _ _ _) (by decide) (by unfold maxLen; omega) (by omega) (by simp; omega) _ rfl ?_
             intro g cap w4 hown4 hgrow4 hgl hgh
             have hoz4 := HU3.out.kept hgrow4
             have oz4 := hoz4.c2
             have fz4 := hoz4.f2
             clear hoz4)
          | (go_simp
             go_at_call 12
             with_reducible refine HVz.out.mono ?_
             rintro e w3 ⟨kd, s, p1, n1, q1, p2, n2, q2, rfl, j, s3, hS3, hG3, hj, hj2, hr3⟩
             have hg3 : Gr wz w3 pb := ((Gr.refl wz pb).drewN 1).trans hG3
             have HS3 := Lib.hid hS3
             have HG3 := Lib.hid hg3
             have HU3 := Lib.hid (HUz.out.gr hg3 (by omega))
             have HR3 := Lib.hid hr3
             have oz3 := HU3.out.out.c2
             have oz3b := (HU3.out.out.of (w' := w3.alloc (.cells #[.int .i64 kd, .string s, .slice p1 n1 q1, .slice p2 n2 q2] 38)) ((World.grownBy_alloc w3 _ none).block _ HU3.out.out.lt (by simp))).c2
             have hsz3 := hg3.size
             clear hS3 hG3 hr3 hg3))
        all_goals
          have hS5 : SP (w4.setCell ⟨w.heap.size + 1, 2, none⟩ (.slice (some ⟨g, 0, none⟩) (n + 1) cap)) pb a C B j s3 :=
            ((HS3.out.alloc _).grown hgrow4 (base := w.heap.size) (fun k hk => by have := HU3.out.owns k hk; omega) hin.1 hin.2).setNew _ (Nat.le_succ w.heap.size) hin.1 hin.2 _
          have hG5 : Gr (w.alloc Z38) (w4.setCell ⟨w.heap.size + 1, 2, none⟩ (.slice (some ⟨g, 0, none⟩) (n + 1) cap)) pb :=
            (((HGz.out.trans HG3.out).alloc _).grown hgrow4 (fun k hk => by have := HU3.out.owns k hk; rw [World.size_alloc]; omega)).setNew _ (by rw [World.size_alloc]; exact Nat.le_refl _) _
          have hU5 := HU3.out.app (Q' := LiMid B (ValR B d) (k + 1) j) (s' := s3) g cap rfl hown4 hgrow4 hgl rfl (fun h => ⟨rfl, by
            obtain ⟨hs2, x, hx, P3, hP3, hN3⟩ := HR3.out h
            refine ⟨x, ⟨P3, fun b hb => ⟨Nat.lt_of_lt_of_le hszz (hP3 b hb).1, (hP3 b hb).2, fun e => ?_⟩, hN3⟩, fun vs hv => hv.item (HR2.out hs2).2 H93.out hx (by omega)⟩
            have h1 := (World.ownsRow.lt HUz.out.own b e).2
            have h2 := (hP3 b hb).1
            exact absurd h1 (Nat.not_lt.2 h2)⟩)
          obtain ⟨w5, hw5⟩ : ∃ w5, w4.setCell ⟨w.heap.size + 1, 2, none⟩ (.slice (some ⟨g, 0, none⟩) (n + 1) cap) = w5 := ⟨_, rfl⟩
          rw [hw5] at hS5 hG5 hU5 ⊢
          have HS5 := Lib.hid hS5
          have HG5 := Lib.hid hG5
          have HU5 := Lib.hid hU5
          have hst3 : s3 = 0 → st = 0 := fun h => HST1.out (HR2.out (HR3.out h).1).1
          have HST3 := Lib.hid hst3
          clear hS5 hG5 hU5 hw5 hown4 hgrow4 hgl hgh oz oz3 oz3b oz4 fz4 hsz3 hwr hst3
          go_wp2_with fail
          with_reducible refine (space_any HS5.out hj2).mono ?_
          rintro e w6 ⟨rfl, i6, s6, hS6, hG6, hi6, hi6', hr6⟩
          have HS6 := Lib.hid hS6
          have HG6 := Lib.hid (HG5.out.trans hG6)
          have HU6 := Lib.hid (HU5.out.gr hG6 (by omega))
          have HR6 := Lib.hid hr6
          obtain ⟨c6, hc6⟩ : ∃ c6, pk B i6 = c6 := ⟨_, rfl⟩
          have hp6 := peek_any hS6 0 i6 (by omega) (by omega)
          rw [hc6] at hp6
          have HP6 := Lib.hid hp6
          have HC6 := Lib.hid hc6
          have hat6 := hS6.at'
          have hf6 := hS6.f1
          clear hS6 hG6 hr6 hc6 hp6
          have hm0 : pk B i = 93 → s6 = 0 → False := fun h1 h2 => by
            have h3 := HR2.out (HR3.out (HR6.out h2).1).1
            exact H93.out (by rw [sp_same h3.2 h1]; exact h1)
          have HM0 := Lib.hid hm0
          clear hm0
          by_cases h44 : c6 = 44
          · have t44 := byte_eq h44 (n := 44) rfl
            have hlt6 : i6 < B.length := pk_in (by rw [HC6.out, h44]; decide)
            have H44 := Lib.hid (HC6.out.trans h44)
            clear h44
            go_wp2_with fail
            with_reducible refine HP6.out.mono ?_
            rintro e w' ⟨rfl, m6, rfl⟩
            go_wp2_with fail
            go_roundw
            case rel =>
              exact ⟨i6 + 1, s6, n + 1, _, _, _, (HS6.out.drewN m6).setAt (i6 + 1) (by omega), (HG6.out.drewN m6).setCell 1 _, by omega, hlt6, fun h => HST3.out (HR6.out h).1,
                (HU6.out.gr (((Gr.refl w6 pb).drewN m6).setCell 1 _) (by omega)).next fun h => ⟨(HR6.out h).1, fun vs hv => (hv _ (HR6.out h).2 hi6).1 H44.out⟩⟩
            case measure =>
              show msrL B pb ((w6.drewN m6).setCell ⟨pb, 1, none⟩ (.int .i64 ((i6 + 1 : Nat) : Int))) < msrL B pb wr
              rw [((HS6.out.drewN m6).setAt (i6 + 1) (by omega)).msrL, HS1.out.msrL, if_pos (rfl : (0 : Int) = 0)]
              split <;> split <;> split <;> omega
          · have t44 := byte_ne h44 (n := 44) rfl
            clear h44
            by_cases h93 : c6 = 93
            · have t93b := byte_eq h93 (n := 93) rfl
              have hlt6 : i6 < B.length := pk_in (by rw [HC6.out, h93]; decide)
              have hH93 : pk B i6 = 93 := HC6.out.trans h93
              have H93b := Lib.hid hH93
              clear h93 hH93
              go_wp2_with fail
              with_reducible refine HP6.out.mono ?_
              rintro e w' ⟨rfl, m6, rfl⟩
              go_wp2_with fail
              go_roundw
              case rel =>
                exact ⟨i6, s6, n + 1, _, _, _, HS6.out.drewN m6, HG6.out.drewN m6, by omega, hi6', fun h => HST3.out (HR6.out h).1,
                  (HU6.out.gr ((Gr.refl w6 pb).drewN m6) (by omega)).next fun h => ⟨(HR6.out h).1, fun vs hv => (hv _ (HR6.out h).2 hi6).2 H93b.out⟩⟩
              case measure =>
                rw [(HS6.out.drewN m6).msrL, HS1.out.msrL, if_pos (rfl : (0 : Int) = 0), if_pos H93b.out]
                by_cases h6 : s6 = 0
                · rw [if_pos h6, if_neg (fun h => HM0.out h h6)]
                  omega
                · rw [if_neg h6]
                  omega
            · have t93b := byte_ne h93 (n := 93) rfl
              clear h93
              go_wp2_with fail
              with_reducible refine HP6.out.mono ?_
              rintro e w' ⟨rfl, m6, rfl⟩
              go_wp2_with fail
              with_reducible refine (fail_any (HS6.out.drewN m6)).mono ?_
              rintro e w7 ⟨rfl, hS7, hG7⟩
              have HS7 := Lib.hid hS7
              have hg7 : Gr w6 w7 pb := ((Gr.refl w6 pb).drewN m6).trans hG7
              have HG7 := Lib.hid hg7
              clear hS7 hG7 hg7
              go_wp2_with fail
              go_roundw
              case rel =>
                exact ⟨B.length, _, n + 1, _, _, _, HS7.out, HG6.out.trans HG7.out, by omega, Nat.le_refl _, fun h => absurd h (bad_fail s6),
                  (HU6.out.gr HG7.out (by omega)).next fun h => absurd h (bad_fail s6)⟩
              case measure =>
                rw [HS7.out.msrL, HS1.out.msrL, if_pos (rfl : (0 : Int) = 0), if_neg (bad_fail s6)]
                split <;> omega
    · have t0 : (s1 == 0) = false := by simpa using h0
      have o0 := HU1.out.out.c0
      have o1 := HU1.out.out.c1
      have o2 := HU1.out.out.c2
      have o3 := HU1.out.out.c3
      obtain ⟨⟨c0, hc0⟩, ⟨c1, hc1⟩, ⟨c2, hc2⟩, ⟨c3, hc3⟩, hcf⟩ := Res.of _ _ _ _ _ HG1.out hin.1
      go_wp2_with fail
      exact bodyPost_ret (v := .agg #[.int .i64 8, .string ⟨#[]⟩, .slice p n c, .slice none 0 0]) (by simp [results, Tryz.results30, go_sem, hc0, hc1, hc2, hc3]) rfl
        (li_end HS1.out HG1.out hin (by omega) hi' (fun h => absurd h h0) HU1.out (fun h => absurd h h0) _ rfl)
end Go.Proofs.YtalmpddmhakdmaaGreat

/-
  The walk of a function of the spec's parser: a table between braces; by the contract of its values. Conditions: the parser lies in memory as stated.
-/
namespace Go.Proofs.YtalmpddmhakdmaaGreat
open Go.RowKit

/-- What holds at the head of the loop. -/
def TbInv (d pb : Nat) (a : Addr) (C : Nat) (B : List UInt8) (k : Nat) (st : Int) (w wr : World) : Prop :=
  ∃ (i : Nat) (s1 : Int) (n : Nat) (p : Option Addr) (c : Nat) (cs : List Value), SP wr pb a C B i s1 ∧ Gr (w.alloc Z38) wr pb ∧ k < i ∧ i ≤ B.length ∧ (s1 = 0 → st = 0) ∧ UL d (w.heap.size + 1) 9 (.slice p n c) n cs (TbRel B (ValR B d) (skp B (k + 1)) i) wr s1
theorem OwnS.form {w : World} {base : Nat} {v : Value} {ks : List (List UInt8)} (h : OwnS w base v ks) : ∃ p n c, v = .slice p n c := by
  rcases h.2 with ⟨h1, _⟩ | ⟨g, cap, cur, h1, _⟩
  · exact ⟨_, _, _, h1⟩
  · exact ⟨_, _, _, h1⟩
/-- The block of the value that is made, where a further one has been made beside it. -/
theorem OutAt.beside {o : Nat} {kd : Int} {v : Value} {w : World} (h : OutAt o kd v w) (ob : Obj) : OutAt o kd v (w.alloc ob) := h.of ((World.grownBy_alloc w ob none).block _ h.lt (by simp))
/-- A value with its keys, behind the making of a block. -/
theorem item_keyed {d o base : Nat} {w0 w3 : World} {ob : Obj} {B : List UInt8} {i j : Nat} {c0 c1 c2 c3 kv : Value} {ks : List (List UInt8)} {v : Value} {n0 : Nat}
    (ho : OwnS w3 base kv ks) (hb : n0 ≤ base) (ho3 : o < n0) (hv : ∀ b, v.ownBlock = some b → b < n0)
    (h : ∃ x : Nd, ValR B d i j x ∧ ∃ P : Nat → Prop, (∀ b, P b → w0.heap.size ≤ b ∧ b < w3.heap.size) ∧ NdAt d P w3 [c0, c1, c2, c3] x) (h0 : n0 ≤ w0.heap.size) :
    ∃ x : Nd, ValR B d i j x ∧ ∃ P : Nat → Prop, (∀ b, P b → o < b ∧ b < (w3.alloc ob).heap.size ∧ v.ownBlock ≠ some b) ∧ NdAt d P (w3.alloc ob) [c0, c1, c2, kv] (x.wk ks) := by
  obtain ⟨x, hx, P, hP, hN⟩ := h
  have hlt : ∀ b, (P b ∨ kv.ownBlock = some b) → n0 ≤ b ∧ b < w3.heap.size := fun b hb' => by
    rcases hb' with h1 | h1
    · have := hP b h1
      omega
    · have := World.ownsRow.lt ho b h1
      omega
  refine ⟨x, hx, fun b => P b ∨ kv.ownBlock = some b, fun b hb' => ?_, ?_⟩
  · have h1 := hlt b hb'
    rw [World.size_alloc]
    exact ⟨by omega, by omega, fun e => by have := hv b e; omega⟩
  · have hfr : ∀ b, (P b ∨ kv.ownBlock = some b) → (w3.alloc ob).heap[b]? = w3.heap[b]? := fun b hb' => (World.grownBy_alloc w3 ob none).block b (hlt b hb').2 (by simp)
    refine NdAt.keyed (hN.frame (fun b hb' => hfr b (.inl hb')) fun b hb' => .inl hb') ((ho.reads _ fun b hb' => .inr hb').frame (P := fun b => P b ∨ kv.ownBlock = some b) hfr fun b hb' => hb')

set_option maxRecDepth 100000 in
set_option maxHeartbeats 4000000 in
theorem table_more (d : Nat) (hd : d ≤ 50) (hV : RdC 12 d (fun _ _ => True)) : RdC 31 (d + 1) (fun B k => pk B k = 123) := by
  intro w pb a C B k st z hS hk hB hg hz
  have hin := hS.in_heap
  have hkl : k < B.length := pk_in (by rw [hg]; decide)
  have hl := hS.len
  have hzz : z + 1 = 51 - (d : Int) := by omega
  have hz1 : z ≤ 50 := by omega
  have hz2 : 0 ≤ z := by omega
  have HV := Lib.hid (fun (W : World) (k' : Nat) (st' : Int) (hW : SP W pb a C B k' st') (hk' : k' ≤ B.length) => hV W pb a C B k' st' (z + 1) hW hk' hB trivial hzz)
  have HG123 := Lib.hid hg
  have HB := Lib.hid hB
  have HS := Lib.hid hS
  have h2 := hS.at'
  have f1 := hS.f1
  obtain ⟨i0, hi0, hz0, hz10, hz20⟩ := info_parts Tryz.info38
  clear hS hB hg hV hz hzz
  go_enter Tryz.func31, Tryz.ntmps31
  go_wp2_with fail
  have hS0 : SP (((w.setCell ⟨pb, 1, none⟩ (.int .i64 ((k + 1 : Nat) : Int))).alloc Z38).alloc (.cells #[.int .i64 9, .string ⟨#[]⟩, .slice none 0 0, .slice none 0 0] 38)) pb a C B (k + 1) st := ((HS.out.setAt (k + 1) (by omega)).alloc _).alloc _
  have hG0 : Gr (w.alloc Z38) (((w.setCell ⟨pb, 1, none⟩ (.int .i64 ((k + 1 : Nat) : Int))).alloc Z38).alloc (.cells #[.int .i64 9, .string ⟨#[]⟩, .slice none 0 0, .slice none 0 0] 38)) pb := gr_start w pb hin.1 _ _ _ _ _ _
  have hU0 : UL d (w.heap.size + 1) 9 (.slice none 0 0) 0 [] (fun vs => vs = []) (((w.setCell ⟨pb, 1, none⟩ (.int .i64 ((k + 1 : Nat) : Int))).alloc Z38).alloc (.cells #[.int .i64 9, .string ⟨#[]⟩, .slice none 0 0, .slice none 0 0] 38)) 0 := UL.made (OutAt.fresh _ _ (by rw [World.size_alloc, World.size_setCell]) 9) rfl
  have HS0 := Lib.hid hS0
  have HG0 := Lib.hid hG0
  have HU0 := Lib.hid hU0
  clear hS0 hG0 hU0 h2 f1
  refine (blanks_any HS0.out).mono ?_
  rintro e w1 ⟨rfl, hS1, hG1⟩
  obtain ⟨i1, hi1⟩ : ∃ i1, skp B (k + 1) = i1 := ⟨_, rfl⟩
  have hki1 := skp_ge B (k + 1)
  have hil1 := skp_le (B := B) (i := k + 1) hkl
  rw [hi1] at hS1 hki1 hil1
  have HI1 := Lib.hid hi1
  have HS1 := Lib.hid hS1
  have HG1 := Lib.hid (HG0.out.trans hG1)
  have HU1 := Lib.hid (HU0.out.gr hG1 (by omega))
  obtain ⟨cc, hc⟩ : ∃ cc, pk B i1 = cc := ⟨_, rfl⟩
  have hp := peek_any hS1 0 i1 (by omega) (by omega)
  rw [hc] at hp
  have HP := Lib.hid hp
  have HC := Lib.hid hc
  have hat1 := hS1.at'
  have hf1 := hS1.f1
  clear hS1 hG1 hc hp hi1
  by_cases h125 : cc = 125
  · have t125 := byte_eq h125 (n := 125) rfl
    have H125 := Lib.hid (HC.out.trans h125)
    have hlt : i1 < B.length := pk_in (by rw [HC.out, h125]; decide)
    clear h125
    go_wp2_with fail
    with_reducible refine HP.out.mono ?_
    rintro e w' ⟨rfl, m1, rfl⟩
    have o0 := HU1.out.out.c0
    have o1 := HU1.out.out.c1
    have o2 := HU1.out.out.c2
    have o3 := HU1.out.out.c3
    obtain ⟨⟨c0, hc0⟩, ⟨c1, hc1⟩, ⟨c2, hc2⟩, ⟨c3, hc3⟩, hcf⟩ := Res.of _ _ _ _ _ HG1.out hin.1
    go_wp2_with fail
    have hgq := ((Gr.refl w1 pb).drewN m1).setCell 1 (.int .i64 ((i1 + 1 : Nat) : Int))
    exact bodyPost_ret (v := .agg #[.int .i64 9, .string ⟨#[]⟩, .slice none 0 0, .slice none 0 0]) (by simp [results, Tryz.results31, go_sem, hc0, hc1, hc2, hc3]) rfl
      (li_end ((HS1.out.drewN m1).setAt (i1 + 1) (by omega)) (HG1.out.trans hgq) hin (by omega) hlt (fun h => h) ((HU1.out.gr hgq (by omega)).next (s' := st) fun h => ⟨rfl, fun vs hv => hv⟩)
        (fun h vs hv => .inr (.inr (.inl ⟨HG123.out, by rw [HI1.out]; exact H125.out, by rw [HI1.out], by rw [hv]⟩))) _ rfl)
  · have t125 := byte_ne h125 (n := 125) rfl
    have H125 := Lib.hid (show pk B (skp B (k + 1)) ≠ 125 by rw [HI1.out, HC.out]; exact h125)
    clear h125
    go_wp2_with fail
    with_reducible refine HP.out.mono ?_
    rintro e w' ⟨rfl, m1, rfl⟩
    go_wp2_with fail
    clear hat1 hf1
    go_loopw [] (fun wr => TbInv d pb a C B k st w wr) (fun wr => msr B pb wr)
    case atStart =>
      exact ⟨i1, st, 0, none, 0, [], HS1.out.drewN m1, HG1.out.drewN m1, hki1, hil1, fun h => h,
        (HU1.out.gr ((Gr.refl w1 pb).drewN m1) (by omega)).next fun h => ⟨rfl, fun vs hv => by rw [hv, HI1.out]; exact TbRel.first _ _ _⟩⟩
    case round =>
      obtain ⟨i, s1, n, p, c, cs, hS, hG, hki, hi', hst, hU⟩ := hrel
      have HSr := Lib.hid hS
      have HGr := Lib.hid hG
      have HSTr := Lib.hid hst
      have HUr := Lib.hid hU
      have hstr := hS.st'
      clear hS hG hst hU HS1 HG1 HU1 HS0 HG0 HU0
      by_cases h0 : s1 = 0
      · subst h0
        have HST0 := Lib.hid (show st = 0 from HSTr.out rfl)
        clear HSTr
        have hn : n ≤ i := by
          obtain ⟨vs, P, h1, _, _, hq⟩ := HUr.out.row rfl
          have := hq.2
          omega
        go_wp2_with fail
        with_reducible refine (keys_any HSr.out hi').mono ?_
        rintro e w2 ⟨kv, ks, rfl, hown2, i2, s2, hS2, hG2, hi2, hi2', hr2⟩
        obtain ⟨p5, n5, c5, rfl⟩ := hown2.form
        have HS2 := Lib.hid hS2
        have HG2 := Lib.hid (HGr.out.trans hG2)
        have HU2 := Lib.hid (HUr.out.gr hG2 (by omega))
        have HR2 := Lib.hid hr2
        have HO2 := Lib.hid hown2
        obtain ⟨c2', hc2'⟩ : ∃ cc, pk B i2 = cc := ⟨_, rfl⟩
        have hp2 := peek_any hS2 0 i2 (by omega) (by omega)
        rw [hc2'] at hp2
        have HP2 := Lib.hid hp2
        have HC2 := Lib.hid hc2'
        have hat2 := hS2.at'
        have hf2 := hS2.f1
        have hsz2 : wr.heap.size ≤ w2.heap.size := hG2.size
        clear hS2 hG2 hr2 hc2' hp2 hown2 hstr
        by_cases h61 : c2' = 61
        · have t61 := byte_eq' h61 (n := 61) rfl
          have H61 := Lib.hid (HC2.out.trans h61)
          have hlt2 : i2 < B.length := pk_in (by rw [HC2.out, h61]; decide)
          clear h61
          go_wp2_with fail
          with_reducible refine HP2.out.mono ?_
          rintro e w' ⟨rfl, m2, rfl⟩
          go_wp2_with fail
          refine (blanks_any ((HS2.out.drewN m2).setAt (i2 + 1) (by omega))).mono ?_
          rintro e w3 ⟨rfl, hS3, hG3⟩
          obtain ⟨i3, hi3⟩ : ∃ i3, skp B (i2 + 1) = i3 := ⟨_, rfl⟩
          have hki3 := skp_ge B (i2 + 1)
          have hil3 := skp_le (B := B) (i := i2 + 1) hlt2
          have hg3 : Gr w2 w3 pb := (((Gr.refl w2 pb).drewN m2).setCell 1 _).trans hG3
          rw [hi3] at hS3 hki3 hil3
          have HI3 := Lib.hid hi3
          have HS3 := Lib.hid hS3
          have HG3 := Lib.hid (HG2.out.trans hg3)
          have HU3 := Lib.hid (HU2.out.gr hg3 (by omega))
          have hpr : pb < wr.heap.size := Nat.lt_of_lt_of_le hin.1 (by have := HGr.out.size; rw [World.size_alloc] at this; omega)
          have HO3 := Lib.hid (HO2.out.gr hg3 hpr)
          have hwr : IntKind.i64.wrap (z + 1) = z + 1 := IntWalk.i64_in _ (by omega)
          have hszr : w.heap.size + 1 < wr.heap.size := HUr.out.out.lt
          have hszr2 : wr.heap.size ≤ w3.heap.size := Nat.le_trans hsz2 hg3.size
          clear hS3 hG3 hg3 hi3 hat2 hf2
          go_wp2_with fail
          with_reducible refine (HV.out _ _ _ HS3.out hil3).mono ?_
          rintro e w4 ⟨kd, s, p1, n1, q1, p2, n2, q2, rfl, j, s4, hS4, hG4, hj, hj2, hr4⟩
          have HS4 := Lib.hid hS4
          have HG4 := Lib.hid (HG3.out.trans hG4)
          have HU4 := Lib.hid (HU3.out.gr hG4 (by omega))
          have HO4 := Lib.hid (HO3.out.gr hG4 hpr)
          have HR4 := Lib.hid hr4
          have HUb := Lib.hid (HU4.out.gr ((Gr.refl w4 pb).alloc (.cells #[.int .i64 kd, .string s, .slice p1 n1 q1, .slice p5 n5 c5] 38)) (by omega))
          have oz := HUb.out.out.c2
          have hsz4 := hG4.size
          have hszb : (w4.alloc (.cells #[.int .i64 kd, .string s, .slice p1 n1 q1, .slice p5 n5 c5] 38)).heap.size = w4.heap.size + 1 := World.size_alloc _ _
          clear hS4 hG4 hr4
          go_wp2_with (at_builtin; (refine wpList_append_lies _ rfl (.tmp 58) (.tmp 60) 36 rfl (w.heap.size + 2) 38 i0 (.agg #[.int .i64 0, .string ⟨#[]⟩, .slice none 0 0, .slice none 0 0]) 4 72 Tryz.u36 hi0 hz0 hz10 hz20 rfl (by decide) (.slice p n c) n cs (by simp [Act.eval]) (HUb.out.own.alloc _) ⟨w4.heap.size + 1, 0, none⟩ 1 1 [.int .i64 kd, .string s, .slice p1 n1 q1, .slice p5 n5 c5] (by simp [Act.eval]) rfl (lit_cell38 _ _ hszb _ _ _ _) (nd_one _ _ _ _ _ _ _ _) (by decide) (by unfold maxLen; omega) (by omega) (by simp; omega) _ rfl ?_); intro g cap w5 hown5 hgrow5 hgl hgh; have hoz5 := HUb.out.kept hgrow5; have oz5 := hoz5.c2; have fz5 := hoz5.f2; clear hoz5)
          have hS5 : SP (w5.setCell ⟨w.heap.size + 1, 2, none⟩ (.slice (some ⟨g, 0, none⟩) (n + 1) cap)) pb a C B j s4 :=
            (((HS4.out.alloc (.cells #[.int .i64 kd, .string s, .slice p1 n1 q1, .slice p5 n5 c5] 38)).alloc _).grown hgrow5 (base := w.heap.size) (fun k hk => by have := HUb.out.owns k hk; omega) hin.1 hin.2).setNew _ (Nat.le_succ w.heap.size) hin.1 hin.2 _
          have hG5 : Gr (w.alloc Z38) (w5.setCell ⟨w.heap.size + 1, 2, none⟩ (.slice (some ⟨g, 0, none⟩) (n + 1) cap)) pb :=
            (((HG4.out.alloc (.cells #[.int .i64 kd, .string s, .slice p1 n1 q1, .slice p5 n5 c5] 38)).alloc _).grown hgrow5 (fun k hk => by have := HUb.out.owns k hk; rw [World.size_alloc]; omega)).setNew _ (by rw [World.size_alloc]; exact Nat.le_refl _) _
          have hU5 := HUb.out.app (Q' := TbMid B (ValR B d) (skp B (k + 1)) j) (s' := s4) g cap rfl hown5 hgrow5 hgl rfl (fun h => ⟨rfl, by
            obtain ⟨hs2, x, hx, P3, hP3, hN3⟩ := HR4.out h
            obtain ⟨x2, hx2, P4, hP4, hN4⟩ := item_keyed (ob := .cells #[.int .i64 kd, .string s, .slice p1 n1 q1, .slice p5 n5 c5] 38) (o := w.heap.size + 1) (v := .slice p n c) (n0 := wr.heap.size) HO4.out (Nat.le_refl _) hszr (fun b hb => (World.ownsRow.lt HUr.out.own b hb).2) ⟨x, hx, P3, hP3, hN3⟩ hszr2
            refine ⟨x2.wk ks, ⟨P4, hP4, hN4⟩, fun vs hv => hv.item (HR2.out hs2).2 H61.out (by rw [HI3.out]; exact hx2) ?_⟩
            have := skp_ge B j
            omega⟩)
          obtain ⟨w6, hw6⟩ : ∃ w6, w5.setCell ⟨w.heap.size + 1, 2, none⟩ (.slice (some ⟨g, 0, none⟩) (n + 1) cap) = w6 := ⟨_, rfl⟩
          rw [hw6] at hS5 hG5 hU5 ⊢
          have HS5 := Lib.hid hS5
          have HG5 := Lib.hid hG5
          have HU5 := Lib.hid hU5
          have hst4 : s4 = 0 → st = 0 := fun _ => HST0.out
          have HST4 := Lib.hid hst4
          clear hS5 hG5 hU5 hw6 hown5 hgrow5 hgl hgh oz oz5 fz5 hsz4 hszb hwr hst4
          obtain ⟨j7, hj7⟩ : ∃ j7, skp B j = j7 := ⟨_, rfl⟩
          have hjg7 := skp_ge B j
          have hjl7 := skp_le (B := B) (i := j) hj2
          refine (blanks_any HS5.out).mono ?_
          rintro e w7 ⟨rfl, hS7, hG7⟩
          rw [hj7] at hS7 hjg7 hjl7
          have HJ7 := Lib.hid hj7
          have HS7 := Lib.hid hS7
          have HG7 := Lib.hid (HG5.out.trans hG7)
          have HU7 := Lib.hid (HU5.out.gr hG7 (by omega))
          obtain ⟨c7, hc7⟩ : ∃ c7, pk B j7 = c7 := ⟨_, rfl⟩
          have hp7 := peek_any hS7 0 j7 (by omega) (by omega)
          rw [hc7] at hp7
          have HP7 := Lib.hid hp7
          have HC7 := Lib.hid hc7
          have hat7 := hS7.at'
          have hf7 := hS7.f1
          clear hS7 hG7 hc7 hp7 hj7
          by_cases h44 : c7 = 44
          · have t44 := byte_eq h44 (n := 44) rfl
            have hlt7 : j7 < B.length := pk_in (by rw [HC7.out, h44]; decide)
            have H44 := Lib.hid (show pk B (skp B j) = 44 by rw [HJ7.out, HC7.out]; exact h44)
            clear h44
            go_wp2_with fail
            with_reducible refine HP7.out.mono ?_
            rintro e w' ⟨rfl, m7, rfl⟩
            go_wp2_with fail
            go_roundw
            case rel =>
              exact ⟨j7 + 1, s4, n + 1, _, _, _, (HS7.out.drewN m7).setAt (j7 + 1) (by omega), (HG7.out.drewN m7).setCell 1 _, by omega, hlt7, HST4.out,
                (HU7.out.gr (((Gr.refl w7 pb).drewN m7).setCell 1 _) (by omega)).next fun h => ⟨h, fun vs hv => by have := hv.1 H44.out; rwa [HJ7.out] at this⟩⟩
            case measure =>
              show msr B pb ((w7.drewN m7).setCell ⟨pb, 1, none⟩ (.int .i64 ((j7 + 1 : Nat) : Int))) < msr B pb wr
              rw [((HS7.out.drewN m7).setAt (j7 + 1) (by omega)).msr, HSr.out.msr, if_pos (rfl : (0 : Int) = 0)]
              split <;> omega
          · have t44 := byte_ne h44 (n := 44) rfl
            clear h44
            by_cases h125 : c7 = 125
            · have t125b := byte_eq h125 (n := 125) rfl
              have hlt7 : j7 < B.length := pk_in (by rw [HC7.out, h125]; decide)
              have H125b := Lib.hid (show pk B (skp B j) = 125 by rw [HJ7.out, HC7.out]; exact h125)
              clear h125
              go_wp2_with fail
              with_reducible refine HP7.out.mono ?_
              rintro e w' ⟨rfl, m7, rfl⟩
              have o0 := HU7.out.out.c0
              have o1 := HU7.out.out.c1
              have o2 := HU7.out.out.c2
              have o3 := HU7.out.out.c3
              obtain ⟨⟨c0, hc0⟩, ⟨c1, hc1⟩, ⟨c2, hc2⟩, ⟨c3, hc3⟩, hcf⟩ := Res.of _ _ _ _ _ HG7.out hin.1
              go_wp2_with fail
              have hgq := ((Gr.refl w7 pb).drewN m7).setCell 1 (.int .i64 ((j7 + 1 : Nat) : Int))
              exact bodyPost_ret (v := .agg #[.int .i64 9, .string ⟨#[]⟩, .slice (some ⟨g, 0, none⟩) (n + 1) cap, .slice none 0 0]) (by simp [results, Tryz.results31, go_sem, hc0, hc1, hc2, hc3]) rfl
                (li_end ((HS7.out.drewN m7).setAt (j7 + 1) (by omega)) (HG7.out.trans hgq) hin (by omega) hlt7 HST4.out (HU7.out.gr hgq (by omega))
                  (fun h vs hv => .inr (.inr (.inr ⟨HG123.out, H125.out, vs, by have := hv.2 H125b.out; rwa [HJ7.out] at this, rfl⟩))) _ rfl)
            · have t125b := byte_ne h125 (n := 125) rfl
              clear h125
              go_wp2_with fail
              with_reducible refine HP7.out.mono ?_
              rintro e w' ⟨rfl, m7, rfl⟩
              go_wp2_with fail
              with_reducible refine (fail_any (HS7.out.drewN m7)).mono ?_
              rintro e w8 ⟨rfl, hS8, hG8⟩
              have HS8 := Lib.hid hS8
              have hg8 : Gr w7 w8 pb := ((Gr.refl w7 pb).drewN m7).trans hG8
              have HG8 := Lib.hid hg8
              clear hS8 hG8 hg8
              go_wp2_with fail
              go_roundw
              case rel =>
                exact ⟨B.length, _, n + 1, _, _, _, HS8.out, HG7.out.trans HG8.out, by omega, Nat.le_refl _, fun h => absurd h (bad_fail s4),
                  (HU7.out.gr HG8.out (by omega)).next fun h => absurd h (bad_fail s4)⟩
              case measure =>
                rw [HS8.out.msr, HSr.out.msr, if_pos (rfl : (0 : Int) = 0), if_neg (bad_fail s4)]
                omega
        · have t61 := byte_ne' h61 (n := 61) rfl
          clear h61
          go_wp2_with fail
          with_reducible refine HP2.out.mono ?_
          rintro e w' ⟨rfl, m2, rfl⟩
          go_wp2_with fail
          with_reducible refine (fail_any (HS2.out.drewN m2)).mono ?_
          rintro e w8 ⟨rfl, hS8, hG8⟩
          have HS8 := Lib.hid hS8
          have hg8 : Gr w2 w8 pb := ((Gr.refl w2 pb).drewN m2).trans hG8
          have HG8 := Lib.hid (HG2.out.trans hg8)
          have HU8 := Lib.hid (HU2.out.gr hg8 (by omega))
          clear hS8 hG8 hg8
          have o0 := HU8.out.out.c0
          have o1 := HU8.out.out.c1
          have o2 := HU8.out.out.c2
          have o3 := HU8.out.out.c3
          obtain ⟨⟨c0, hc0⟩, ⟨c1, hc1⟩, ⟨c2, hc2⟩, ⟨c3, hc3⟩, hcf⟩ := Res.of _ _ _ _ _ HG8.out hin.1
          go_wp2_with fail
          exact bodyPost_ret (v := .agg #[.int .i64 9, .string ⟨#[]⟩, .slice p n c, .slice none 0 0]) (by simp [results, Tryz.results31, go_sem, hc0, hc1, hc2, hc3]) rfl
            (li_end HS8.out HG8.out hin (by omega) (Nat.le_refl _) (fun h => absurd h (bad_fail s2)) (HU8.out.next (Q' := TbRel B (ValR B d) (skp B (k + 1)) i) fun h => absurd h (bad_fail s2)) (fun h => absurd h (bad_fail s2)) _ rfl)
      · have t0 : (s1 == 0) = false := by simpa using h0
        have o0 := HUr.out.out.c0
        have o1 := HUr.out.out.c1
        have o2 := HUr.out.out.c2
        have o3 := HUr.out.out.c3
        obtain ⟨⟨c0, hc0⟩, ⟨c1, hc1⟩, ⟨c2, hc2⟩, ⟨c3, hc3⟩, hcf⟩ := Res.of _ _ _ _ _ HGr.out hin.1
        go_wp2_with fail
        exact bodyPost_ret (v := .agg #[.int .i64 9, .string ⟨#[]⟩, .slice p n c, .slice none 0 0]) (by simp [results, Tryz.results31, go_sem, hc0, hc1, hc2, hc3]) rfl
          (li_end HSr.out HGr.out hin (by omega) hi' (fun h => absurd h h0) HUr.out (fun h => absurd h h0) _ rfl)
end Go.Proofs.YtalmpddmhakdmaaGreat

/-
  What a function of the spec's parser does: a value, a list, a table: at each depth. Conditions: the parser lies in memory as stated.
-/
namespace Go.Proofs.YtalmpddmhakdmaaGreat
open Go.RowKit

theorem value_rd : ∀ d : Nat, d ≤ 51 → RdC 12 d (fun _ _ => True)
  | 0, _ => value_zero
  | d + 1, h => value_more d (list_more d (by omega) (value_rd d (by omega))) (table_more d (by omega) (value_rd d (by omega)))
end Go.Proofs.YtalmpddmhakdmaaGreat

/-
  Plain: expressions in a row, and how they read. Conditions: as each lemma states.
-/
namespace Go.Proofs.YtalmpddmhakdmaaGreat
open Go.RowKit

/-- Six cells read as an expression. -/
def ExAt (P : Nat → Prop) (w : World) (cs : List Value) (x : Ex) : Prop :=
  ∃ kv n0 n1 n2 n3, cs = [.int .i64 x.kind, kv, n0, n1, n2, n3] ∧ TxsAt P w kv x.keys ∧ (x.kind = 0 → NdAt 51 P w [n0, n1, n2, n3] x.val)
theorem ExAt.frame {P Q : Nat → Prop} {w w' : World} {cs : List Value} {x : Ex} (h : ExAt P w cs x) (hb : ∀ b, P b → w'.heap[b]? = w.heap[b]?) (hq : ∀ b, P b → Q b) : ExAt Q w' cs x := by
  obtain ⟨kv, n0, n1, n2, n3, h1, h2, h3⟩ := h
  exact ⟨kv, n0, n1, n2, n3, h1, h2.frame hb hq, fun h0 => (h3 h0).frame hb hq⟩
/-- Cells read as expressions, six each. -/
def ERow (P : Nat → Prop) (w : World) (cs : List Value) (es : List Ex) : Prop :=
  cs.length = 6 * es.length ∧ ∀ j x, es[j]? = some x → ExAt P w ((cs.drop (6 * j)).take 6) x
theorem ERow.nil (P : Nat → Prop) (w : World) : ERow P w [] [] := ⟨rfl, fun j x h => by cases h⟩
theorem ERow.frame {P Q : Nat → Prop} {w w' : World} {cs : List Value} {es : List Ex} (h : ERow P w cs es) (hb : ∀ b, P b → w'.heap[b]? = w.heap[b]?) (hq : ∀ b, P b → Q b) : ERow Q w' cs es :=
  ⟨h.1, fun j x hj => (h.2 j x hj).frame hb hq⟩
theorem ERow.app {P : Nat → Prop} {w : World} {cs c6 : List Value} {es : List Ex} {x : Ex} (h : ERow P w cs es) (h6 : c6.length = 6) (hx : ExAt P w c6 x) : ERow P w (cs ++ c6) (es ++ [x]) := by
  refine ⟨by rw [List.length_append, List.length_append, h.1, h6]; simp; omega, fun j y hj => ?_⟩
  rcases Nat.lt_or_ge j es.length with hlt | hge
  · rw [List.getElem?_append_left hlt] at hj
    have h1 := h.1
    rw [List.drop_append_of_le_length (by omega), List.take_append_of_le_length (by rw [List.length_drop]; omega)]
    exact h.2 j y hj
  · rw [List.getElem?_append_right hge] at hj
    have hj0 : j = es.length := by
      have := (List.getElem?_eq_some_iff.1 hj).1
      simp at this
      omega
    subst hj0
    rw [Nat.sub_self] at hj
    cases hj
    rw [← h.1, List.drop_left, List.take_of_length_le (by omega)]
    exact hx
/-- A slice reads as expressions. -/
def ExsAt (P : Nat → Prop) (w : World) (v : Value) (es : List Ex) : Prop :=
  ∃ (p : Option Addr) (c : Nat), v = .slice p es.length c ∧ (es = [] ∨ ∃ a, p = some a ∧ P a.block ∧ ∀ j x, es[j]? = some x → ∃ ds : List Value, ds.length = 6 ∧ (∀ i u, ds[i]? = some u → w.cell? (a.add (6 * j + i)) = some u) ∧ ExAt P w ds x)

/-- Expressions under way, in a state. -/
structure EL (base : Nat) (v : Value) (n : Nat) (cs : List Value) (Q : List Ex → Prop) (w : World) (s : Int) : Prop where
  own : w.ownsRow base 40 6 v n cs
  row : s = 0 → ∃ (es : List Ex) (P : Nat → Prop), es.length = n ∧ ERow P w cs es ∧ (∀ b, P b → base ≤ b ∧ b < w.heap.size ∧ v.ownBlock ≠ some b) ∧ Q es
theorem EL.gr {base : Nat} {v : Value} {n : Nat} {cs : List Value} {Q : List Ex → Prop} {w w' : World} {s : Int} {pb : Nat} (h : EL base v n cs Q w s) (hg : Gr w w' pb) (hp : pb < base) : EL base v n cs Q w' s where
  own := World.ownsRow.kept h.own hg (by
    rcases hv : v.ownBlock with _ | k
    · exact .inl rfl
    · refine .inr fun e => ?_
      have h1 := (World.ownsRow.lt h.own k hv).1
      cases e
      omega)
  row := fun hs => by
    obtain ⟨es, P, h1, h2, h3, h4⟩ := h.row hs
    exact ⟨es, P, h1, h2.frame (fun b hb => hg.block b (h3 b hb).2.1 fun e => by have := (h3 b hb).1; cases e; omega) fun _ h => h, fun b hb => ⟨(h3 b hb).1, Nat.lt_of_lt_of_le (h3 b hb).2.1 hg.size, (h3 b hb).2.2⟩, h4⟩
theorem EL.setNew {base : Nat} {v : Value} {n : Nat} {cs : List Value} {Q : List Ex → Prop} {w : World} {s : Int} (h : EL base v n cs Q w s) (p : Addr) (u : Value) (hv : v.ownBlock ≠ some p.block) (hp : s = 0 → False) : EL base v n cs Q (w.setCell p u) s where
  own := World.ownsRow.kept h.own (row := some p.block) ⟨rfl, rfl, rfl, by simp [World.setCell], fun k _ hne => Below.heap_setCell w _ _ k (fun e => hne (by rw [e]))⟩ (.inr hv)
  row := fun hs => (hp hs).elim
theorem EL.next {base : Nat} {v : Value} {n : Nat} {cs : List Value} {Q Q' : List Ex → Prop} {w : World} {s s' : Int} (h : EL base v n cs Q w s) (hq : s' = 0 → s = 0 ∧ ∀ es, Q es → Q' es) : EL base v n cs Q' w s' :=
  ⟨h.own, fun hs => by
    obtain ⟨es, P, h1, h2, h3, h4⟩ := h.row (hq hs).1
    exact ⟨es, P, h1, h2, h3, (hq hs).2 es h4⟩⟩
theorem EL.form {base : Nat} {v : Value} {n : Nat} {cs : List Value} {Q : List Ex → Prop} {w : World} {s : Int} (h : EL base v n cs Q w s) : ∃ p c, v = .slice p n c := by
  rcases h.own.2 with ⟨h1, h2⟩ | ⟨g, cap, cur, h1, _⟩
  · exact ⟨none, 0, by rw [h1, h2]⟩
  · exact ⟨_, _, h1⟩
theorem EL.owns {base : Nat} {v : Value} {n : Nat} {cs : List Value} {Q : List Ex → Prop} {w : World} {s : Int} (h : EL base v n cs Q w s) : ∀ k, v.ownBlock = some k → base ≤ k := fun k hk => (World.ownsRow.lt h.own k hk).1
/-- Behind the append of an expression. -/
theorem EL.app {base n H : Nat} {v : Value} {cs c6 : List Value} {Q Q' : List Ex → Prop} {w3 w4 : World} {s s' : Int} {ob : Obj} (h : EL base v n cs Q w3 s) (g cap : Nat)
    (h6 : c6.length = 6) (ho : w4.ownsRow base 40 6 (.slice (some ⟨g, 0, none⟩) (n + 1) cap) (n + 1) (cs ++ c6)) (hg : (w3.alloc ob).grownBy w4 v.ownBlock)
    (hgl : v.ownBlock = some g ∨ g = H) (hH : H = (w3.alloc ob).heap.size)
    (hx : s' = 0 → s = 0 ∧ ∃ x, (∃ P : Nat → Prop, (∀ b, P b → base ≤ b ∧ b < w3.heap.size ∧ v.ownBlock ≠ some b) ∧ ExAt P w3 c6 x) ∧ ∀ es, Q es → Q' (es ++ [x])) :
    EL base (.slice (some ⟨g, 0, none⟩) (n + 1) cap) (n + 1) (cs ++ c6) Q' w4 s' := by
  have hsz : (w3.alloc ob).heap.size = w3.heap.size + 1 := World.size_alloc _ _
  have hold : ∀ b, b < w3.heap.size → (w3.alloc ob).heap[b]? = w3.heap[b]? := fun b hb => (World.grownBy_alloc w3 ob none).block b hb (by simp)
  have hsz4 := hg.size
  refine ⟨ho, fun hs => ?_⟩
  obtain ⟨hs0, x, ⟨P3, hP3, hx3⟩, hqq⟩ := hx hs
  obtain ⟨es, P, h1, h2, h3, hq⟩ := h.row hs0
  have hfr : ∀ b, (P b ∨ P3 b) → base ≤ b ∧ b < w3.heap.size ∧ v.ownBlock ≠ some b := fun b hb => hb.elim (h3 b) (hP3 b)
  have hbl : ∀ b, (P b ∨ P3 b) → w4.heap[b]? = w3.heap[b]? := fun b hb => by
    obtain ⟨g1, g2, g3⟩ := hfr b hb
    exact (hg.block b (by omega) (fun e => g3 e.symm)).trans (hold b g2)
  refine ⟨es ++ [x], fun b => P b ∨ P3 b, by rw [List.length_append, h1]; rfl, ERow.app (h2.frame (fun b hb => hbl b (.inl hb)) fun _ hb => .inl hb) h6 (hx3.frame (fun b hb => hbl b (.inr hb)) fun _ hb => .inr hb), fun b hb => ?_, hqq es hq⟩
  obtain ⟨g1, g2, g3⟩ := hfr b hb
  refine ⟨g1, by omega, fun e => ?_⟩
  have eg : g = b := by simpa [Value.ownBlock] using e
  subst eg
  rcases hgl with e2 | e2
  · exact g3 e2
  · omega
/-- What is handed back at the end. -/
theorem EL.reads {base n : Nat} {v : Value} {cs : List Value} {Q : List Ex → Prop} {w : World} (h : EL base v n cs Q w 0) :
    ∃ es, Q es ∧ ∃ P : Nat → Prop, (∀ b, P b → base ≤ b ∧ b < w.heap.size) ∧ ExsAt P w v es := by
  obtain ⟨es, P, h1, h2, h3, hq⟩ := h.row rfl
  subst h1
  refine ⟨es, hq, fun b => P b ∨ v.ownBlock = some b, fun b hb => ?_, ?_⟩
  · rcases hb with hb | hb
    · have := h3 b hb
      omega
    · exact World.ownsRow.lt h.own b hb
  rcases h.own.2 with ⟨e1, e2⟩ | ⟨g, cap, cur, rfl, _⟩
  · have : es = [] := List.eq_nil_of_length_eq_zero e2
    subst this
    exact ⟨none, 0, e1, .inl rfl⟩
  · refine ⟨some ⟨g, 0, none⟩, cap, rfl, .inr ⟨_, rfl, .inr rfl, fun j x hj => ⟨(cs.drop (6 * j)).take 6, ?_, fun i u hu => ?_, (h2.2 j x hj).frame (fun _ _ => rfl) fun b hb => .inl hb⟩⟩⟩
    · have e1 := h2.1
      have e2 := (List.getElem?_eq_some_iff.1 hj).1
      rw [List.length_take, List.length_drop]
      omega
    · rw [List.getElem?_take] at hu
      split at hu
      · rw [List.getElem?_drop] at hu
        exact World.ownsRow.cells h.own (g := g) rfl _ _ hu
      · cases hu

/-- What has been read of a document, at the head of the loop. -/
def DcRel (B : List UInt8) (i : Nat) (es : List Ex) : Prop := (∀ es', DocR B i es' → DocR B 0 (es ++ es')) ∧ es.length ≤ i
/-- .. behind an expression. -/
def DcMid (B : List UInt8) (j : Nat) (es : List Ex) : Prop := (∀ j' es', EndR B j j' → DocR B j' es' → DocR B 0 (es ++ es')) ∧ es.length ≤ j
theorem DcRel.first (B : List UInt8) : DcRel B 0 [] := ⟨fun _ h => h, Nat.le_refl _⟩
theorem DcRel.done {B : List UInt8} {i : Nat} {es : List Ex} (h : DcRel B i es) (hi : B.length ≤ i) : DocR B 0 es := by
  have := h.1 [] (.done hi)
  rwa [List.append_nil] at this
theorem DcMid.next {B : List UInt8} {j j' : Nat} {es : List Ex} (h : DcMid B j es) (he : EndR B j j') (hj : j ≤ j') : DcRel B j' es := ⟨fun es' hd => h.1 j' es' he hd, Nat.le_trans h.2 hj⟩
theorem DcRel.empty {B : List UInt8} {i : Nat} {es : List Ex} (h : DcRel B i es) (h1 : i < B.length) (h2 : B.length ≤ skp B i ∨ pk B (skp B i) = 35 ∨ pk B (skp B i) = 10 ∨ pk B (skp B i) = 13) (h3 : pk B (skp B i) ≠ 91) : DcMid B (skp B i) es :=
  ⟨fun _ es' he hd => h.1 es' (.empty h1 h2 h3 he hd), Nat.le_trans h.2 (skp_ge B i)⟩
theorem DcRel.head {B : List UInt8} {i m : Nat} {es : List Ex} {ks : List (List UInt8)} (h : DcRel B i es) (h1 : i < B.length) (h2 : pk B (skp B i) = 91) (h3 : pk B (skp B i + 1) ≠ 91) (hk : KyR B (skp B i + 1) m ks) (hm : pk B m = 93) (hle : i ≤ m) : DcMid B (m + 1) (es ++ [⟨1, ks, Nd.none⟩]) :=
  ⟨fun j' es' he hd => by rw [List.append_assoc]; exact h.1 _ (.head h1 h2 h3 hk hm he hd), by have := h.2; simp; omega⟩
theorem DcRel.heads {B : List UInt8} {i m : Nat} {es : List Ex} {ks : List (List UInt8)} (h : DcRel B i es) (h1 : i < B.length) (h2 : pk B (skp B i) = 91) (h3 : pk B (skp B i + 1) = 91) (hk : KyR B (skp B i + 2) m ks) (hm : pk B m = 93) (hm2 : pk B (m + 1) = 93) (hle : i ≤ m) : DcMid B (m + 2) (es ++ [⟨2, ks, Nd.none⟩]) :=
  ⟨fun j' es' he hd => by rw [List.append_assoc]; exact h.1 _ (.heads h1 h2 h3 hk hm hm2 he hd), by have := h.2; simp; omega⟩
theorem DcRel.pair {B : List UInt8} {i m n : Nat} {es : List Ex} {ks : List (List UInt8)} {v : Nd} (h : DcRel B i es) (h1 : i < B.length) (h2 : skp B i < B.length) (h35 : pk B (skp B i) ≠ 35) (h10 : pk B (skp B i) ≠ 10) (h13 : pk B (skp B i) ≠ 13) (h91 : pk B (skp B i) ≠ 91)
    (hk : KyR B (skp B i) m ks) (hm : pk B m = 61) (hv : ValR B 51 (skp B (m + 1)) n v) (hle : i < n) : DcMid B n (es ++ [⟨0, ks, v⟩]) :=
  ⟨fun j' es' he hd => by rw [List.append_assoc]; exact h.1 _ (.pair h1 h2 h35 h10 h13 h91 hk hm hv he hd), by have := h.2; simp; omega⟩

/-- A block is known whole. -/
theorem blk_cell {w : World} {b : Nat} {l : Array Value} {t : TypeId} {f : Nat × Nat} (h : w.heap[b]? = some (.cells l t f)) (j : Nat) : w.cell? ⟨b, j, none⟩ = l[j]? := cell_of_row w b j l t f h
theorem blk_frozen {w : World} {b : Nat} {l : Array Value} {t : TypeId} (h : w.heap[b]? = some (.cells l t (0, 0))) (j : Nat) : w.frozen? ⟨b, j, none⟩ = false := by
  unfold World.frozen?
  rw [h]
  simp
end Go.Proofs.YtalmpddmhakdmaaGreat

/-
  Plain: the text a=1 is a document of one expression. Conditions: none.
-/
namespace Go.Proofs.YtalmpddmhakdmaaGreat
open Go.RowKit

abbrev B1 : List UInt8 := [97, 61, 49]
theorem doc_one : ∃ x, DocR B1 0 [x] := by
  have s0 : skp B1 0 = 0 := by decide
  have s1 : skp B1 1 = 1 := by decide
  have s2 : skp B1 2 = 2 := by decide
  have s3 : skp B1 3 = 3 := by decide
  have hk : KyR B1 0 1 [[97]] := by
    have h := KyR.last (B := B1) (i := 0) (m := 1) (t := [97]) (by rw [s0]; exact .inr ⟨by decide, by decide, by decide⟩) (by rw [s1]; decide)
    rwa [s1] at h
  have hg : GrpR B1 10 2 3 := by
    have h := GrpR.stop (B := B1) (base := 10) (i := 2) (by decide) (by decide)
    rwa [show 2 + dgN B1 2 10 = 3 by decide] at h
  have hn : NumR B1 2 (0 + 1) 1 := NumR.dec (s := 0) (n := 1) (kind := 1) (.inr ⟨rfl, by decide, by decide⟩) ⟨3, 3, 3, hg, by decide, .inl ⟨by decide, rfl⟩, .inl ⟨by decide, by decide, rfl⟩, rfl, rfl⟩ (by decide)
  have hv : ValR B1 51 2 3 (.mk 1 (cutB B1 2 1) [] []) := .inl (.num hn)
  have he : EndR B1 3 3 := ⟨3, by rw [s3]; exact .inr ⟨by decide, rfl⟩, .inl ⟨by decide, rfl⟩⟩
  exact ⟨_, .pair (i := 0) (m := 1) (n := 3) (j := 3) (by decide) (by rw [s0]; decide) (by rw [s0]; decide) (by rw [s0]; decide) (by rw [s0]; decide) (by rw [s0]; decide) (by rw [s0]; exact hk) (by decide) (by rw [s2]; exact hv) he (.done (by decide))⟩
end Go.Proofs.YtalmpddmhakdmaaGreat
