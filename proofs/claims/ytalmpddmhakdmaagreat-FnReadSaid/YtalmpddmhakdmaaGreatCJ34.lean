/-
  Plain: a document's expressions are well formed and not too many. Conditions: as each lemma states.
-/
import Derived.Test.YtalmpddmhakdmaaGreatCJ31
import Derived.Test.YtalmpddmhakdmaaGreatCJ32
import Derived.Test.YtalmpddmhakdmaaGreatCJ33
namespace Go.Proofs.YtalmpddmhakdmaaGreat
open Go.RowKit

theorem ItR.le {B : List UInt8} {V : Nat → Nat → Nd → Prop} (hV : ∀ a b v, V a b v → a ≤ b) {i j : Nat} {vs : List Nd} (h : ItR B V i j vs) : i ≤ j ∧ i + vs.length ≤ B.length + 1 := by
  induction h with
  | close h1 h2 =>
    have g1 := h1.ge
    have g2 : _ < B.length := pk_in (by rw [h2]; decide)
    simp
    omega
  | last h1 _ h3 h4 h5 =>
    have g1 := h1.ge
    have g2 := hV _ _ _ h3
    have g3 := h4.ge
    have g4 : _ < B.length := pk_in (by rw [h5]; decide)
    simp
    omega
  | comma h1 _ h3 h4 h5 _ ih =>
    have g1 := h1.ge
    have g2 := hV _ _ _ h3
    have g3 := h4.ge
    have g4 : _ < B.length := pk_in (by rw [h5]; decide)
    simp
    omega
theorem PrR.le {B : List UInt8} {V : Nat → Nat → Nd → Prop} (hV : ∀ a b v, V a b v → a ≤ b) {i j : Nat} {vs : List Nd} (h : PrR B V i j vs) : i ≤ j ∧ i + vs.length ≤ B.length + 1 := by
  induction h with
  | @last i m n ks v h1 h2 h3 h4 =>
    have g1 := h1.len
    have g2 := hV _ _ _ h3
    have g3 := skp_ge B (m + 1)
    have g5 := skp_ge B n
    have g4 : _ < B.length := pk_in (k := YtalmpddmhakdmaaGreat.skp B n) (by rw [h4]; decide)
    simp
    omega
  | @comma i m n j ks v vs h1 h2 h3 h4 h5 ih =>
    have g1 := h1.len
    have g2 := hV _ _ _ h3
    have g3 := skp_ge B (m + 1)
    have g5 := skp_ge B n
    have g4 : _ < B.length := pk_in (k := YtalmpddmhakdmaaGreat.skp B n) (by rw [h4]; decide)
    simp
    omega
theorem ValR.le {B : List UInt8} : ∀ {d i j : Nat} {v : Nd}, ValR B d i j v → i ≤ j
  | 0, _, _, _, h => h.elim
  | d + 1, i, j, v, h => by
    rcases h with h | ⟨_, vs, h, rfl⟩ | ⟨_, _, rfl, rfl⟩ | ⟨_, _, vs, h, rfl⟩
    · cases h with
      | lines hq _ h =>
        have := h.len (by rcases hq with rfl | rfl <;> decide)
        omega
      | text _ _ _ h =>
        have := h.len
        omega
      | yes _ _ _ _ => omega
      | no _ _ _ _ _ => omega
      | num h => omega
    · have := (h.le fun _ _ _ => ValR.le).1
      omega
    · have := skp_ge B (i + 1)
      omega
    · have := (h.le fun _ _ _ => ValR.le).1
      have := skp_ge B (i + 1)
      omega
theorem Bd.wk {d : Nat} {x : Nd} (h : Bd d x) {ks : List (List UInt8)} (hk : ks.length ≤ 300000) : Bd d (x.wk ks) := by
  cases d with
  | zero => exact h.elim
  | succ d =>
    obtain ⟨kind, text, items, keys⟩ := x
    exact ⟨hk, h.2⟩
theorem ItR.bd {B : List UInt8} {V : Nat → Nat → Nd → Prop} {d : Nat} (hV : ∀ a b v, V a b v → Bd d v) {i j : Nat} {vs : List Nd} (h : ItR B V i j vs) : ∀ v ∈ vs, Bd d v := h.nok (Q := Bd d) hV
theorem PrR.bd {B : List UInt8} (hB : B.length ≤ 65536) {V : Nat → Nat → Nd → Prop} {d : Nat} (hV : ∀ a b v, V a b v → Bd d v) {i j : Nat} {vs : List Nd} (h : PrR B V i j vs) : ∀ v ∈ vs, Bd d v := by
  induction h with
  | last h1 _ h2 _ =>
    intro v hv
    rw [List.mem_singleton.1 hv]
    have := h1.len
    exact (hV _ _ _ h2).wk (by omega)
  | comma h1 _ h2 _ _ ih =>
    intro v hv
    rcases List.mem_cons.1 hv with rfl | hv
    · have := h1.len
      exact (hV _ _ _ h2).wk (by omega)
    · exact ih v hv
theorem ValR.bd {B : List UInt8} (hB : B.length ≤ 65536) : ∀ {d i j : Nat} {v : Nd}, ValR B d i j v → Bd d v
  | 0, _, _, _, h => h.elim
  | d + 1, i, j, v, h => by
    have h0 : ∀ kind t, Bd (d + 1) (.mk kind t [] []) := fun _ _ => ⟨by simp, by simp, fun _ hv => by cases hv⟩
    rcases h with h | ⟨_, vs, h, rfl⟩ | ⟨_, _, rfl, rfl⟩ | ⟨_, _, vs, h, rfl⟩
    · cases h with
      | lines _ _ _ => exact h0 _ _
      | text _ _ _ _ => exact h0 _ _
      | yes _ _ _ _ => exact h0 _ _
      | no _ _ _ _ _ => exact h0 _ _
      | num _ => exact h0 _ _
    · have := (h.le fun _ _ _ => ValR.le).2
      exact ⟨by simp, by omega, h.bd fun _ _ _ => ValR.bd hB⟩
    · exact h0 _ _
    · have := (h.le fun _ _ _ => ValR.le).2
      exact ⟨by simp, by omega, h.bd hB fun _ _ _ => ValR.bd hB⟩
/-- An expression is well formed. -/
def Ex.ok (x : Ex) : Prop := (x.kind = 0 ∨ x.kind = 1 ∨ x.kind = 2) ∧ x.keys ≠ [] ∧ x.keys.length ≤ 300000 ∧ (x.kind = 0 → NoK 51 x.val ∧ Bd 51 x.val)
theorem DocR.ok {B : List UInt8} (hB : B.length ≤ 65536) {i : Nat} {es : List Ex} (h : DocR B i es) : ∀ x ∈ es, x.ok := by
  induction h with
  | done _ => intro x hx; cases hx
  | empty _ _ _ _ _ ih => exact ih
  | @head i m j ks es _ _ _ hk _ _ _ ih =>
    intro x hx
    rcases List.mem_cons.1 hx with rfl | hx
    · have := hk.len
      have hkl : ks.length ≤ 300000 := by omega
      exact ⟨.inr (.inl rfl), this.1, hkl, fun e => absurd e (by show ¬ (1 : Int) = 0; decide)⟩
    · exact ih x hx
  | @heads i m j ks es _ _ _ hk _ _ _ _ ih =>
    intro x hx
    rcases List.mem_cons.1 hx with rfl | hx
    · have := hk.len
      have hkl : ks.length ≤ 300000 := by omega
      exact ⟨.inr (.inr rfl), this.1, hkl, fun e => absurd e (by show ¬ (2 : Int) = 0; decide)⟩
    · exact ih x hx
  | @pair i m n j ks v es _ _ _ _ _ _ hk _ hv _ _ ih =>
    intro x hx
    rcases List.mem_cons.1 hx with rfl | hx
    · have := hk.len
      have hkl : ks.length ≤ 300000 := by omega
      exact ⟨.inl rfl, this.1, hkl, fun _ => ⟨hv.nok, hv.bd hB⟩⟩
    · exact ih x hx
theorem EndR.ge {B : List UInt8} {i j : Nat} (h : EndR B i j) : i ≤ j := by
  obtain ⟨m, hc, h⟩ := h
  have h1 := skp_ge B i
  have h2 : skp B i ≤ m := by
    rcases hc with ⟨h35, hc⟩ | ⟨_, rfl⟩
    · exact (hc.le (Nat.le_of_lt (pk_in (by rw [h35]; decide)))).1
    · exact Nat.le_refl _
  omega
theorem DocR.count {B : List UInt8} {i : Nat} {es : List Ex} (h : DocR B i es) : es.length ≤ B.length - i := by
  induction h with
  | done _ => simp
  | @empty i j es h1 h2 h3 h4 _ ih =>
    have := h4.ge
    have := skp_ge B i
    omega
  | @head i m j ks es h1 h2 _ hk hm he _ ih =>
    have g1 := hk.len
    have g2 : m < B.length := pk_in (by rw [hm]; decide)
    have g3 := he.ge
    have := skp_ge B i
    simp
    omega
  | @heads i m j ks es h1 h2 _ hk hm hm2 he _ ih =>
    have g1 := hk.len
    have g2 : m + 1 < B.length := pk_in (by rw [hm2]; decide)
    have g3 := he.ge
    have := skp_ge B i
    simp
    omega
  | @pair i m n j ks v es h1 h2 _ _ _ _ hk hm hv he _ ih =>
    have g1 := hk.len
    have g2 : m < B.length := pk_in (by rw [hm]; decide)
    have g4 := hv.le
    have g5 := skp_ge B (m + 1)
    have := skp_ge B i
    simp
    have g3 := he.ge
    omega
end Go.Proofs.YtalmpddmhakdmaaGreat

/-
  Plain: expressions under way beside the parser; what the nodes of an expression give to its readers. Conditions: as each lemma states.
-/
namespace Go.Proofs.YtalmpddmhakdmaaGreat
open Go.RowKit

/-- A row stays as it was where its block does. -/
theorem ownsRow_same {w w' : World} {base e size n : Nat} {v : Value} {cs : List Value} (h : w.ownsRow base e size v n cs) (hb : ∀ k, v.ownBlock = some k → w'.heap[k]? = w.heap[k]?) : w'.ownsRow base e size v n cs :=
  ⟨h.1, h.2.imp id fun ⟨g, cap, cur, h1, h2, h3, r⟩ => ⟨g, cap, cur, h1, h2, (hb g (by rw [h1]; rfl)).trans h3, r⟩⟩
/-- Expressions under way, beside the parser. -/
structure EW (base : Nat) (v : Value) (n : Nat) (cs : List Value) (es : List Ex) (w : World) (pp db : Nat) (nv : Value) : Prop where
  own : w.ownsRow base 67 6 v n cs
  len : es.length = n
  sep : ∀ k, v.ownBlock = some k → Sf w pp nv k ∧ k ≠ db
  row : ∃ P : Nat → Prop, ERow P w cs es ∧ ∀ b, P b → base ≤ b ∧ Sf w pp nv b ∧ v.ownBlock ≠ some b
theorem EW.nil (base : Nat) (w : World) (pp db : Nat) (nv : Value) : EW base (.slice none 0 0) 0 [] [] w pp db nv :=
  ⟨World.ownsRow_nil _ _ _ _, rfl, (by intro k h; cases h), fun _ => False, ERow.nil _ _, fun _ h => h.elim⟩
theorem EW.fr {base n pp db : Nat} {v nv nv' : Value} {cs : List Value} {es : List Ex} {w w' : World} (h : EW base v n cs es w pp db nv) (hF : Fr w w' pp nv nv') : EW base v n cs es w' pp db nv' :=
  ⟨ownsRow_same h.own fun k hk => (hF.sf (h.sep k hk).1).2, h.len, fun k hk => ⟨(hF.sf (h.sep k hk).1).1, (h.sep k hk).2⟩, by
    obtain ⟨P, h1, h2⟩ := h.row
    exact ⟨P, h1.frame (fun b hb => (hF.sf (h2 b hb).2.1).2) fun _ h => h, fun b hb => ⟨(h2 b hb).1, (hF.sf (h2 b hb).2.1).1, (h2 b hb).2.2⟩⟩⟩
theorem EW.form {base n pp db : Nat} {v nv : Value} {cs : List Value} {es : List Ex} {w : World} (h : EW base v n cs es w pp db nv) : ∃ p c, v = .slice p n c := by
  rcases h.own.2 with ⟨h1, h2⟩ | ⟨g, cap, cur, h1, _⟩
  · exact ⟨none, 0, by rw [h1, h2]⟩
  · exact ⟨_, _, h1⟩
theorem EW.lenOf {base n pp db : Nat} {v nv : Value} {cs : List Value} {es : List Ex} {w : World} (h : EW base v n cs es w pp db nv) : YtalmpddmhakdmaaGreat.lenOf v = n := by
  obtain ⟨p, c, rfl⟩ := h.form
  rfl
/-- Behind the append of an expression. -/
theorem EW.app {base n pp db : Nat} {v nv : Value} {cs c6 : List Value} {es : List Ex} {x : Ex} {w3 w4 : World} {ob : Obj} (h : EW base v n cs es w3 pp db nv) (g cap : Nat)
    (h6 : c6.length = 6) (ho : w4.ownsRow base 67 6 (.slice (some ⟨g, 0, none⟩) (n + 1) cap) (n + 1) (cs ++ c6)) (hg : (w3.alloc ob).grownBy w4 v.ownBlock)
    (hgl : v.ownBlock = some g ∨ g = (w3.alloc ob).heap.size) (hpp : pp < w3.heap.size) (hdb : db < w3.heap.size) (hnv : ∀ k, nv.ownBlock = some k → k < w3.heap.size)
    (hx : ∃ P : Nat → Prop, (∀ b, P b → base ≤ b ∧ Sf w3 pp nv b ∧ v.ownBlock ≠ some b) ∧ ExAt P w3 c6 x) :
    EW base (.slice (some ⟨g, 0, none⟩) (n + 1) cap) (n + 1) (cs ++ c6) (es ++ [x]) w4 pp db nv := by
  have hsz : (w3.alloc ob).heap.size = w3.heap.size + 1 := World.size_alloc _ _
  have hold : ∀ b, b < w3.heap.size → (w3.alloc ob).heap[b]? = w3.heap[b]? := fun b hb => (World.grownBy_alloc w3 ob none).block b hb (by simp)
  have hsz4 := hg.size
  obtain ⟨P, h2, h3⟩ := h.row
  obtain ⟨P3, hP3, hx3⟩ := hx
  have hsf : ∀ b, Sf w3 pp nv b → Sf w4 pp nv b := fun b hb => ⟨by have := hb.1; omega, hb.2⟩
  have hfr : ∀ b, (P b ∨ P3 b) → base ≤ b ∧ Sf w3 pp nv b ∧ v.ownBlock ≠ some b := fun b hb => hb.elim (h3 b) (hP3 b)
  have hbl : ∀ b, (P b ∨ P3 b) → w4.heap[b]? = w3.heap[b]? := fun b hb => by
    obtain ⟨g1, g2, g3⟩ := hfr b hb
    have := g2.1
    exact (hg.block b (by omega) (fun e => g3 e.symm)).trans (hold b g2.1)
  refine ⟨ho, by rw [List.length_append, h.len]; rfl, fun k hk => ?_, fun b => P b ∨ P3 b, ERow.app (h2.frame (fun b hb => hbl b (.inl hb)) fun _ hb => .inl hb) h6 (hx3.frame (fun b hb => hbl b (.inr hb)) fun _ hb => .inr hb), fun b hb => ?_⟩
  · have ek : g = k := by simpa [Value.ownBlock] using hk
    subst ek
    rcases hgl with e | e
    · exact ⟨hsf _ (h.sep _ e).1, (h.sep _ e).2⟩
    · have hlt := (World.ownsRow.lt ho g rfl).2
      exact ⟨⟨hlt, by omega, fun e2 => by have := hnv g e2; omega⟩, by omega⟩
  · obtain ⟨g1, g2, g3⟩ := hfr b hb
    refine ⟨g1, hsf b g2, fun e => ?_⟩
    have eg : g = b := by simpa [Value.ownBlock] using e
    subst eg
    rcases hgl with e2 | e2
    · exact g3 e2
    · have := g2.1
      omega
/-- What is handed back at the end. -/
theorem EW.reads {base n pp db : Nat} {v nv : Value} {cs : List Value} {es : List Ex} {w : World} (h : EW base v n cs es w pp db nv) :
    ∃ P : Nat → Prop, (∀ b, P b → b < w.heap.size) ∧ ExsAt P w v es := by
  obtain ⟨P, h2, h3⟩ := h.row
  have h1 := h.len
  subst h1
  refine ⟨fun b => P b ∨ v.ownBlock = some b, fun b hb => ?_, ?_⟩
  · rcases hb with hb | hb
    · exact (h3 b hb).2.1.1
    · exact (World.ownsRow.lt h.own b hb).2
  rcases h.own.2 with ⟨e1, e2⟩ | ⟨g, cap, cur, rfl, _⟩
  · have : es = [] := List.eq_nil_of_length_eq_zero e2
    subst this
    exact ⟨none, 0, e1, .inl rfl⟩
  · refine ⟨some ⟨g, 0, none⟩, cap, rfl, .inr ⟨_, rfl, .inr rfl, fun j x hj => ⟨(cs.drop (6 * j)).take 6, ?_, fun i u hu => ?_, (h2.2 j x hj).frame (fun _ _ => rfl) fun b hb => .inl hb⟩⟩⟩
    · have e1 := h2.1
      have e2 := (List.getElem?_eq_some_iff.1 hj).1
      rw [List.length_take, List.length_drop]
      omega
    · rw [List.getElem?_take] at hu
      split at hu
      · rw [List.getElem?_drop] at hu
        exact World.ownsRow.cells h.own (g := g) rfl _ _ hu
      · cases hu
/-- What holds at the head of impl's loop. -/
def RdL (w : World) (pp db C : Nat) (B : List UInt8) (es : List Ex) (v : Value) (wr : World) : Prop :=
  ∃ (i n : Nat) (es1 es2 : List Ex) (cs : List Value) (nv : Value) (ns : List PN), es = es1 ++ es2 ∧ DocR B i es2 ∧ NxA wr pp db C B nv ns i ∧ EW w.heap.size v n cs es1 wr pp db nv ∧ w.grownBy wr none ∧ ∀ k, nv.ownBlock = some k → w.heap.size ≤ k
theorem fr_grown {w wr w1 : World} {pp : Nat} {nv nv' : Value} (hg : w.grownBy wr none) (hF : Fr wr w1 pp nv nv') (hpp : w.heap.size ≤ pp) (hnv : ∀ k, nv.ownBlock = some k → w.heap.size ≤ k) : w.grownBy w1 none ∧ ∀ k, nv'.ownBlock = some k → w.heap.size ≤ k := by
  have hsz := hg.size
  have hsz1 := hF.size
  refine ⟨⟨hF.os.trans hg.os, hF.tape.trans hg.tape, hF.output.trans hg.output, Nat.le_trans hsz hsz1, fun k hk _ => (hF.block k (by omega) (by omega) fun e => by have := hnv k e; omega).trans (hg.block k hk (by simp))⟩, fun k hk => ?_⟩
  rcases hF.row with e | e
  · exact hnv k (by rw [← e]; exact hk)
  · have := e k hk
    omega
theorem NxA.keeps {w w' : World} {pp db C i : Nat} {B : List UInt8} {nv : Value} {ns : List PN} (h : NxA w pp db C B nv ns i) (hp : w'.heap[pp]? = w.heap[pp]?) (hd : w'.heap[db]? = w.heap[db]?) (hr : ∀ k, nv.ownBlock = some k → w'.heap[k]? = w.heap[k]?) (hs : w.heap.size ≤ w'.heap.size) : NxA w' pp db C B nv ns i := by
  obtain ⟨h1, v, h2, h3⟩ := h
  exact ⟨h1.keeps hp hd hr hs, v, (World.cell?_of_block (w := w) hp).trans h2, h3⟩
/-- Behind the append: the loop's head again. -/
theorem RdL.app {w w1 w6 w4 : World} {pp db C j n : Nat} {B : List UInt8} {es es1 es' : List Ex} {x : Ex} {v nv : Value} {cs c6 : List Value} {ns : List PN} {ob : Obj} (hes : es = es1 ++ x :: es') (hd : DocR B j es') (hA : NxA w1 pp db C B nv ns j) (hE : EW w.heap.size v n cs es1 w1 pp db nv)
    (hgw : w.grownBy w1 none) (hfr : ∀ k, nv.ownBlock = some k → w.heap.size ≤ k) (hg6 : w1.grownBy w6 none) (g cap : Nat) (h6 : c6.length = 6) (ho : w4.ownsRow w.heap.size 67 6 (.slice (some ⟨g, 0, none⟩) (n + 1) cap) (n + 1) (cs ++ c6)) (hg : (w6.alloc ob).grownBy w4 v.ownBlock)
    (hgl : v.ownBlock = some g ∨ g = (w6.alloc ob).heap.size) (hx : ∃ P : Nat → Prop, (∀ b, P b → w1.heap.size ≤ b ∧ b < w6.heap.size) ∧ ExAt P w6 c6 x) :
    RdL w pp db C B es (.slice (some ⟨g, 0, none⟩) (n + 1) cap) w4 := by
  have hE6 := hE.fr (Fr.grown pp nv hg6)
  have hsz : (w6.alloc ob).heap.size = w6.heap.size + 1 := World.size_alloc _ _
  have hsz1 := hg6.size
  have hszw := hgw.size
  have hsz4 := hg.size
  have hpp := hA.1.in_heap.1
  have hdb := hA.1.dbh
  have hnv : ∀ k, nv.ownBlock = some k → k < w1.heap.size := fun k hk => (World.ownsRow.lt hA.1.own k hk).2
  obtain ⟨P, hP, hxa⟩ := hx
  have hE4 := hE6.app g cap h6 ho hg hgl (by omega) (by omega) (fun k hk => by have := hnv k hk; omega) ⟨P, fun b hb => by
    have h1 := hP b hb
    refine ⟨by omega, ⟨h1.2, by omega, fun e => by have := hnv b e; omega⟩, fun e => ?_⟩
    have := (World.ownsRow.lt hE.own b e).2
    omega, hxa⟩
  have hal := World.grownBy_alloc w6 ob none
  have hbl : ∀ b, b < w1.heap.size → v.ownBlock ≠ some b → w4.heap[b]? = w1.heap[b]? := fun b hb hne =>
    (hg.block b (by omega) (fun e => hne e.symm)).trans ((hal.block b (by omega) (by simp)).trans (hg6.block b hb (by simp)))
  refine ⟨j, n + 1, es1 ++ [x], es', _, nv, ns, by rw [hes]; simp, hd, hA.keeps (hbl pp hpp fun e => (hE.sep pp e).1.2.1 rfl) (hbl db hdb fun e => (hE.sep db e).2 rfl) (fun k hk => hbl k (hnv k hk) fun e => (hE.sep k e).1.2.2 hk) (by omega), hE4, ?_, hfr⟩
  exact grow (gtrans (gtrans hgw hg6) hal) hg fun k hk => (World.ownsRow.lt hE.own k hk).1

theorem Nd.wk_nil (v : Nd) (ks : List (List UInt8)) : (v.wk ks).wk [] = v.wk [] := by cases v; rfl
theorem NoK.wk0 {d : Nat} {v : Nd} (h : NoK d v) : v.wk [] = v := by
  cases d with
  | zero => exact h.elim
  | succ d =>
    obtain ⟨kind, text, items, keys⟩ := v
    obtain ⟨rfl, _⟩ := h
    rfl
theorem KyN.len {M : Value → List UInt8 → Prop} {ns : List PN} {i : Nat} {ks : List (List UInt8)} (h : KyN M ns i ks) (hne : ks ≠ []) : i + ks.length ≤ ns.length := by
  have hl := List.length_pos_iff.2 hne
  obtain ⟨t, ht⟩ : ∃ t, ks[ks.length - 1]? = some t := ⟨_, List.getElem?_eq_getElem (by omega)⟩
  obtain ⟨x, hx, _⟩ := h.at ht
  have := (List.getElem?_eq_some_iff.1 hx).1
  omega
/-- What the nodes of a key with its value give. -/
theorem rd_pair {w : World} {pp gb cap : Nat} {ns : List PN} {x : Ex} (hR : Rd w pp gb cap ns) (hgb : gb < w.heap.size) (hx : ExN (Tx w) ns x) (h0 : x.kind = 0) (hok : x.ok) :
    w.cell? ⟨gb, 0, none⟩ = some (.int .i64 5) ∧ (∀ W, w.grownBy W none → Calls Tryz.prog 19 #[NP gb 0] W fun e w' => ∃ v, e = .returned v ∧ OwnS w' W.heap.size v x.keys ∧ W.grownBy w' none) ∧
    ∃ lo, (∀ W, w.grownBy W none → Calls Tryz.prog 21 #[NP gb 0] W fun e w' => e = .returned (NP gb lo) ∧ ∃ q, w' = W.drewN q) ∧ ∀ W, w.grownBy W none → Calls Tryz.prog 20 #[NP gb lo] W (NofQ 51 W x.val) := by
  obtain ⟨hl, ⟨_, hkv⟩ | ⟨h12, _⟩⟩ := hx
  · obtain ⟨r, y, hr, hk5, hky, hkne, hch, hvl, hy, hyn⟩ := hkv
    have hks : (x.val.wk x.keys).ks = x.keys := by cases x.val; rfl
    rw [hks] at hky hkne hch hvl hy
    rw [Nat.zero_add] at hky hch hvl hy
    obtain ⟨kk, hkk⟩ := vln_kind hy hvl
    have hyk : y.kind ≠ 0 := by rw [hkk]; exact kdP_ne kk
    obtain ⟨t0, ht0⟩ : ∃ t0, x.keys[0]? = some t0 := ⟨_, List.getElem?_eq_getElem (List.length_pos_iff.2 hkne)⟩
    obtain ⟨z, hz, hzk, _, _⟩ := hky.at ht0
    have c0 := hR.kind hr
    rw [hk5] at c0
    refine ⟨c0, fun W hW => keys_of (n := 0) (hR.grown hW) (hky.same (fun _ _ h => h.grown hW) fun _ _ _ => rfl) hkne (by have h1 := hky.len hkne; omega) (Nat.lt_of_lt_of_le hgb hW.size) fun W2 hR2 => key_kv hR2 hr hk5 (c := 1 + x.keys.length) hch hy hyk hyn hz (by rw [hzk]; decide), 1 + x.keys.length, fun W hW => val_any (hR.grown hW) hr (Lk.step hch hy hyk), fun W hW => ?_⟩
    have hnk := (hok.2.2.2 h0).1
    have hvl2 : VlN (Tx W) ns 51 (1 + x.keys.length) ns.length x.val := by
      have h1 := (hvl.mono fun _ _ h => Tx.grown h hW).wk []
      rwa [Nd.wk_nil, hnk.wk0] at h1
    exact node_of 51 W pp gb cap ns (1 + x.keys.length) ns.length x.val (hR.grown hW) (Nat.lt_of_lt_of_le hgb hW.size) hvl2 hnk
  · rw [h0] at h12
    rcases h12 with h | h <;> cases h
/-- What the nodes of a head give. -/
theorem rd_head {w : World} {pp gb cap : Nat} {ns : List PN} {x : Ex} (hR : Rd w pp gb cap ns) (hgb : gb < w.heap.size) (hx : ExN (Tx w) ns x) (h0 : x.kind = 1 ∨ x.kind = 2) (hok : x.ok) :
    w.cell? ⟨gb, 0, none⟩ = some (.int .i64 (2 + x.kind)) ∧ ∀ W, w.grownBy W none → Calls Tryz.prog 19 #[NP gb 0] W fun e w' => ∃ v, e = .returned v ∧ OwnS w' W.heap.size v x.keys ∧ W.grownBy w' none := by
  obtain ⟨hl, ⟨h1, _⟩ | ⟨_, r, hr, hk, hch, hky⟩⟩ := hx
  · rcases h0 with h | h <;> (rw [h1] at h; cases h)
  · have hkne := hok.2.1
    obtain ⟨t0, ht0⟩ : ∃ t0, x.keys[0]? = some t0 := ⟨_, List.getElem?_eq_getElem (List.length_pos_iff.2 hkne)⟩
    obtain ⟨z, hz, hzk, _, _⟩ := hky.at ht0
    have c0 := hR.kind hr
    rw [hk] at c0
    exact ⟨c0, fun W hW => keys_of (n := 0) (hR.grown hW) (hky.same (fun _ _ h => h.grown hW) fun _ _ _ => rfl) hkne (by have h1 := hky.len hkne; omega) (Nat.lt_of_lt_of_le hgb hW.size) fun W2 hR2 => key_tb hR2 hr (by rw [hk]; rcases h0 with h | h <;> rw [h] <;> decide) hch hz (by rw [hzk]; decide)⟩
end Go.Proofs.YtalmpddmhakdmaaGreat

/-
  The walks of functions: a parser is set up for a text (16, 15). Conditions: as stated.
-/
namespace Go.Proofs.YtalmpddmhakdmaaGreat
open Go.RowKit

/-- A copy of a text. -/
def ClQ (B : List UInt8) (w : World) (e : Ending) (w' : World) : Prop :=
  ∃ g C, e = .returned (.slice (some ⟨g, 0, none⟩) B.length C) ∧ w.grownBy w' none ∧ w.heap.size ≤ g ∧ g < w'.heap.size ∧ Dt w' g B ∧ B.length ≤ C ∧ C ≤ maxLen
set_option maxRecDepth 100000 in
set_option maxHeartbeats 4000000 in
theorem clone_void (w : World) (a0 : Addr) (c : Nat) : Calls Tryz.prog 16 #[.slice (some a0) 0 c] w (ClQ [] w) := by
  have hnn : (binOp .eql 22 (.slice (some a0) 0 c) (.slice none 0 0)).run Tryz.prog w = .ok (.bool false) w := by
    have := Lib.run_eql_slice_nil (P := Tryz.prog) w 22 5 (some a0) 0 c 0 0 Tryz.u22
    exact this
  have HG := Lib.hid (show ClQ [] w (.returned (.slice (some ⟨w.heap.size, 0, none⟩) 0 0)) (w.alloc (.cells #[] 5)) from
    ⟨w.heap.size, 0, rfl, World.grownBy_alloc w _ none, Nat.le_refl _, by rw [World.size_alloc]; omega, ⟨by simp, fun i u hu => by cases hu⟩, Nat.le_refl _, by decide⟩)
  go_enter Tryz.func16, Tryz.ntmps16
  go_wp2_with fail
  go_ret
  exact HG.out
theorem clone_any {w : World} {a0 : Addr} {c : Nat} {B : List UInt8} (hl : B.length ≤ 65536) (hd : ∀ i u, B[i]? = some u → w.cell? (a0.add i) = some (.int .u8 (u.toNat : Int))) :
    Calls Tryz.prog 16 #[.slice (some a0) B.length c] w (ClQ B w) := by
  by_cases hne : B = []
  · subst hne
    exact clone_void w a0 c
  · have ha : a0.block < w.heap.size := by
      obtain ⟨u, l, rfl⟩ := List.exists_cons_of_ne_nil hne
      have := cell_lt (hd 0 u rfl)
      rwa [add_block] at this
    refine (clone_full (c := c) hne hl hd ha).mono ?_
    rintro e w' ⟨g, C, rfl, h1, h2, h3⟩
    have h4 := (World.ownsRow.lt h3 g rfl).2
    refine ⟨g, C, rfl, h1, h2, h4, ⟨hl, fun i u hu => ?_⟩, ?_, ?_⟩
    · have := World.ownsRow.cells h3 (g := g) rfl i (.int .u8 (u.toNat : Int)) (by rw [List.getElem?_map, hu]; rfl)
      rwa [show (⟨g, 0, none⟩ : Addr).add i = ⟨g, i, none⟩ by unfold Addr.add; split <;> simp_all] at this
    · rcases h3.2 with ⟨e, _⟩ | ⟨g', cap, cur, e, _, _, h5, h6, _⟩
      · cases e
      · cases e
        exact h5
    · rcases h3.2 with ⟨e, _⟩ | ⟨g', cap, cur, e, _, _, h5, h6, _⟩
      · cases e
      · cases e
        exact h6
set_option maxRecDepth 100000 in
set_option maxHeartbeats 4000000 in
theorem clone_nil (w : World) (c : Nat) : Calls Tryz.prog 16 #[.slice none 0 c] w fun e w' => e = .returned (.slice none 0 0) ∧ w' = w := by
  have hnn : (binOp .eql 22 (.slice none 0 c) (.slice none 0 0)).run Tryz.prog w = .ok (.bool true) w := by
    have := Lib.run_eql_slice_nil (P := Tryz.prog) w 22 5 none 0 c 0 0 Tryz.u22
    exact this
  go_enter Tryz.func16, Tryz.ntmps16
  go_wp2_with fail
  go_ret
  exact ⟨rfl, rfl⟩
/-- The parser is set up: it stands at the text's begin. -/
theorem start_any {w : World} {pp db C : Nat} {B : List UInt8} (hb : w.heap[pp]? = some (.cells Z49 49 (0, 0))) (hd : Dt w db B) (hne : db ≠ pp) (hdb : db < w.heap.size) (h1 : B.length ≤ C) (h2 : C ≤ maxLen) :
    Calls Tryz.prog 15 #[.pointer (some ⟨pp, 0, none⟩), .slice (some ⟨db, 0, none⟩) B.length C] w fun e w' => e = .returned (.tuple #[]) ∧ w.grownBy w' (some pp) ∧ NxA w' pp db C B (.slice none 0 0) [] 0 := by
  refine (reset_new hb).mono ?_
  rintro e w' ⟨rfl, hg, hb'⟩
  have hbl : w'.heap[db]? = w.heap[db]? := hg.block db hdb (by simp; omega)
  have hc : ∀ j, w'.cell? ⟨pp, j, none⟩ = (#[.bool false, .slice (some ⟨db, 0, none⟩) B.length C, .slice (some ⟨db, 0, none⟩) B.length C, .slice none 0 0, .nilIface, .int .i64 0] : Array Value)[j]? := fun j => cell_of_row _ _ j _ _ _ hb'
  refine ⟨rfl, hg, ⟨hd.of fun _ => hbl, hc 0, hc 1, hc 3, hc 5, frozen_of_row _ _ 3 _ _ hb', frozen_of_row _ _ 5 _ _ hb', World.ownsRow_nil _ _ _ _, hne, (by intro e; cases e), (by intro e; cases e), h1, h2, Nat.lt_of_lt_of_le hdb hg.size, (fun x hx => by cases hx), ⟨_, hc 2⟩, frozen_of_row _ _ 2 _ _ hb', hc 4⟩, _, hc 2, At.mk 0 B.length C rfl (by omega) (by omega) h1 fun _ => rfl⟩
set_option maxRecDepth 100000 in
set_option maxHeartbeats 4000000 in
theorem reset_nil {w : World} {pp : Nat} (hb : w.heap[pp]? = some (.cells Z49 49 (0, 0))) :
    Calls Tryz.prog 15 #[.pointer (some ⟨pp, 0, none⟩), .slice none 0 0] w fun e w' => e = .returned (.tuple #[]) ∧ w.grownBy w' (some pp) ∧ w'.heap[pp]? = some (.cells Z49 49 (0, 0)) := by
  have c1 : w.cell? ⟨pp, 1, none⟩ = some (.slice none 0 0) := by rw [cell_of_row _ _ 1 _ _ _ hb]; rfl
  have c2 : w.cell? ⟨pp, 2, none⟩ = some (.slice none 0 0) := by rw [cell_of_row _ _ 2 _ _ _ hb]; rfl
  have c3 : w.cell? ⟨pp, 3, none⟩ = some (.slice none 0 0) := by rw [cell_of_row _ _ 3 _ _ _ hb]; rfl
  have c4 : w.cell? ⟨pp, 4, none⟩ = some .nilIface := by rw [cell_of_row _ _ 4 _ _ _ hb]; rfl
  have c5 : w.cell? ⟨pp, 5, none⟩ = some (.int .i64 0) := by rw [cell_of_row _ _ 5 _ _ _ hb]; rfl
  have f1 := frozen_of_row _ pp 1 _ _ hb
  have f2 := frozen_of_row _ pp 2 _ _ hb
  have f3 := frozen_of_row _ pp 3 _ _ hb
  have f4 := frozen_of_row _ pp 4 _ _ hb
  have f5 := frozen_of_row _ pp 5 _ _ hb
  have HB := Lib.hid hb
  clear hb
  go_enter Tryz.func15, Tryz.ntmps15
  go_wp2_with fail
  go_end0
  have h1 := blk_put HB.out 1 (.slice none 0 0)
  have h2 := blk_put h1 2 (.slice none 0 0)
  have h3 := blk_put h2 3 (.slice none 0 0)
  have h4 := blk_put h3 4 .nilIface
  have h5 := blk_put h4 5 (.int .i64 0)
  exact ⟨rfl, ⟨rfl, rfl, rfl, by simp [World.setCell], fun k _ hne => by
    have hk : k ≠ pp := fun e => hne (by rw [e])
    rw [Below.heap_setCell _ _ _ _ hk, Below.heap_setCell _ _ _ _ hk, Below.heap_setCell _ _ _ _ hk, Below.heap_setCell _ _ _ _ hk, Below.heap_setCell _ _ _ _ hk]⟩, h5⟩
set_option maxRecDepth 100000 in
set_option maxHeartbeats 4000000 in
theorem skip_nil (w : World) : Calls Tryz.prog 34 #[.slice none 0 0] w fun e w' => e = .returned (.slice none 0 0) ∧ w' = w := by
  go_enter Tryz.func34, Tryz.ntmps34
  go_wp2_with fail
  go_loopw [0] (fun v wr => v = .slice none 0 0 ∧ w = wr) (fun _ _ => 0)
  case atStart => exact ⟨rfl, rfl⟩
  case round =>
    obtain ⟨rfl, rfl⟩ := hrel
    go_wp2_with fail
    go_ret
    exact ⟨rfl, rfl⟩
set_option maxRecDepth 100000 in
set_option maxHeartbeats 4000000 in
theorem next_nil {w : World} {pp : Nat} (hb : w.heap[pp]? = some (.cells Z49 49 (0, 0))) :
    Calls Tryz.prog 17 #[.pointer (some ⟨pp, 0, none⟩)] w fun e w' => e = .returned (.bool false) ∧ w.grownBy w' (some pp) ∧ w'.heap[pp]? = some (.cells Z49 49 (0, 0)) := by
  have c2 : w.cell? ⟨pp, 2, none⟩ = some (.slice none 0 0) := by rw [cell_of_row _ _ 2 _ _ _ hb]; rfl
  have c3 : w.cell? ⟨pp, 3, none⟩ = some (.slice none 0 0) := by rw [cell_of_row _ _ 3 _ _ _ hb]; rfl
  have c4 : w.cell? ⟨pp, 4, none⟩ = some .nilIface := by rw [cell_of_row _ _ 4 _ _ _ hb]; rfl
  have f2 := frozen_of_row _ pp 2 _ _ hb
  have f3 := frozen_of_row _ pp 3 _ _ hb
  have HB := Lib.hid hb
  have h1 := Lib.hid (blk_put hb 3 (.slice none 0 0))
  have hg1 := Lib.hid (show w.grownBy (w.setCell ⟨pp, 3, none⟩ (.slice none 0 0)) (some pp) from ⟨rfl, rfl, rfl, by simp [World.setCell], fun k _ hne => Below.heap_setCell _ _ _ _ fun e => hne (by rw [e])⟩)
  have HS := Lib.hid skip_nil
  clear hb
  go_enter Tryz.func17, Tryz.ntmps17
  go_wp2_with fail
  obtain ⟨w1, hw1⟩ : ∃ w1 : World, w.setCell ⟨pp, 3, none⟩ (.slice none 0 0) = w1 := ⟨_, rfl⟩
  rw [hw1] at h1 hg1 ⊢
  clear hw1 c2 c3 c4 f2 f3
  have hb := h1.out
  have c2 : w1.cell? ⟨pp, 2, none⟩ = some (.slice none 0 0) := by rw [cell_of_row _ _ 2 _ _ _ hb]; rfl
  have f2 := frozen_of_row _ pp 2 _ _ hb
  have h2 := Lib.hid (blk_put hb 2 (.slice none 0 0))
  have hg2 := Lib.hid (show w1.grownBy (w1.setCell ⟨pp, 2, none⟩ (.slice none 0 0)) (some pp) from ⟨rfl, rfl, rfl, by simp [World.setCell], fun k _ hne => Below.heap_setCell _ _ _ _ fun e => hne (by rw [e])⟩)
  clear hb
  go_loopw [] (fun wr => w1 = wr) (fun _ => 0)
  case atStart => rfl
  case round =>
    subst hrel
    go_wp2_with fail
    with_reducible refine (HS.out _).mono ?_
    rintro e w' ⟨rfl, hw'⟩
    rw [hw']
    clear hw' w'
    go_wp2_with fail
    go_ret
    exact ⟨rfl, ⟨hg2.out.os.trans hg1.out.os, hg2.out.tape.trans hg1.out.tape, hg2.out.output.trans hg1.out.output, Nat.le_trans hg1.out.size hg2.out.size, fun k hk hne => (hg2.out.block k (Nat.lt_of_lt_of_le hk hg1.out.size) hne).trans (hg1.out.block k hk hne)⟩, h2.out⟩
end Go.Proofs.YtalmpddmhakdmaaGreat
