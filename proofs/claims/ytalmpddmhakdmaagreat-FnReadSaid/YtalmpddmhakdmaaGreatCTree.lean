/-
  Plain: what a document tells (values, expressions), and the relations that say which signs tell it; and how values lie in memory. Conditions: as each lemma states.
-/
import Derived.Test.YtalmpddmhakdmaaGreatCNumC
import Derived.Test.YtalmpddmhakdmaaGreatCKeys
namespace Go.Proofs.YtalmpddmhakdmaaGreat
open Go.RowKit

/-- A value: its kind, its text, its parts, the key that it stands behind. -/
inductive Nd where
  | mk (kind : Int) (text : List UInt8) (items : List Nd) (keys : List (List UInt8))
/-- The value behind a key. -/
def Nd.wk : Nd → List (List UInt8) → Nd
  | .mk kind text items _, ks => .mk kind text items ks
/-- An expression: its kind, its key, its value (of a head: an empty one). -/
structure Ex where
  kind : Int
  keys : List (List UInt8)
  val : Nd
def Nd.none : Nd := .mk 0 [] [] []

/-- A piece of the text. -/
def cutB (B : List UInt8) (i n : Nat) : List UInt8 := (B.drop i).take n
/-- A value without parts, from a place to another. -/
inductive ScR (B : List UInt8) (i : Nat) : Nat → Nd → Prop
  | lines {q : UInt8} {j : Nat} {t : List UInt8} : q = 34 ∨ q = 39 → three q B i → LnR q B (i + 3 + lnN B (i + 3)) j t → ScR B i j (.mk 0 t [] [])
  | text {q : UInt8} {j : Nat} {t : List UInt8} : q = 34 ∨ q = 39 → pk B i = q → ¬ three q B i → TxR q B (i + 1) j t → ScR B i j (.mk 0 t [] [])
  | yes : pk B i = 116 → pk B (i + 1) = 114 → pk B (i + 2) = 117 → pk B (i + 3) = 101 → ScR B i (i + 4) (.mk 3 (cutB B i 4) [] [])
  | no : pk B i = 102 → pk B (i + 1) = 97 → pk B (i + 2) = 108 → pk B (i + 3) = 115 → pk B (i + 4) = 101 → ScR B i (i + 5) (.mk 3 (cutB B i 5) [] [])
  | num {n : Nat} {kind : Int} : NumR B i n kind → ScR B i (i + n) (.mk kind (cutB B i n) [] [])
/-- The values of a list, behind its bracket or a comma. -/
inductive ItR (B : List UInt8) (V : Nat → Nat → Nd → Prop) : Nat → Nat → List Nd → Prop
  | close {i m : Nat} : Sp B i m → pk B m = 93 → ItR B V i (m + 1) []
  | last {i m n o : Nat} {v : Nd} : Sp B i m → pk B m ≠ 93 → V m n v → Sp B n o → pk B o = 93 → ItR B V i (o + 1) [v]
  | comma {i m n o j : Nat} {v : Nd} {vs : List Nd} : Sp B i m → pk B m ≠ 93 → V m n v → Sp B n o → pk B o = 44 → ItR B V (o + 1) j vs → ItR B V i j (v :: vs)
/-- The values of a table between braces, with their keys. -/
inductive PrR (B : List UInt8) (V : Nat → Nat → Nd → Prop) : Nat → Nat → List Nd → Prop
  | last {i m n : Nat} {ks : List (List UInt8)} {v : Nd} : KyR B i m ks → pk B m = 61 → V (skp B (m + 1)) n v → pk B (skp B n) = 125 → PrR B V i (skp B n + 1) [v.wk ks]
  | comma {i m n j : Nat} {ks : List (List UInt8)} {v : Nd} {vs : List Nd} : KyR B i m ks → pk B m = 61 → V (skp B (m + 1)) n v → pk B (skp B n) = 44 → PrR B V (skp B n + 1) j vs → PrR B V i j (v.wk ks :: vs)
/-- A value, with so many levels left for its parts. -/
def ValR (B : List UInt8) : Nat → Nat → Nat → Nd → Prop
  | 0 => fun _ _ _ => False
  | d + 1 => fun i j v => ScR B i j v ∨
      (pk B i = 91 ∧ ∃ vs, ItR B (ValR B d) (i + 1) j vs ∧ v = .mk 8 [] vs []) ∨
      (pk B i = 123 ∧ pk B (skp B (i + 1)) = 125 ∧ j = skp B (i + 1) + 1 ∧ v = .mk 9 [] [] []) ∨
      (pk B i = 123 ∧ pk B (skp B (i + 1)) ≠ 125 ∧ ∃ vs, PrR B (ValR B d) (skp B (i + 1)) j vs ∧ v = .mk 9 [] vs [])
/-- The rest of a line: blanks, a remark, its end. -/
def EndR (B : List UInt8) (i j : Nat) : Prop := ∃ m, CmO B (skp B i) m ∧ ((B.length ≤ m ∧ j = m) ∨ (m < B.length ∧ lnN B m ≠ 0 ∧ j = m + lnN B m))
/-- A document: its expressions in order. -/
inductive DocR (B : List UInt8) : Nat → List Ex → Prop
  | done {i : Nat} : B.length ≤ i → DocR B i []
  | empty {i j : Nat} {es : List Ex} : i < B.length → (B.length ≤ skp B i ∨ pk B (skp B i) = 35 ∨ pk B (skp B i) = 10 ∨ pk B (skp B i) = 13) → pk B (skp B i) ≠ 91 → EndR B (skp B i) j → DocR B j es → DocR B i es
  | head {i m j : Nat} {ks : List (List UInt8)} {es : List Ex} : i < B.length → pk B (skp B i) = 91 → pk B (skp B i + 1) ≠ 91 → KyR B (skp B i + 1) m ks → pk B m = 93 → EndR B (m + 1) j → DocR B j es → DocR B i (⟨1, ks, Nd.none⟩ :: es)
  | heads {i m j : Nat} {ks : List (List UInt8)} {es : List Ex} : i < B.length → pk B (skp B i) = 91 → pk B (skp B i + 1) = 91 → KyR B (skp B i + 2) m ks → pk B m = 93 → pk B (m + 1) = 93 → EndR B (m + 2) j → DocR B j es → DocR B i (⟨2, ks, Nd.none⟩ :: es)
  | pair {i m n j : Nat} {ks : List (List UInt8)} {v : Nd} {es : List Ex} : i < B.length → skp B i < B.length → pk B (skp B i) ≠ 35 → pk B (skp B i) ≠ 10 → pk B (skp B i) ≠ 13 → pk B (skp B i) ≠ 91 → KyR B (skp B i) m ks → pk B m = 61 → ValR B 51 (skp B (m + 1)) n v → EndR B n j → DocR B j es → DocR B i (⟨0, ks, v⟩ :: es)

/-- A slice reads as so many texts; in a block of those that nobody writes any more. -/
def TxsAt (P : Nat → Prop) (w : World) (v : Value) (ks : List (List UInt8)) : Prop :=
  ∃ (p : Option Addr) (c : Nat), v = .slice p ks.length c ∧ (ks = [] ∨ ∃ a, p = some a ∧ P a.block ∧ ∀ j t, ks[j]? = some t → w.cell? (a.add j) = some (stv t))
/-- Four cells read as a value; its parts lie in blocks of those that nobody writes any more. -/
def NdAt : Nat → (Nat → Prop) → World → List Value → Nd → Prop
  | 0, _, _, _, _ => False
  | d + 1, P, w, cs, .mk kind text items keys => ∃ (p : Option Addr) (c : Nat) (kv : Value), cs = [.int .i64 kind, .string ⟨text.toArray⟩, .slice p items.length c, kv] ∧ TxsAt P w kv keys ∧
      (items = [] ∨ ∃ a, p = some a ∧ P a.block ∧ ∀ j x, items[j]? = some x → ∃ ds : List Value, ds.length = 4 ∧ (∀ i u, ds[i]? = some u → w.cell? (a.add (4 * j + i)) = some u) ∧ NdAt d P w ds x)

theorem TxsAt.frame {P Q : Nat → Prop} {w w' : World} {v : Value} {ks : List (List UInt8)} (h : TxsAt P w v ks) (hb : ∀ b, P b → w'.heap[b]? = w.heap[b]?) (hq : ∀ b, P b → Q b) : TxsAt Q w' v ks := by
  obtain ⟨p, c, hv, h | ⟨a, hp, ha, hc⟩⟩ := h
  · exact ⟨p, c, hv, .inl h⟩
  · exact ⟨p, c, hv, .inr ⟨a, hp, hq _ ha, fun j t hj => (World.cell?_of_block (w := w) (by rw [add_block]; exact hb _ ha)).trans (hc j t hj)⟩⟩
theorem NdAt.frame {P Q : Nat → Prop} {w w' : World} (hb : ∀ b, P b → w'.heap[b]? = w.heap[b]?) (hq : ∀ b, P b → Q b) : ∀ {d : Nat} {cs : List Value} {v : Nd}, NdAt d P w cs v → NdAt d Q w' cs v
  | 0, _, _, h => h.elim
  | d + 1, cs, .mk kind text items keys, h => by
    obtain ⟨p, c, kv, hc, hk, h | ⟨a, hp, ha, hi⟩⟩ := h
    · exact ⟨p, c, kv, hc, hk.frame hb hq, .inl h⟩
    · refine ⟨p, c, kv, hc, hk.frame hb hq, .inr ⟨a, hp, hq _ ha, fun j x hj => ?_⟩⟩
      obtain ⟨ds, h1, h2, h3⟩ := hi j x hj
      exact ⟨ds, h1, fun i u hu => (World.cell?_of_block (w := w) (by rw [add_block]; exact hb _ ha)).trans (h2 i u hu), NdAt.frame hb hq h3⟩
theorem NdAt.more {P : Nat → Prop} {w : World} : ∀ {d : Nat} {cs : List Value} {v : Nd}, NdAt d P w cs v → NdAt (d + 1) P w cs v
  | 0, _, _, h => h.elim
  | d + 1, cs, .mk kind text items keys, h => by
    obtain ⟨p, c, kv, hc, hk, h | ⟨a, hp, ha, hi⟩⟩ := h
    · exact ⟨p, c, kv, hc, hk, .inl h⟩
    · refine ⟨p, c, kv, hc, hk, .inr ⟨a, hp, ha, fun j x hj => ?_⟩⟩
      obtain ⟨ds, h1, h2, h3⟩ := hi j x hj
      exact ⟨ds, h1, h2, NdAt.more h3⟩
theorem OwnS.reads {w : World} {base : Nat} {v : Value} {ks : List (List UInt8)} (h : OwnS w base v ks) (P : Nat → Prop) (hP : ∀ b, v.ownBlock = some b → P b) : TxsAt P w v ks := by
  rcases h.2 with ⟨h1, h2⟩ | ⟨g, cap, cur, rfl, _⟩
  · have : ks = [] := List.eq_nil_of_length_eq_zero h2
    subst this
    exact ⟨none, 0, h1, .inl rfl⟩
  · exact ⟨some ⟨g, 0, none⟩, cap, rfl, .inr ⟨_, rfl, hP g rfl, fun j t hj => World.ownsRow.cells h (g := g) rfl j _ (by rw [List.getElem?_map, hj]; rfl)⟩⟩
end Go.Proofs.YtalmpddmhakdmaaGreat
