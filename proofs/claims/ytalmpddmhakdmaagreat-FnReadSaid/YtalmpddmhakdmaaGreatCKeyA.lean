/-
  Rows of texts that a call has made; the walk of a function of the spec: whether a byte may stand in a key without quotes; what a key is. Conditions: as each lemma states.
-/
import Derived.Test.YtalmpddmhakdmaaGreatCLines
namespace Go.Proofs.YtalmpddmhakdmaaGreat
open Go.RowKit

theorem Tryz.info9 : (Tryz.prog.info? 9).map (fun i => (i.zero, i.size, i.bytes)) = some (some (.string ⟨#[]⟩), 1, 16) := by kernel_rfl
theorem Tryz.u35 : Tryz.prog.underlying 35 = some (.slice 9) := by kernel_rfl

/-- A byte that may stand in a key without quotes. -/
def bareB (c : UInt8) : Bool := decide ((48 ≤ c.toNat ∧ c.toNat ≤ 57) ∨ (97 ≤ c.toNat ∧ c.toNat ≤ 122) ∨ (65 ≤ c.toNat ∧ c.toNat ≤ 90) ∨ c.toNat = 95 ∨ c.toNat = 45)
theorem bare_true {c : UInt8} (w : World) (h : bareB c = true) : Calls Tryz.prog 26 #[.int .u8 (c.toNat : Int)] w fun e w' => e = .returned (.bool true) ∧ w = w' := by
  have hc : (48 ≤ c.toNat ∧ c.toNat ≤ 57) ∨ (97 ≤ c.toNat ∧ c.toNat ≤ 122) ∨ (65 ≤ c.toNat ∧ c.toNat ≤ 90) ∨ c.toNat = 95 ∨ c.toNat = 45 := by simpa [bareB] using h
  clear h
  rcases hc with ⟨h1, h2⟩ | ⟨h1, h2⟩ | ⟨h1, h2⟩ | h1 | h1
  · go_enter Tryz.func26, Tryz.ntmps26
    go_wp2_with fail
    go_ret
    exact ⟨rfl, rfl⟩
  · go_enter Tryz.func26, Tryz.ntmps26
    go_wp2_with fail
    go_ret
    exact ⟨rfl, rfl⟩
  · go_enter Tryz.func26, Tryz.ntmps26
    go_wp2_with fail
    go_ret
    exact ⟨rfl, rfl⟩
  · have t : ((c.toNat : Int) == 95) = true := by simp; omega
    have l1 : ¬ (c.toNat : Int) ≤ 57 := by omega
    have l2 : ¬ 97 ≤ (c.toNat : Int) := by omega
    have l3 : ¬ (c.toNat : Int) ≤ 90 := by omega
    have l4 : 65 ≤ (c.toNat : Int) := by omega
    have l5 : 48 ≤ (c.toNat : Int) := by omega
    clear h1
    go_enter Tryz.func26, Tryz.ntmps26
    go_wp2_with fail
    go_ret
    exact ⟨rfl, rfl⟩
  · have t : ((c.toNat : Int) == 45) = true := by simp; omega
    have t2 : ((c.toNat : Int) == 95) = false := by simp; omega
    have l1 : ¬ 48 ≤ (c.toNat : Int) := by omega
    have l2 : ¬ 97 ≤ (c.toNat : Int) := by omega
    have l3 : ¬ 65 ≤ (c.toNat : Int) := by omega
    clear h1
    go_enter Tryz.func26, Tryz.ntmps26
    go_wp2_with fail
    go_ret
    exact ⟨rfl, rfl⟩
theorem bare_false {c : UInt8} (w : World) (h : bareB c = false) : Calls Tryz.prog 26 #[.int .u8 (c.toNat : Int)] w fun e w' => e = .returned (.bool false) ∧ w = w' := by
  have hc : ¬ ((48 ≤ c.toNat ∧ c.toNat ≤ 57) ∨ (97 ≤ c.toNat ∧ c.toNat ≤ 122) ∨ (65 ≤ c.toNat ∧ c.toNat ≤ 90) ∨ c.toNat = 95 ∨ c.toNat = 45) := by simpa [bareB] using h
  have t : ((c.toNat : Int) == 45) = false := by simp; omega
  have t2 : ((c.toNat : Int) == 95) = false := by simp; omega
  have hr : c.toNat < 48 ∨ (58 ≤ c.toNat ∧ c.toNat < 65) ∨ (91 ≤ c.toNat ∧ c.toNat < 97) ∨ 123 ≤ c.toNat := by omega
  clear h hc
  rcases hr with h1 | ⟨h1, h2⟩ | ⟨h1, h2⟩ | h1
  · go_enter Tryz.func26, Tryz.ntmps26
    go_wp2_with fail
    go_ret
    exact ⟨rfl, rfl⟩
  · have d57 : decide ((c.toNat : Int) ≤ 57) = false := by simp; omega
    go_enter Tryz.func26, Tryz.ntmps26
    go_wp2_with fail
    go_ret
    exact ⟨rfl, rfl⟩
  · have d57 : decide ((c.toNat : Int) ≤ 57) = false := by simp; omega
    have d90 : decide ((c.toNat : Int) ≤ 90) = false := by simp; omega
    go_enter Tryz.func26, Tryz.ntmps26
    go_wp2_with fail
    go_ret
    exact ⟨rfl, rfl⟩
  · have d57 : decide ((c.toNat : Int) ≤ 57) = false := by simp; omega
    have d90 : decide ((c.toNat : Int) ≤ 90) = false := by simp; omega
    have d122 : decide ((c.toNat : Int) ≤ 122) = false := by simp; omega
    go_enter Tryz.func26, Tryz.ntmps26
    go_wp2_with fail
    go_ret
    exact ⟨rfl, rfl⟩
theorem bare_any {c : UInt8} (w : World) : Calls Tryz.prog 26 #[.int .u8 (c.toNat : Int)] w fun e w' => e = .returned (.bool (bareB c)) ∧ w = w' := by
  cases h : bareB c with
  | true => exact bare_true w h
  | false => exact bare_false w h

/-- How many bytes of a key without quotes stand at a place. -/
def bareN (B : List UInt8) (i : Nat) : Nat := ((B.drop i).takeWhile bareB).length
theorem bareN_more {B : List UInt8} {i : Nat} (h : bareB (pk B i) = true) : i < B.length ∧ bareN B i = bareN B (i + 1) + 1 := by
  have hk : i < B.length := pk_in (by intro e; rw [e] at h; revert h; decide)
  refine ⟨hk, ?_⟩
  unfold bareN
  rw [drop_pk hk, List.takeWhile_cons_of_pos h, List.length_cons]
theorem bareN_stop {B : List UInt8} {i : Nat} (h : bareB (pk B i) = false) : bareN B i = 0 := by
  unfold bareN
  rcases Nat.lt_or_ge i B.length with hk | hk
  · rw [drop_pk hk, List.takeWhile_cons_of_neg (by simp [h])]
    rfl
  · rw [List.drop_eq_nil_of_le hk]
    rfl
theorem bareN_le {B : List UInt8} {i : Nat} (h : i ≤ B.length) : i + bareN B i ≤ B.length := by
  unfold bareN
  have h1 : ((B.drop i).takeWhile bareB).length ≤ (B.drop i).length := (List.takeWhile_prefix _).length_le
  rw [List.length_drop] at h1
  omega

/-- A part of a key: where it ends, what it tells. -/
def KpR (B : List UInt8) (i m : Nat) (t : List UInt8) : Prop :=
  (∃ q, (q = 34 ∨ q = 39) ∧ pk B i = q ∧ ¬ three q B i ∧ TxR q B (i + 1) m t) ∨ (0 < bareN B i ∧ m = i + bareN B i ∧ t = (B.drop i).take (bareN B i))
/-- A key: its parts with points between them; where it ends, with the blanks behind it. -/
inductive KyR (B : List UInt8) : Nat → Nat → List (List UInt8) → Prop
  | last {i m : Nat} {t : List UInt8} : KpR B (skp B i) m t → pk B (skp B m) ≠ 46 → KyR B i (skp B m) [t]
  | more {i m j : Nat} {t : List UInt8} {ks : List (List UInt8)} : KpR B (skp B i) m t → pk B (skp B m) = 46 → KyR B (skp B m + 1) j ks → KyR B i j (t :: ks)

/-- A text as a cell. -/
def stv (l : List UInt8) : Value := .string ⟨l.toArray⟩
/-- A value that owns a row of texts, in a block from a base on. -/
def OwnS (w : World) (base : Nat) (v : Value) (l : List (List UInt8)) : Prop := w.ownsRow base 9 1 v l.length (l.map stv)
theorem OwnS.lt {w : World} {base : Nat} {v : Value} {l : List (List UInt8)} (h : OwnS w base v l) : ∀ k, v.ownBlock = some k → base ≤ k := fun k hk => (World.ownsRow.lt h k hk).1
theorem OwnS.grown {w w' : World} {base : Nat} {v : Value} {l : List (List UInt8)} {row : Option Nat} (h : OwnS w base v l) (hg : w.grownBy w' row) (hne : ∀ k, row = some k → k < base) : OwnS w' base v l :=
  World.ownsRow.kept h hg (by
    rcases hv : v.ownBlock with _ | k
    · exact .inl rfl
    · refine .inr fun e => ?_
      have h1 := h.lt k hv
      have h2 := hne k e.symm
      omega)
theorem OwnS.drewN {w : World} {base : Nat} {v : Value} {l : List (List UInt8)} (h : OwnS w base v l) (n : Nat) : OwnS (w.drewN n) base v l := h.grown (row := none) ⟨rfl, rfl, rfl, Nat.le_refl _, fun _ _ _ => rfl⟩ fun k hk => by cases hk
theorem OwnS.setCell {w : World} {base : Nat} {v : Value} {l : List (List UInt8)} (h : OwnS w base v l) (p : Addr) (hp : p.block < base) (u : Value) : OwnS (w.setCell p u) base v l :=
  h.grown (row := some p.block) ⟨rfl, rfl, rfl, by simp [World.setCell], fun k _ hne => Below.heap_setCell w p u k (fun e => hne (by rw [e]))⟩ fun k hk => by cases hk; exact hp
theorem OwnS.alloc {w : World} {base : Nat} {v : Value} {l : List (List UInt8)} (h : OwnS w base v l) (o : Obj) : OwnS (w.alloc o) base v l :=
  h.grown (row := none) (World.grownBy_alloc _ _ _) fun k hk => by cases hk
theorem OwnS.gr {w w' : World} {base pb : Nat} {v : Value} {l : List (List UInt8)} (h : OwnS w base v l) (hg : Gr w w' pb) (hp : pb < base) : OwnS w' base v l :=
  h.grown hg fun k hk => by cases hk; exact hp
theorem OwnS.made {w : World} {base : Nat} (hb : w.heap.size = base) : OwnS (w.alloc (.cells #[] 9)) base (.slice (some ⟨base, 0, none⟩) 0 0) [] := by
  have h := World.ownsRow_made (base := base) (e := 9) (size := 1) w #[] 0 (by omega) (by decide) rfl
  rw [hb] at h
  exact h
theorem stv_toList (s : ByteArray) : stv s.toList = .string s := by
  unfold stv
  rw [ByteArray.toList_eq]
theorem OwnS.app {w' : World} {base : Nat} {v' : Value} {l : List (List UInt8)} (t : List UInt8) (h2 : w'.ownsRow base 9 1 v' (l.length + 1) (l.map stv ++ [stv t])) : OwnS w' base v' (l ++ [t]) := by
  unfold OwnS
  rw [List.length_append, List.map_append]
  exact h2
theorem stv_one (v : ByteArray) : ∀ u ∈ [Value.string v], u.oneCell' = true := by
  intro u hu
  rw [List.mem_singleton.1 hu]
  rfl
theorem lit_cell9 (W : World) (n : Nat) (hW : W.heap.size = n) (v : Value) : ∀ j u, [v][j]? = some u → (W.alloc (.cells #[v] 9)).cell? ((⟨n, 0, none⟩ : Addr).add j) = some u := by
  subst hW
  intro j u hj
  have e : (⟨W.heap.size, 0, none⟩ : Addr).add j = ⟨W.heap.size, j, none⟩ := by unfold Addr.add; split <;> simp_all
  rw [e, cell_marked]
  match j, hj with
  | 0, hj => cases hj; rfl
end Go.Proofs.YtalmpddmhakdmaaGreat
