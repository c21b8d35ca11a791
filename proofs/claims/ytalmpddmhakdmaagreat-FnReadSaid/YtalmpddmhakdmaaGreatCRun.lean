/-
  The walk of a function of the parser: a run of signs of more than one byte. Conditions: the text lies in memory as stated.
-/
import Derived.Test.YtalmpddmhakdmaaGreatCPlace
namespace Go.Proofs.YtalmpddmhakdmaaGreat
open Go.RowKit

/-- A run of signs of more than one byte. -/
inductive Rn (B : List UInt8) : Nat → Nat → Prop
  | stop {i : Nat} : i ≤ B.length → (B.length ≤ i ∨ (pk B i).toNat < 128) → Rn B i i
  | step {i j : Nat} : i < B.length → 128 ≤ (pk B i).toNat → 0 < hiN B i → Rn B (i + hiN B i) j → Rn B i j
theorem and192 (c : UInt8) (h : c.toNat / 64 = 2) : (bits BinOp.and IntKind.u8 (c.toNat : Int) 192 != 128) = false := by
  have key : ∀ n : Fin 256, n.val / 64 = 2 → (bits BinOp.and IntKind.u8 (n.val : Int) 192 != 128) = false := by decide +kernel
  exact key ⟨c.toNat, c.toNat_lt⟩ h
theorem pos_if {p : Prop} [Decidable p] {n : Nat} (h : 0 < (if p then n else 0)) : p := by
  by_cases hp : p
  · exact hp
  · rw [if_neg hp] at h
    exact absurd h (Nat.lt_irrefl 0)
/-- What makes a sign of more than one byte. -/
theorem hi_cases {B : List UInt8} {i : Nat} (h : 0 < hiN B i) :
    (194 ≤ (pk B i).toNat ∧ (pk B i).toNat < 224 ∧ hiN B i = 2 ∧ (pk B (i + 1)).toNat / 64 = 2) ∨
    (224 ≤ (pk B i).toNat ∧ (pk B i).toNat < 240 ∧ hiN B i = 3 ∧ (pk B (i + 2)).toNat / 64 = 2 ∧ (if (pk B i).toNat = 224 then 160 else 128) ≤ (pk B (i + 1)).toNat ∧ (pk B (i + 1)).toNat ≤ (if (pk B i).toNat = 237 then 159 else 191)) ∨
    (240 ≤ (pk B i).toNat ∧ (pk B i).toNat < 245 ∧ hiN B i = 4 ∧ (pk B (i + 2)).toNat / 64 = 2 ∧ (pk B (i + 3)).toNat / 64 = 2 ∧ (if (pk B i).toNat = 240 then 144 else 128) ≤ (pk B (i + 1)).toNat ∧ (pk B (i + 1)).toNat ≤ (if (pk B i).toNat = 244 then 143 else 191)) := by
  unfold hiN hiL at h ⊢
  by_cases h1 : (pk B i).toNat < 194
  · rw [if_pos h1] at h
    exact absurd h (Nat.lt_irrefl 0)
  · rw [if_neg h1] at h ⊢
    by_cases h2 : (pk B i).toNat < 224
    · rw [if_pos h2] at h ⊢
      have h3 := pos_if h
      exact .inl ⟨by omega, h2, by rw [if_pos h3], h3⟩
    · rw [if_neg h2] at h ⊢
      by_cases h3 : (pk B i).toNat < 240
      · rw [if_pos h3] at h ⊢
        have h4 := pos_if h
        exact .inr (.inl ⟨by omega, h3, by rw [if_pos h4], h4⟩)
      · rw [if_neg h3] at h ⊢
        by_cases h5 : (pk B i).toNat < 245
        · rw [if_pos h5] at h ⊢
          have h4 := pos_if h
          exact .inr (.inr ⟨by omega, h5, by rw [if_pos h4], h4⟩)
        · rw [if_neg h5] at h
          exact absurd h (Nat.lt_irrefl 0)
/-- The bytes of such a sign stand in the text. -/
theorem hi_in {B : List UInt8} {i : Nat} (h : 0 < hiN B i) : i + hiN B i ≤ B.length := by
  have hz : ∀ k, (pk B k).toNat ≠ 0 → k < B.length := fun k hk => pk_in (fun e => hk (by rw [e]; rfl))
  rcases hi_cases h with ⟨_, _, h1, h2⟩ | ⟨_, _, h1, h2, _⟩ | ⟨_, _, h1, _, h2, _⟩
  · have := hz (i + 1) (by omega)
    omega
  · have := hz (i + 2) (by omega)
    omega
  · have := hz (i + 3) (by omega)
    omega

set_option maxRecDepth 100000 in
set_option maxHeartbeats 4000000 in
theorem run_any {w : World} {db : Nat} {B : List UInt8} {o n m x j : Nat} (hD : Dt w db B) (h1 : o + n = B.length) (hr : Rn B (o + x) j) :
    Calls Tryz.prog 58 #[.slice (some ⟨db, o, none⟩) n m, .int .i64 x] w fun e w' => (∃ y : Nat, e = .returned (.tuple #[.int .i64 y, .bool true]) ∧ o + y = j) ∧ w' = w := by
  have HD := Lib.hid hD
  have HR := Lib.hid hr
  have hl := hD.len
  clear hD hr
  go_enter Tryz.func58, Tryz.ntmps58
  go_wp2_with fail
  go_loopw [1] (fun v wr => wr = w ∧ ∃ y : Nat, v = .int .i64 y ∧ Rn B (o + y) j) (fun v _ => B.length - (intOf v).toNat)
  case atStart => exact ⟨rfl, x, rfl, HR.out⟩
  case round =>
    obtain ⟨rfl, y, rfl, hy⟩ := hrel
    clear HR
    cases hy with
    | stop h3 h4 =>
      by_cases hlt : o + y < B.length
      · have hc := HD.out.pk hlt
        have hb := h4.resolve_left (by omega)
        have hyn : y < n := by omega
        clear h4
        generalize pk B (o + y) = c at *
        go_wp2_with fail
        go_ret2
        exact ⟨⟨y, rfl, rfl⟩, rfl⟩
      · have hyn : ¬ y < n := by omega
        clear h4
        go_wp2_with fail
        go_ret2
        exact ⟨⟨y, rfl, rfl⟩, rfl⟩
    | step h3 h4 h5 h6 =>
      have hc := HD.out.pk h3
      have hyn : y < n := by omega
      have HN := Lib.hid h6
      have hin := hi_in h5
      rcases hi_cases h5 with ⟨g1, g2, g3, g4⟩ | ⟨g1, g2, g3, g4, g5, g6⟩ | ⟨g1, g2, g3, g4, g7, g5, g6⟩
      · have t1 := and192 _ g4
        rw [g3] at hin
        have hc1 := HD.out.pk (i := o + (y + 1)) (by omega)
        rw [show o + (y + 1) = o + y + 1 by omega] at hc1
        have hyn1 : y + 1 < n := by omega
        have HG3 := Lib.hid g3
        clear h5 h6 g3 g4
        generalize pk B (o + y) = c at *
        generalize pk B (o + y + 1) = d at *
        rw [show o + y + 1 = o + (y + 1) by omega] at hc1
        go_wp2_with fail
        exact ⟨⟨trivial, y + 2, rfl, by have := HN.out; rw [HG3.out] at this; exact this⟩, by show B.length - (intOf (.int .i64 ((y : Int) + 2))).toNat < B.length - (intOf (.int .i64 (y : Int))).toNat; simp only [intOf]; omega⟩
      · have t2 := and192 _ g4
        rw [g3] at hin
        have hc1 := HD.out.pk (i := o + y + 1) (by omega)
        have hc2 := HD.out.pk (i := o + y + 2) (by omega)
        have hyn2 : y + 2 < n := by omega
        have hyn1 : y + 1 < n := by omega
        have HG3 := Lib.hid g3
        clear h5 h6 g3 g4
        have t1 : (pk B (o + y)).toNat ≠ 224 → (pk B (o + y)).toNat ≠ 237 → (bits BinOp.and IntKind.u8 ((pk B (o + y + 1)).toNat : Int) 192 != 128) = false := fun e1 e2 => and192 _ (by rw [if_neg e1] at g5; rw [if_neg e2] at g6; omega)
        generalize pk B (o + y) = c at *
        generalize pk B (o + y + 1) = d at *
        generalize pk B (o + y + 2) = e at *
        rw [show o + y + 1 = o + (y + 1) by omega] at hc1
        rw [show o + y + 2 = o + (y + 2) by omega] at hc2
        by_cases c1 : c.toNat = 224
        · rw [if_pos c1] at g5
          rw [if_neg (by omega)] at g6
          have t3 : ((c.toNat : Int) == 224) = true := by simp; omega
          clear t1 c1
          go_wp2_with fail
          exact ⟨⟨trivial, y + 3, rfl, by have := HN.out; rw [HG3.out] at this; exact this⟩, by show B.length - (intOf (.int .i64 ((y : Int) + 3))).toNat < B.length - (intOf (.int .i64 (y : Int))).toNat; simp only [intOf]; omega⟩
        · rw [if_neg c1] at g5
          have t3 : ((c.toNat : Int) == 224) = false := by simp; omega
          by_cases c2 : c.toNat = 237
          · rw [if_pos c2] at g6
            have t4 : ((c.toNat : Int) == 237) = true := by simp; omega
            clear t1 c1 c2
            go_wp2_with fail
            exact ⟨⟨trivial, y + 3, rfl, by have := HN.out; rw [HG3.out] at this; exact this⟩, by show B.length - (intOf (.int .i64 ((y : Int) + 3))).toNat < B.length - (intOf (.int .i64 (y : Int))).toNat; simp only [intOf]; omega⟩
          · rw [if_neg c2] at g6
            have t4 : ((c.toNat : Int) == 237) = false := by simp; omega
            have t5 := t1 c1 c2
            clear t1 c1 c2
            go_wp2_with fail
            exact ⟨⟨trivial, y + 3, rfl, by have := HN.out; rw [HG3.out] at this; exact this⟩, by show B.length - (intOf (.int .i64 ((y : Int) + 3))).toNat < B.length - (intOf (.int .i64 (y : Int))).toNat; simp only [intOf]; omega⟩
      · have t2 := and192 _ g4
        have t6 := and192 _ g7
        rw [g3] at hin
        have hc1 := HD.out.pk (i := o + y + 1) (by omega)
        have hc2 := HD.out.pk (i := o + y + 2) (by omega)
        have hc3 := HD.out.pk (i := o + y + 3) (by omega)
        have hyn3 : y + 3 < n := by omega
        have hyn2 : y + 2 < n := by omega
        have hyn1 : y + 1 < n := by omega
        have HG3 := Lib.hid g3
        clear h5 h6 g3 g4 g7
        have t1 : (pk B (o + y)).toNat ≠ 240 → (pk B (o + y)).toNat ≠ 244 → (bits BinOp.and IntKind.u8 ((pk B (o + y + 1)).toNat : Int) 192 != 128) = false := fun e1 e2 => and192 _ (by rw [if_neg e1] at g5; rw [if_neg e2] at g6; omega)
        generalize pk B (o + y) = c at *
        generalize pk B (o + y + 1) = d at *
        generalize pk B (o + y + 2) = e at *
        generalize pk B (o + y + 3) = f at *
        rw [show o + y + 1 = o + (y + 1) by omega] at hc1
        rw [show o + y + 2 = o + (y + 2) by omega] at hc2
        rw [show o + y + 3 = o + (y + 3) by omega] at hc3
        by_cases c1 : c.toNat = 240
        · rw [if_pos c1] at g5
          rw [if_neg (by omega)] at g6
          have t3 : ((c.toNat : Int) == 240) = true := by simp; omega
          clear t1 c1
          go_wp2_with fail
          exact ⟨⟨trivial, y + 4, rfl, by have := HN.out; rw [HG3.out] at this; exact this⟩, by show B.length - (intOf (.int .i64 ((y : Int) + 4))).toNat < B.length - (intOf (.int .i64 (y : Int))).toNat; simp only [intOf]; omega⟩
        · rw [if_neg c1] at g5
          have t3 : ((c.toNat : Int) == 240) = false := by simp; omega
          by_cases c2 : c.toNat = 244
          · rw [if_pos c2] at g6
            have t4 : ((c.toNat : Int) == 244) = true := by simp; omega
            clear t1 c1 c2
            go_wp2_with fail
            exact ⟨⟨trivial, y + 4, rfl, by have := HN.out; rw [HG3.out] at this; exact this⟩, by show B.length - (intOf (.int .i64 ((y : Int) + 4))).toNat < B.length - (intOf (.int .i64 (y : Int))).toNat; simp only [intOf]; omega⟩
          · rw [if_neg c2] at g6
            have t4 : ((c.toNat : Int) == 244) = false := by simp; omega
            have t5 := t1 c1 c2
            clear t1 c1 c2
            go_wp2_with fail
            exact ⟨⟨trivial, y + 4, rfl, by have := HN.out; rw [HG3.out] at this; exact this⟩, by show B.length - (intOf (.int .i64 ((y : Int) + 4))).toNat < B.length - (intOf (.int .i64 (y : Int))).toNat; simp only [intOf]; omega⟩
end Go.Proofs.YtalmpddmhakdmaaGreat
