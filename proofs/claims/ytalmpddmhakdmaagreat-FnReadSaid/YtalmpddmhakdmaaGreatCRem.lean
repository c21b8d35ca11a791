/-
  The walks of functions of the spec's parser: over a remark; over blanks, ends of lines and remarks. Conditions: the parser lies in memory as stated.
-/
import Derived.Test.YtalmpddmhakdmaaGreatCJ01
import Derived.Outline
namespace Go.Proofs.YtalmpddmhakdmaaGreat
open Go.RowKit

/-- A remark's signs from a place to the end of its line. -/
inductive Cm (B : List UInt8) : Nat → Nat → Prop
  | stop {i : Nat} : (B.length ≤ i ∨ lnN B i ≠ 0) → Cm B i i
  | step {i j : Nat} : i < B.length → lnN B i = 0 → 0 < sgN B i → Cm B (i + sgN B i) j → Cm B i j
/-- A remark, if one stands there. -/
def CmO (B : List UInt8) (i j : Nat) : Prop := (pk B i = 35 ∧ Cm B i j) ∨ (pk B i ≠ 35 ∧ j = i)
/-- Blanks, ends of lines and remarks. -/
inductive Sp (B : List UInt8) : Nat → Nat → Prop
  | stop {i m : Nat} : CmO B (skp B i) m → lnN B m = 0 → Sp B i m
  | more {i m j : Nat} : CmO B (skp B i) m → lnN B m ≠ 0 → Sp B (m + lnN B m) j → Sp B i j

/-- What a function of the spec's parser leaves: the parser at another place, in another state; where all is right, what was read there. -/
def SPost (pb : Nat) (a : Addr) (C : Nat) (B : List UInt8) (k : Nat) (st : Int) (w : World) (R : Nat → Prop) (w' : World) : Prop :=
  ∃ (k' : Nat) (st' : Int), SP w' pb a C B k' st' ∧ Gr w w' pb ∧ k ≤ k' ∧ k' ≤ B.length ∧ (st' = 0 → st = 0 ∧ R k')
theorem SPost.mk {pb : Nat} {a : Addr} {C : Nat} {B : List UInt8} {k : Nat} {st : Int} {w : World} {R : Nat → Prop} {w' : World} {k' : Nat} {st' : Int} (h1 : SP w' pb a C B k' st') (h2 : Gr w w' pb) (h0 : k ≤ k') (h3 : k' ≤ B.length) (h4 : st' = 0 → st = 0 ∧ R k') : SPost pb a C B k st w R w' := ⟨k', st', h1, h2, h0, h3, h4⟩
/-- .. of a function that hands nothing back. -/
def UPost (pb : Nat) (a : Addr) (C : Nat) (B : List UInt8) (k : Nat) (st : Int) (w : World) (R : Nat → Prop) (e : Ending) (w' : World) : Prop :=
  e = .returned (.tuple #[]) ∧ SPost pb a C B k st w R w'

theorem lnN_le {B : List UInt8} {i : Nat} (h : i ≤ B.length) : i + lnN B i ≤ B.length := by
  unfold lnN
  split
  · rename_i h1
    have := pk_in (B := B) (k := i) (by rw [h1]; decide)
    omega
  · split
    · rename_i h1
      have := pk_in (B := B) (k := i + 1) (by rw [h1.2]; decide)
      omega
    · omega
theorem skp_le {B : List UInt8} {i : Nat} (h : i ≤ B.length) : skp B i ≤ B.length := by
  unfold skp
  have h1 : ((B.drop i).takeWhile bl).length ≤ (B.drop i).length := (List.takeWhile_prefix _).length_le
  rw [List.length_drop] at h1
  omega
theorem byte_ne' {c d : UInt8} {n : Int} (h : c ≠ d) (hd : (d.toNat : Int) = n) : ((c.toNat : Int) != n) = true := by
  rw [bne, byte_ne h hd]; rfl
theorem byte_eq' {c d : UInt8} {n : Int} (h : c = d) (hd : (d.toNat : Int) = n) : ((c.toNat : Int) != n) = false := by
  rw [bne, byte_eq h hd]; rfl
theorem hiL_cases {c d e f : Nat} (h : 0 < hiL c d e f) : (hiL c d e f = 2 ∧ d / 64 = 2) ∨ (hiL c d e f = 3 ∧ e / 64 = 2) ∨ (hiL c d e f = 4 ∧ f / 64 = 2) := by
  unfold hiL at h ⊢
  by_cases h1 : c < 194
  · rw [if_pos h1] at h
    omega
  rw [if_neg h1] at h ⊢
  by_cases h2 : c < 224
  · rw [if_pos h2] at h ⊢
    by_cases h3 : d / 64 = 2
    · rw [if_pos h3]
      exact .inl ⟨rfl, h3⟩
    · rw [if_neg h3] at h
      omega
  rw [if_neg h2] at h ⊢
  by_cases h3 : c < 240
  · rw [if_pos h3] at h ⊢
    by_cases h4 : e / 64 = 2 ∧ (if c = 224 then 160 else 128) ≤ d ∧ d ≤ (if c = 237 then 159 else 191)
    · rw [if_pos h4]
      exact .inr (.inl ⟨rfl, h4.1⟩)
    · rw [if_neg h4] at h
      omega
  rw [if_neg h3] at h ⊢
  by_cases h4 : c < 245
  · rw [if_pos h4] at h ⊢
    by_cases h5 : e / 64 = 2 ∧ f / 64 = 2 ∧ (if c = 240 then 144 else 128) ≤ d ∧ d ≤ (if c = 244 then 143 else 191)
    · rw [if_pos h5]
      exact .inr (.inr ⟨rfl, h5.2.1⟩)
    · rw [if_neg h5] at h
      omega
  · rw [if_neg h4] at h
    omega
theorem sgN_in {B : List UInt8} {i : Nat} (h : 0 < sgN B i) : i + sgN B i ≤ B.length ∧ sgN B i ≤ 4 := by
  have z0 : (0 : UInt8).toNat = 0 := rfl
  have hi : i < B.length := pk_in (by
    intro e
    unfold sgN at h
    rw [e, if_neg (by rintro (h9 | h9); revert h9; decide; omega), if_pos (by omega)] at h
    omega)
  unfold sgN at h ⊢
  split
  · omega
  · rename_i h1
    rw [if_neg h1] at h
    split
    · omega
    · rename_i h2
      rw [if_neg h2] at h
      have hd : ∀ j, (pk B j).toNat / 64 = 2 → j < B.length := fun j hj => pk_in (by intro e; rw [e] at hj; omega)
      unfold hiN at h ⊢
      rcases hiL_cases h with ⟨h3, h4⟩ | ⟨h3, h4⟩ | ⟨h3, h4⟩
      all_goals
        have := hd _ h4
        omega

section
variable {w : World} {pb : Nat} {a : Addr} {C : Nat} {B : List UInt8} {k : Nat} {st : Int}
theorem has1 (hS : SP w pb a C B k st) (v : Bool) (hv : (pk B k == 10) = v) :
    Calls Tryz.prog 10 #[.pointer (some ⟨pb, 0, none⟩), .string ⟨#[10]⟩] w fun e w' => e = .returned (.bool v) ∧ ∃ m, w' = w.drewN m := by
  have h := has_in hS ⟨#[10]⟩ (by decide) (by decide)
  rw [hasB_one 10 (by decide), hv] at h
  exact h
theorem has2 (hS : SP w pb a C B k st) (v : Bool) (hv : (pk B k == 13 && pk B (k + 1) == 10) = v) :
    Calls Tryz.prog 10 #[.pointer (some ⟨pb, 0, none⟩), .string ⟨#[13, 10]⟩] w fun e w' => e = .returned (.bool v) ∧ ∃ m, w' = w.drewN m := by
  have h := has_in hS ⟨#[13, 10]⟩ (by decide) (by decide)
  rw [hasB_two 13 10 (by decide), hv] at h
  exact h
end

set_option maxRecDepth 100000 in
set_option maxHeartbeats 1000000 in
theorem comment_any {w : World} {pb : Nat} {a : Addr} {C : Nat} {B : List UInt8} {k : Nat} {st : Int} (hS : SP w pb a C B k st) (hk : k ≤ B.length) :
    Calls Tryz.prog 13 #[.pointer (some ⟨pb, 0, none⟩)] w (UPost pb a C B k st w (CmO B k)) := by
  have HP := Lib.hid (peek_any hS 0 k (by omega) (by omega))
  have HS := Lib.hid hS
  clear hS
  by_cases h35 : pk B k = 35
  · rw [h35] at HP
    have H35 := Lib.hid h35
    clear h35
    go_enter Tryz.func13, Tryz.ntmps13
    go_wp2_with (go_at_call 8; refine (HP.out).mono ?_; rintro e w' ⟨rfl, m, rfl⟩)
    go_loopw [] (fun wr => ∃ i : Nat, SP wr pb a C B i st ∧ Gr w wr pb ∧ k ≤ i ∧ i ≤ B.length ∧ (∀ j, Cm B i j → Cm B k j) ∧ wr.cell? ⟨pb, 1, none⟩ = some (.int .i64 i)) (fun wr => B.length - (intOf ((wr.cell? ⟨pb, 1, none⟩).getD undef)).toNat)
    case atStart => exact ⟨k, HS.out.drewN _, (Gr.refl _ _).drewN _, Nat.le_refl _, hk, fun _ h => h, (HS.out.drewN _).at'⟩
    case round =>
      obtain ⟨i, hS, hG, hki, hi, hrel, hat⟩ := hrel
      have HR := Lib.hid hrel
      have hb := hS.b
      have hl := hS.len
      have f1 := hS.f1
      have HS' := Lib.hid hS
      have HG := Lib.hid hG
      clear hS hrel hG
      by_cases hend : B.length ≤ i
      · have hd : decide (i < B.length) = false := by simp; omega
        have hres : CmO B k i := .inl ⟨H35.out, HR.out i (.stop (.inl hend))⟩
        have HRES := Lib.hid hres
        clear hres
        go_wp2_with fail
        go_quiet (fail)
        go_wp2_with fail
        go_end0
        exact ⟨rfl, SPost.mk (HS'.out.drewN _) (HG.out.drewN _) hki hi fun h => ⟨h, HRES.out⟩⟩
      · have hd : decide (i < B.length) = true := by simp; omega
        by_cases h10 : (pk B i == 10) = true
        · have H1 := Lib.hid (fun n => has1 (HS'.out.drewN n) true h10)
          have hres : CmO B k i := .inl ⟨H35.out, HR.out i (.stop (.inr (by rw [lnN, if_pos (by simpa using h10)]; decide)))⟩
          have HRES := Lib.hid hres
          clear hres h10
          go_wp2_with fail
          go_quiet ((go_at_call 10; exact Calls.quiet_of (H1.out _)))
          go_wp2_with fail
          go_end0
          exact ⟨rfl, SPost.mk (HS'.out.drewN _) (HG.out.drewN _) hki hi fun h => ⟨h, HRES.out⟩⟩
        · have h10f : (pk B i == 10) = false := by simpa using h10
          have H1 := Lib.hid (fun n => has1 (HS'.out.drewN n) false h10f)
          by_cases h13 : (pk B i == 13 && pk B (i + 1) == 10) = true
          · have H2 := Lib.hid (fun n => has2 (HS'.out.drewN n) true h13)
            have hres : CmO B k i := .inl ⟨H35.out, HR.out i (.stop (.inr (by rw [lnN, if_neg (by simpa using h10), if_pos (by simpa using h13)]; decide)))⟩
            have HRES := Lib.hid hres
            clear hres h10 h10f h13
            go_wp2_with fail
            go_quiet (first | (go_at_call 10; with_reducible exact Calls.quiet_of (H1.out _)) | (go_at_call 10; exact Calls.quiet_of (H2.out _)))
            go_wp2_with fail
            go_end0
            exact ⟨rfl, SPost.mk (HS'.out.drewN _) (HG.out.drewN _) hki hi fun h => ⟨h, HRES.out⟩⟩
          · have h13f : (pk B i == 13 && pk B (i + 1) == 10) = false := by simpa using h13
            have H2 := Lib.hid (fun n => has2 (HS'.out.drewN n) false h13f)
            have hln : lnN B i = 0 := by rw [lnN, if_neg (by simpa using h10), if_neg (by simpa using h13)]
            have HSG := Lib.hid (fun n => sign_any (HS'.out.drewN n))
            have HLN := Lib.hid hln
            clear hln h10 h10f h13 h13f
            go_wp2_with fail
            go_quiet (first | (go_at_call 10; with_reducible exact Calls.quiet_of (H1.out _)) | (go_at_call 10; exact Calls.quiet_of (H2.out _)))
            go_wp2_with fail
            refine (HSG.out _).mono ?_
            rintro e w' ⟨n, b, rfl, hb, hn4, hS2, hG2⟩
            have HS2 := Lib.hid hS2
            have HG2 := Lib.hid hG2
            have HB := Lib.hid hb
            have h2 := hS2.at'
            have g1 := hS2.f1
            clear hS2 hG2 hb
            cases b with
            | true =>
              have hsg := HB.out rfl
              have hle := sgN_in (hsg.1 ▸ hsg.2)
              rw [← hsg.1] at hle
              have hlt : 0 < n := hsg.2
              have HSG2 := Lib.hid hsg
              clear hsg
              go_wp2_with fail
              go_roundw
              case rel => exact ⟨i + n, (HS2.out.setAt (i + n) (by omega)), (HG.out.drewN _).trans (HG2.out.setCell _ _), by omega, by omega, fun j hj => HR.out j (.step (by omega) HLN.out (HSG2.out.1 ▸ HSG2.out.2) (by rw [← HSG2.out.1]; exact hj)), World.cell?_setCell_same _ _ _ HS2.out.at'⟩
              case measure =>
                rw [World.cell?_setCell_same _ _ _ HS2.out.at', hat]
                simp [intOf]
                omega
            | false =>
              have HF := Lib.hid (fail_any HS2.out)
              go_wp2_with (go_at_call 11; refine (HF.out).mono ?_; rintro e w' ⟨rfl, hS3, hG3⟩)
              go_end0
              exact ⟨rfl, SPost.mk hS3 ((HG.out.drewN _).trans (HG2.out.trans hG3)) hk (Nat.le_refl _) fun h => by split at h <;> omega⟩
  · have t := byte_ne' h35 (n := 35) rfl
    have hres : CmO B k k := .inr ⟨h35, rfl⟩
    have HRES := Lib.hid hres
    clear hres h35
    go_enter Tryz.func13, Tryz.ntmps13
    go_wp2_with (go_at_call 8; refine (HP.out).mono ?_; rintro e w' ⟨rfl, m, rfl⟩)
    go_end0
    exact ⟨rfl, SPost.mk (HS.out.drewN _) ((Gr.refl _ _).drewN _) (Nat.le_refl _) hk fun h => ⟨h, HRES.out⟩⟩

theorem skp_ge (B : List UInt8) (k : Nat) : k ≤ skp B k := Nat.le_add_right _ _
theorem Cm_ge {B : List UInt8} {i j : Nat} (h : Cm B i j) : i ≤ j := by
  induction h with
  | stop _ => exact Nat.le_refl _
  | step _ _ _ _ ih => omega
theorem CmO_ge {B : List UInt8} {i j : Nat} (h : CmO B i j) : i ≤ j := by
  rcases h with ⟨_, h⟩ | ⟨_, h⟩
  · exact Cm_ge h
  · omega

set_option maxRecDepth 100000 in
set_option maxHeartbeats 1000000 in
theorem space_any {w : World} {pb : Nat} {a : Addr} {C : Nat} {B : List UInt8} {k : Nat} {st : Int} (hS : SP w pb a C B k st) (hk : k ≤ B.length) :
    Calls Tryz.prog 50 #[.pointer (some ⟨pb, 0, none⟩)] w (UPost pb a C B k st w (Sp B k)) := by
  have HS := Lib.hid hS
  clear hS
  go_enter Tryz.func50, Tryz.ntmps50
  go_wp2_with fail
  go_loopw [] (fun wr => ∃ (i : Nat) (s1 : Int), SP wr pb a C B i s1 ∧ Gr w wr pb ∧ k ≤ i ∧ i ≤ B.length ∧ (s1 = 0 → st = 0 ∧ ∀ j, Sp B i j → Sp B k j) ∧ wr.cell? ⟨pb, 1, none⟩ = some (.int .i64 i)) (fun wr => B.length - (intOf ((wr.cell? ⟨pb, 1, none⟩).getD undef)).toNat)
  case atStart => exact ⟨k, st, HS.out, Gr.refl _ _, Nat.le_refl _, hk, fun h => ⟨h, fun _ h => h⟩, HS.out.at'⟩
  case round =>
    obtain ⟨i, s1, hS, hG, hki, hi, hrel, hat⟩ := hrel
    have hsk := skp_ge B i
    have HR := Lib.hid hrel
    have HAT := Lib.hid hat
    have H1 := Lib.hid (blanks_any hS)
    have HG := Lib.hid hG
    clear hS hrel hG hat
    go_wp2_with fail
    refine (H1.out).mono ?_
    rintro e w1 ⟨rfl, hS1, hG1⟩
    have H2 := Lib.hid (comment_any hS1 (skp_le hi))
    have HG1 := Lib.hid hG1
    clear hS1 hG1
    go_wp2_with fail
    refine (H2.out).mono ?_
    rintro e w2 ⟨rfl, m, s2, hS2, hG2, hkm, hm, hr2⟩
    have H3 := Lib.hid (line_any hS2)
    have HG2 := Lib.hid hG2
    have HR2 := Lib.hid hr2
    clear hS2 hG2 hr2
    by_cases hln : lnN B m = 0
    · have t : (lnN B m != 0) = false := by simp [hln]
      rw [t] at H3
      have HLN := Lib.hid hln
      clear t hln
      go_wp2_with fail
      refine (H3.out).mono ?_
      rintro e w3 ⟨rfl, hS3, hG3⟩
      have HS3 := Lib.hid hS3
      have HG3 := Lib.hid hG3
      clear hS3 hG3
      go_wp2_with fail
      go_end0
      refine ⟨rfl, SPost.mk HS3.out (HG.out.trans (HG1.out.trans (HG2.out.trans HG3.out))) (by omega) (lnN_le hm) fun h => ?_⟩
      have h2 := HR2.out h
      have h1 := HR.out h2.1
      refine ⟨h1.1, ?_⟩
      rw [HLN.out]
      exact h1.2 _ (.stop h2.2 HLN.out)
    · have t : (lnN B m != 0) = true := by simp [hln]
      rw [t] at H3
      have HLN := Lib.hid hln
      clear t hln
      have hpos := Nat.pos_of_ne_zero HLN.out
      have hle := lnN_le hm
      go_wp2_with fail
      refine (H3.out).mono ?_
      rintro e w3 ⟨rfl, hS3, hG3⟩
      have HS3 := Lib.hid hS3
      have HG3 := Lib.hid hG3
      clear hS3 hG3
      go_wp2_with fail
      go_roundw
      case rel => exact ⟨m + lnN B m, s2, HS3.out, HG.out.trans (HG1.out.trans (HG2.out.trans HG3.out)), by omega, hle, fun h => ⟨(HR.out (HR2.out h).1).1, fun j hj => (HR.out (HR2.out h).1).2 j (.more (HR2.out h).2 HLN.out hj)⟩, HS3.out.at'⟩
      case measure =>
        rw [HS3.out.at', HAT.out]
        simp [intOf]
        omega
end Go.Proofs.YtalmpddmhakdmaaGreat
