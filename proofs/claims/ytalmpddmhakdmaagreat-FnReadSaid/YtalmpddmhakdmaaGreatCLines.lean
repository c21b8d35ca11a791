/-
  The walk of a function of the spec's parser: a text of several lines between three quotes. Conditions: the parser lies in memory as stated.
-/
import Derived.Test.YtalmpddmhakdmaaGreatCJ04
namespace Go.Proofs.YtalmpddmhakdmaaGreat
open Go.RowKit

/-- Over blanks and ends of lines, behind a stroke at the end of a line. -/
inductive Tr (B : List UInt8) : Nat → Nat → Prop
  | stop {i : Nat} : lnN B (skp B i) = 0 → Tr B i (skp B i)
  | more {i j : Nat} : lnN B (skp B i) ≠ 0 → Tr B (skp B i + lnN B (skp B i)) j → Tr B i j
/-- Three quotes stand at a place. -/
def three (q : UInt8) (B : List UInt8) (i : Nat) : Prop := pk B i = q ∧ pk B (i + 1) = q ∧ pk B (i + 2) = q
/-- How many quotes end a text. -/
def qN (q : UInt8) (B : List UInt8) (i n : Nat) : Prop := (n = 3 ∧ pk B (i + 3) ≠ q) ∨ (n = 4 ∧ pk B (i + 3) = q ∧ pk B (i + 4) ≠ q) ∨ (n = 5 ∧ pk B (i + 3) = q ∧ pk B (i + 4) = q)
/-- A text of several lines, behind its first quotes: where it ends, what it tells. -/
inductive LnR (q : UInt8) (B : List UInt8) : Nat → Nat → List UInt8 → Prop
  | stop {i n : Nat} : three q B i → qN q B i n → LnR q B i (i + n) (List.replicate (n - 3) q)
  | cont {i m j : Nat} {u : List UInt8} : i < B.length → ¬ three q B i → pk B i = 92 → q = 34 → lnN B (skp B (i + 1)) ≠ 0 → Tr B (skp B (i + 1) + lnN B (skp B (i + 1))) m → LnR q B m j u → LnR q B i j u
  | esc {i m j : Nat} {t u : List UInt8} : i < B.length → ¬ three q B i → pk B i = 92 → q = 34 → lnN B (skp B (i + 1)) = 0 → EscR B (i + 1) m t → LnR q B m j u → LnR q B i j (t ++ u)
  | nl {i j : Nat} {u : List UInt8} : i < B.length → ¬ three q B i → ¬ (pk B i = 92 ∧ q = 34) → lnN B i ≠ 0 → LnR q B (i + lnN B i) j u → LnR q B i j ((B.drop i).take (lnN B i) ++ u)
  | sgn {i j : Nat} {u : List UInt8} : i < B.length → ¬ three q B i → ¬ (pk B i = 92 ∧ q = 34) → lnN B i = 0 → 0 < sgN B i → LnR q B (i + sgN B i) j u → LnR q B i j ((B.drop i).take (sgN B i) ++ u)

def threeB (q : UInt8) (B : List UInt8) (i : Nat) : Bool := pk B i == q && pk B (i + 1) == q && pk B (i + 2) == q
theorem threeB_iff {q : UInt8} {B : List UInt8} {i : Nat} : threeB q B i = true ↔ three q B i := by
  simp [threeB, three, and_assoc]
theorem hasB_three {B : List UInt8} {k : Nat} (q : UInt8) (hq : q ≠ 0) : hasB B k ⟨#[q, q, q]⟩ = threeB q B k := by
  unfold hasB threeB
  have e2 : (⟨#[q, q, q]⟩ : ByteArray).size = 3 := rfl
  have e3 : (⟨#[q, q, q]⟩ : ByteArray).toList = [q, q, q] := ByteArray.toList_mk [q, q, q]
  rw [ByteArray.toList_mk, e2, e3]
  rcases Nat.lt_or_ge (k + 2) B.length with h | h
  · rw [decide_eq_true (by omega), Bool.true_and, drop_pk (by omega : k < B.length), drop_pk (by omega : k + 1 < B.length), drop_pk h]
    simp [Bool.and_assoc]
  · rw [decide_eq_false (by omega), Bool.false_and]
    have : pk B (k + 2) = 0 := by simp [pk, List.getD, List.getElem?_eq_none h]
    rw [this, beq_eq_false_iff_ne.2 (Ne.symm hq), Bool.and_false]
theorem conv_three (W : World) (n : Nat) (hW : W.heap.size = n) (q : UInt8) : (convert 22 9 (.slice (some ⟨n, 0, none⟩) 3 3)).run Tryz.prog (W.alloc (.cells #[.int .u8 (q.toNat : Int), .int .u8 (q.toNat : Int), .int .u8 (q.toNat : Int)] 5)) = .ok (.string ⟨#[q, q, q]⟩) (W.alloc (.cells #[.int .u8 (q.toNat : Int), .int .u8 (q.toNat : Int), .int .u8 (q.toNat : Int)] 5)) := by
  subst hW
  refine run_conv _ _ [q, q, q] _ rfl fun j x hj => ?_
  have e : (⟨W.heap.size, 0, none⟩ : Addr).add j = ⟨W.heap.size, j, none⟩ := by unfold Addr.add; split <;> simp_all
  rw [e, cell_marked]
  match j, hj with
  | 0, hj => cases hj; rfl
  | 1, hj => cases hj; rfl
  | 2, hj => cases hj; rfl
theorem lit_cells (W : World) (n : Nat) (hW : W.heap.size = n) (l : List Value) : ∀ j u, l[j]? = some u → (W.alloc (.cells l.toArray 5)).cell? ((⟨n, 0, none⟩ : Addr).add j) = some u := by
  subst hW
  intro j u hj
  have e : (⟨W.heap.size, 0, none⟩ : Addr).add j = ⟨W.heap.size, j, none⟩ := by unfold Addr.add; split <;> simp_all
  rw [e, cell_marked]
  simpa using hj
theorem Tr_ge {B : List UInt8} {i j : Nat} (h : Tr B i j) : i ≤ j := by
  induction h with
  | stop _ => exact skp_ge _ _
  | @more i j _ _ ih => have := skp_ge B i; omega
theorem has3 {w : World} {pb : Nat} {a : Addr} {C : Nat} {B : List UInt8} {k : Nat} {st : Int} (hS : SP w pb a C B k st) (q : UInt8) (hq : q ≠ 0) (v : Bool) (hv : threeB q B k = v) :
    Calls Tryz.prog 10 #[.pointer (some ⟨pb, 0, none⟩), .string ⟨#[q, q, q]⟩] w fun e w' => e = .returned (.bool v) ∧ ∃ m, w' = w.drewN m := by
  have h := has_in hS ⟨#[q, q, q]⟩ (show 3 ≤ 100 by decide) (show 0 < 3 by decide)
  rw [hasB_three q hq, hv] at h
  exact h
theorem ln1 {B : List UInt8} {i : Nat} (h : pk B i = 10) : lnN B i = 1 ∧ (B.drop i).take 1 = [10] := by
  have hi : i < B.length := pk_in (by rw [h]; decide)
  exact ⟨by rw [lnN, if_pos h], by rw [drop_pk hi, h]; rfl⟩
theorem ln2 {B : List UInt8} {i : Nat} (h : pk B i = 13) (h2 : pk B (i + 1) = 10) : lnN B i = 2 ∧ (B.drop i).take 2 = [13, 10] := by
  have hi : i < B.length := pk_in (by rw [h]; decide)
  have hi2 : i + 1 < B.length := pk_in (by rw [h2]; decide)
  exact ⟨by rw [lnN, if_neg (by rw [h]; decide), if_pos ⟨h, h2⟩], by rw [drop_pk hi, drop_pk hi2, h, h2]; rfl⟩

set_option maxRecDepth 100000 in
set_option maxHeartbeats 4000000 in
theorem lines_any {w : World} {pb : Nat} {a : Addr} {C : Nat} {B : List UInt8} {k : Nat} {st : Int} (hS : SP w pb a C B k st) (hk : k + 3 ≤ B.length) (q : UInt8) (hq0 : q = 34 ∨ q = 39) :
    Calls Tryz.prog 28 #[.pointer (some ⟨pb, 0, none⟩), .int .u8 (q.toNat : Int)] w (TPost pb a C B k st w (LnR q B (k + 3 + lnN B (k + 3)))) := by
  obtain ⟨i0, hi, hz0, hz1, hz2⟩ := info_parts Tryz.info5
  have hin := hS.in_heap
  have HS := Lib.hid hS
  have h2 := hS.at'
  have f1 := hS.f1
  have hl := hS.len
  have hqz : q ≠ 0 := by rcases hq0 with h | h <;> rw [h] <;> decide
  have HQ0 := Lib.hid hq0
  have HQZ := Lib.hid hqz
  have hcv3 := conv_three ((w.setCell ⟨pb, 1, none⟩ (.int .i64 ((k : Int) + 3))).alloc (.cells #[] 5)) (w.heap.size + 1) (by simp [World.setCell]) q
  have hln := lnN_le hk
  obtain ⟨k0, hk0⟩ : ∃ k0, k + 3 + lnN B (k + 3) = k0 := ⟨_, rfl⟩
  rw [hk0] at hln ⊢
  have hkk0 : k ≤ k0 := by omega
  have HK0 := Lib.hid hk0
  clear hS hq0 hqz hk0
  go_enter Tryz.func28, Tryz.ntmps28
  go_wp2_with fail
  refine (line_any ((((HS.out.setAt (k + 3) (by omega)).alloc _).alloc _))).mono ?_
  rintro e wa ⟨rfl, hSa, hGa⟩
  have HSa := Lib.hid hSa
  have HGa := Lib.hid (((((Gr.refl w pb).setCell 1 (.int .i64 ((k + 3 : Nat) : Int))).alloc _).alloc _).trans hGa)
  have HOa := Lib.hid (((Own.made' (w := w.setCell ⟨pb, 1, none⟩ (.int .i64 ((k + 3 : Nat) : Int))) (base := w.heap.size) (by simp [World.setCell])).alloc _).gr hGa hin.1)
  clear hSa hGa hcv3
  rw [HK0.out] at HSa
  generalize (lnN B (k + 3) != 0) = bl0
  go_wp2_with fail
  go_loopw [5] (fun v wr => TxInv pb a C B k0 st w (LnR q B) v wr) (fun _ wr => msr B pb wr)
  case atStart => exact ⟨k0, st, [], HSa.out, HGa.out, Nat.le_refl _, hln, HOa.out, Nat.zero_le _, fun h => ⟨h, fun _ _ h => h⟩⟩
  case round =>
    obtain ⟨i, s1, acc, hS, hG, hki, hi', hown, hacc, hrel⟩ := hrel
    have HS1 := Lib.hid hS
    have HG := Lib.hid hG
    have HR := Lib.hid hrel
    have HOWN := Lib.hid hown
    have hat := hS.at'
    have hst := hS.st'
    have hf1 := hS.f1
    have hb := hS.b
    clear hS hG hrel hown h2 f1
    by_cases h0 : s1 = 0
    · subst h0
      have hst0 : st = 0 := (HR.out rfl).1
      have hrel := (HR.out rfl).2
      have HREL := Lib.hid hrel
      have HP := Lib.hid (peek_any HS1.out 0 i (by omega) (by omega))
      clear hrel
      obtain ⟨c, hc⟩ : ∃ c, pk B i = c := ⟨_, rfl⟩
      rw [hc] at HP
      have HC := Lib.hid hc
      clear hc
      by_cases hend : B.length ≤ i
      · have hd : decide (B.length ≤ i) = true := by simp; omega
        go_wp2_with fail
        refine (HP.out).mono ?_
        rintro e w' ⟨rfl, m, rfl⟩
        go_wp2_with fail
        go_quiet (fail)
        go_wp2_with fail
        refine (fail_any (HS1.out.drewN _)).mono ?_
        rintro e w' ⟨rfl, hS3, hG3⟩
        have HS3 := Lib.hid hS3
        have HG3 := Lib.hid hG3
        clear hS3 hG3
        go_wp2_with fail
        go_roundw
        case rel => exact ⟨_, _, acc, HS3.out, (HG.out.drewN _).trans HG3.out, by omega, Nat.le_refl _, (HOWN.out.drewN _).gr HG3.out hin.1, by omega, fun h => absurd h (by decide)⟩
        case measure =>
          rw [HS3.out.msr, HS1.out.msr]
          simp
      · have hd : decide (B.length ≤ i) = false := by simp; omega
        by_cases h3 : three q B i
        · have H3 := Lib.hid (fun (n : Nat) => has3 (HS1.out.drewN n) q HQZ.out true (threeB_iff.2 h3))
          have HT := Lib.hid h3
          have hi3 : i + 2 < B.length := pk_in (by rw [h3.2.2]; exact HQZ.out)
          have HP3 := Lib.hid (fun (n : Nat) => peek_any (HS1.out.drewN n) 3 (i + 3) (by omega) (by omega))
          have HP4 := Lib.hid (fun (n : Nat) => peek_any (HS1.out.drewN n) 4 (i + 4) (by omega) (by omega))
          clear h3
          by_cases e3 : pk B (i + 3) = q
          · have t3 : ((pk B (i + 3)).toNat : Int) == (q.toNat : Int) := by rw [e3]; exact beq_self_eq_true _
            have hi4 : i + 3 < B.length := pk_in (by rw [e3]; exact HQZ.out)
            have E3 := Lib.hid e3
            clear e3
            by_cases e4 : pk B (i + 4) = q
            · have t4 : ((pk B (i + 4)).toNat : Int) == (q.toNat : Int) := by rw [e4]; exact beq_self_eq_true _
              have hi5 : i + 4 < B.length := pk_in (by rw [e4]; exact HQZ.out)
              have hres : LnR q B i (i + 5) [q, q] := .stop (n := 5) HT.out (.inr (.inr ⟨rfl, E3.out, e4⟩))
              have HRES := Lib.hid hres
              clear e4 hres
              go_wp2_with fail
              refine (HP.out).mono ?_
              rintro e w' ⟨rfl, m, rfl⟩
              go_wp2_with fail
              go_quiet (fail)
              go_wp2_with fail
              refine (H3.out _).mono ?_
              rintro e w' ⟨rfl, m3, rfl⟩
              go_wp2_with fail
              refine wp_loop_rounds 3 ?_
              rw [rounds_succ]
              go_wp2_with fail
              refine (HP3.out _).mono ?_
              rintro e w' ⟨rfl, m4, rfl⟩
              go_wp2_with fail
              rw [rounds_succ]
              go_wp2_with fail
              refine (HP4.out _).mono ?_
              rintro e w' ⟨rfl, m5, rfl⟩
              go_wp2_with fail
              rw [rounds_succ]
              go_wp2_with fail
              refine wp_loop_rounds 3 ?_
              rw [rounds_succ]
              go_wp2_with (at_builtin; (refine wpList_append_own _ rfl _ _ 22 rfl w.heap.size 5 i0 (.int .u8 0) 1 1 Tryz.underlying22 hi hz0 hz1 hz2 rfl (by decide) u5 _ _ rfl ((HOWN.out.drewN _).alloc _).1 ⟨wr.heap.size, 0, none⟩ 1 1 [byt q] rfl rfl (lit_cells _ _ rfl [byt q]) (byt_one [q]) (by unfold maxLen; (try simp only [List.length_append, List.length_cons, List.length_nil]); omega) (by (try simp only [List.length_append, List.length_cons, List.length_nil]); omega) ((HG.out.drewN _).alloc (.cells [byt q].toArray 5)).size ?_); intro v6 w6 hown6 hgrow6 hnil6; have hS6 := ((HS1.out.drewN _).alloc (.cells [byt q].toArray 5)).grown hgrow6 HOWN.out.lt hin.1 hin.2; have hat6 := hS6.at'; have hf6 := hS6.f1; have HS6 := Lib.hid hS6; clear hS6; have HO6 := Lib.hid (HOWN.out.app2 (t := [q]) rfl hown6 hnil6); have HG6 := Lib.hid (((HG.out.drewN _).alloc (.cells [byt q].toArray 5)).grown hgrow6 HOWN.out.lt); have HCV6 := (HO6.out.setCell ⟨pb, 1, none⟩ hin.1 (.int .i64 ((i : Int) + 5))).conv; clear hown6 hgrow6 hnil6)
              rw [rounds_succ]
              go_wp2_with (at_builtin; (refine wpList_append_own _ rfl _ _ 22 rfl w.heap.size 5 i0 (.int .u8 0) 1 1 Tryz.underlying22 hi hz0 hz1 hz2 rfl (by decide) v6 _ _ rfl (HO6.out.alloc _).1 ⟨w6.heap.size, 0, none⟩ 1 1 [byt q] rfl rfl (lit_cells _ _ rfl [byt q]) (byt_one [q]) (by unfold maxLen; (try simp only [List.length_append, List.length_cons, List.length_nil]); omega) (by (try simp only [List.length_append, List.length_cons, List.length_nil]); omega) (HG6.out.alloc (.cells [byt q].toArray 5)).size ?_); intro v7 w7 hown7 hgrow7 hnil7; have hS7 := (HS6.out.alloc (.cells [byt q].toArray 5)).grown hgrow7 HO6.out.lt hin.1 hin.2; have hat7 := hS7.at'; have hf7 := hS7.f1; have HS7 := Lib.hid hS7; clear hS7; have HO7 := Lib.hid (HO6.out.app2 (t := [q]) rfl hown7 hnil7); have HG7 := Lib.hid ((HG6.out.alloc (.cells [byt q].toArray 5)).grown hgrow7 HO6.out.lt); have HCV7 := (HO7.out.setCell ⟨pb, 1, none⟩ hin.1 (.int .i64 ((i : Int) + 5))).conv; clear hown7 hgrow7 hnil7)
              rw [rounds_succ]
              go_wp2_with fail
              go_ret
              refine TPost.mk _ rfl (SPost.mk (HS7.out.setAt (i + 5) (by omega)) (HG7.out.setCell _ _) (by omega) (by omega) fun h => ⟨hst0, ?_⟩)
              rw [ByteArray.toList_mk]
              have := HREL.out _ _ HRES.out
              first | exact this | (rw [List.append_assoc]; exact this)
            · have t4 : (((pk B (i + 4)).toNat : Int) == (q.toNat : Int)) = false := byte_ne e4 rfl
              have hres : LnR q B i (i + 4) [q] := .stop (n := 4) HT.out (.inr (.inl ⟨rfl, E3.out, e4⟩))
              have HRES := Lib.hid hres
              clear e4 hres
              go_wp2_with fail
              refine (HP.out).mono ?_
              rintro e w' ⟨rfl, m, rfl⟩
              go_wp2_with fail
              go_quiet (fail)
              go_wp2_with fail
              refine (H3.out _).mono ?_
              rintro e w' ⟨rfl, m3, rfl⟩
              go_wp2_with fail
              refine wp_loop_rounds 2 ?_
              rw [rounds_succ]
              go_wp2_with fail
              refine (HP3.out _).mono ?_
              rintro e w' ⟨rfl, m4, rfl⟩
              go_wp2_with fail
              rw [rounds_succ]
              go_wp2_with fail
              refine (HP4.out _).mono ?_
              rintro e w' ⟨rfl, m5, rfl⟩
              go_wp2_with fail
              refine wp_loop_rounds 2 ?_
              rw [rounds_succ]
              go_wp2_with (at_builtin; (refine wpList_append_own _ rfl _ _ 22 rfl w.heap.size 5 i0 (.int .u8 0) 1 1 Tryz.underlying22 hi hz0 hz1 hz2 rfl (by decide) u5 _ _ rfl ((HOWN.out.drewN _).alloc _).1 ⟨wr.heap.size, 0, none⟩ 1 1 [byt q] rfl rfl (lit_cells _ _ rfl [byt q]) (byt_one [q]) (by unfold maxLen; (try simp only [List.length_append, List.length_cons, List.length_nil]); omega) (by (try simp only [List.length_append, List.length_cons, List.length_nil]); omega) ((HG.out.drewN _).alloc (.cells [byt q].toArray 5)).size ?_); intro v6 w6 hown6 hgrow6 hnil6; have hS6 := ((HS1.out.drewN _).alloc (.cells [byt q].toArray 5)).grown hgrow6 HOWN.out.lt hin.1 hin.2; have hat6 := hS6.at'; have hf6 := hS6.f1; have HS6 := Lib.hid hS6; clear hS6; have HO6 := Lib.hid (HOWN.out.app2 (t := [q]) rfl hown6 hnil6); have HG6 := Lib.hid (((HG.out.drewN _).alloc (.cells [byt q].toArray 5)).grown hgrow6 HOWN.out.lt); have HCV6 := (HO6.out.setCell ⟨pb, 1, none⟩ hin.1 (.int .i64 ((i : Int) + 4))).conv; clear hown6 hgrow6 hnil6)
              rw [rounds_succ]
              go_wp2_with fail
              go_ret
              refine TPost.mk _ rfl (SPost.mk (HS6.out.setAt (i + 4) (by omega)) (HG6.out.setCell _ _) (by omega) (by omega) fun h => ⟨hst0, ?_⟩)
              rw [ByteArray.toList_mk]
              have := HREL.out _ _ HRES.out
              exact this
          · have t3 : (((pk B (i + 3)).toNat : Int) == (q.toNat : Int)) = false := byte_ne e3 rfl
            have hres : LnR q B i (i + 3) [] := .stop (n := 3) HT.out (.inl ⟨rfl, e3⟩)
            have HRES := Lib.hid hres
            clear e3 hres
            go_wp2_with fail
            refine (HP.out).mono ?_
            rintro e w' ⟨rfl, m, rfl⟩
            go_wp2_with fail
            go_quiet (fail)
            go_wp2_with fail
            refine (H3.out _).mono ?_
            rintro e w' ⟨rfl, m3, rfl⟩
            have hcv := fun (n : Nat) => ((HOWN.out.drewN n).setCell ⟨pb, 1, none⟩ hin.1 (.int .i64 ((i : Int) + 3))).conv
            go_wp2_with fail
            refine wp_loop_rounds 1 ?_
            rw [rounds_succ]
            go_wp2_with fail
            refine (HP3.out _).mono ?_
            rintro e w' ⟨rfl, m4, rfl⟩
            go_wp2_with fail
            refine wp_loop_rounds 1 ?_
            rw [rounds_succ]
            go_wp2_with fail
            go_ret
            refine TPost.mk _ rfl (SPost.mk ((HS1.out.drewN _).setAt (i + 3) (by omega)) ((HG.out.drewN _).setCell _ _) (by omega) (by omega) fun h => ⟨hst0, ?_⟩)
            rw [ByteArray.toList_mk]
            have := HREL.out _ _ HRES.out
            rwa [List.append_nil] at this
        · have H3 := Lib.hid (fun (n : Nat) => has3 (HS1.out.drewN n) q HQZ.out false (by simpa using fun h => h3 (threeB_iff.1 h)))
          have HT := Lib.hid h3
          clear h3
          by_cases h92 : c = 92 ∧ q = 34
          · have t2 := byte_eq h92.1 (n := 92) rfl
            have t3 := byte_eq h92.2 (n := 34) rfl
            have H92 := Lib.hid h92
            clear h92
            go_wp2_with fail
            refine (HP.out).mono ?_
            rintro e w' ⟨rfl, m, rfl⟩
            go_wp2_with fail
            go_quiet (fail)
            go_wp2_with fail
            refine (H3.out _).mono ?_
            rintro e w' ⟨rfl, m3, rfl⟩
            obtain ⟨m0, hm0⟩ : ∃ m0, skp B (i + 1) = m0 := ⟨_, rfl⟩
            have hm1 := skp_le (B := B) (i := i + 1) (by omega)
            have hm2 := skp_ge B (i + 1)
            rw [hm0] at hm1 hm2
            have hm3 := lnN_le hm1
            have HM0 := Lib.hid hm0
            go_wp2_with fail
            refine (blanks_any ((HS1.out.drewN _).setAt (i + 1) (by omega))).mono ?_
            rintro e w2 ⟨rfl, hS2, hG2⟩
            rw [hm0] at hS2
            clear hm0
            have HS2 := Lib.hid hS2
            have HG2 := Lib.hid (((HG.out.drewN _).setCell 1 _).trans hG2)
            have HO2 := Lib.hid ((HOWN.out.drewN _).setCell ⟨pb, 1, none⟩ hin.1 _ |>.gr hG2 hin.1)
            have HL := Lib.hid (line_any hS2)
            clear hS2 hG2
            by_cases hln : lnN B m0 = 0
            · have t4 : (lnN B m0 != 0) = false := by simp [hln]
              have HLN := Lib.hid hln
              rw [t4] at HL
              clear hln t4
              go_wp2_with fail
              refine (HL.out).mono ?_
              rintro e w3 ⟨rfl, hS3, hG3⟩
              have HS3 := Lib.hid hS3
              have HG3 := Lib.hid (HG2.out.trans hG3)
              have HO3 := Lib.hid (HO2.out.gr hG3 hin.1)
              have hat3 := hS3.at'
              have hf3 := hS3.f1
              clear hS3 hG3
              go_wp2_with fail
              refine (escape_any (HS3.out.setAt (i + 1) (by omega)) (by omega)).mono ?_
              rintro e w4 ⟨s, rfl, hs4, j2, s2, hS4, hG4, hj2, hj2', hr2⟩
              have HS4 := Lib.hid hS4
              have HG4 := Lib.hid ((HG3.out.setCell 1 _).trans hG4)
              have HR2 := Lib.hid hr2
              have HO4 := Lib.hid ((HO3.out.setCell ⟨pb, 1, none⟩ hin.1 _).gr hG4 hin.1)
              have hsz : w.heap.size ≤ w4.heap.size := HG4.out.size
              clear hS4 hG4 hr2 hat3 hf3
              go_wp2_with (at_builtin; refine Lib.wpList_append_own_string _ rfl _ _ 22 9 rfl w.heap.size 5 i0 Tryz.underlying22 Tryz.underlying9 hi hz0 hz1 hz2 u5 acc.length (acc.map byt) rfl HO4.out.1 s rfl (by unfold maxLen; omega) (by omega) hsz ?_; intro v' w5 hown5 hgrow5 hnil5)
              have HS5 := Lib.hid (HS4.out.grown hgrow5 HO4.out.lt hin.1 hin.2)
              have HO5 := Lib.hid (HO4.out.app hown5 hnil5)
              have HG5 := Lib.hid (HG4.out.grown hgrow5 HO4.out.lt)
              clear hown5 hgrow5 hnil5
              go_roundw
              case rel => exact ⟨j2, s2, acc ++ s.toList, HS5.out, HG5.out, by omega, hj2', HO5.out, by rw [List.length_append, ByteArray.toList_eq, Array.length_toList]; show acc.length + s.size ≤ _; omega, fun h => ⟨hst0, fun j t ht => by
                have h2 := HREL.out j (s.toList ++ t) (.esc (by omega) HT.out (by rw [HC.out]; exact H92.out.1) H92.out.2 (by rw [HM0.out]; exact HLN.out) (HR2.out h).2 ht)
                rwa [← List.append_assoc] at h2⟩⟩
              case measure =>
                rw [HS5.out.msr, HS1.out.msr]
                split <;> simp <;> omega
            · have t4 : (lnN B m0 != 0) = true := by simp [hln]
              have HLN := Lib.hid hln
              rw [t4] at HL
              have hlp : 0 < lnN B m0 := Nat.pos_of_ne_zero hln
              clear hln t4
              go_wp2_with fail
              refine (HL.out).mono ?_
              rintro e w3 ⟨rfl, hS3, hG3⟩
              have HS3 := Lib.hid hS3
              have HG3 := Lib.hid (HG2.out.trans hG3)
              have HO3 := Lib.hid (HO2.out.gr hG3 hin.1)
              clear hS3 hG3 hat hst hf1 hb
              obtain ⟨wo, rfl⟩ : ∃ wo : World, wo = wr := ⟨_, rfl⟩
              go_wp2_with fail
              go_loopw [] (fun wq => ∃ x : Nat, SP wq pb a C B x 0 ∧ Gr w wq pb ∧ i + 1 < x ∧ x ≤ B.length ∧ Own wq w.heap.size u5 acc ∧ (∀ j, Tr B x j → Tr B (m0 + lnN B m0) j)) (fun wq => msr B pb wq)
              case atStart => exact ⟨_, HS3.out, HG3.out, by omega, hm3, HO3.out, fun _ h => h⟩
              case round =>
                obtain ⟨x, hS5, hG5, hx, hxl, hown5, hrel5⟩ := hrel
                have HS5 := Lib.hid hS5
                have HG5 := Lib.hid hG5
                have HO5 := Lib.hid hown5
                have HR5 := Lib.hid hrel5
                clear hS5 hG5 hown5 hrel5
                obtain ⟨y, hy⟩ : ∃ y, skp B x = y := ⟨_, rfl⟩
                have hy1 := skp_le (B := B) (i := x) (by omega)
                have hy2 := skp_ge B x
                rw [hy] at hy1 hy2
                have hy3 := lnN_le hy1
                have HY := Lib.hid hy
                go_wp2_with fail
                refine (blanks_any HS5.out).mono ?_
                rintro e w6 ⟨rfl, hS6, hG6⟩
                rw [hy] at hS6
                clear hy
                have HG6 := Lib.hid (HG5.out.trans hG6)
                have HO6 := Lib.hid (HO5.out.gr hG6 hin.1)
                have HL6 := Lib.hid (line_any hS6)
                clear hS6 hG6
                by_cases hln : lnN B y = 0
                · have t4 : (lnN B y != 0) = false := by simp [hln]
                  have HLN6 := Lib.hid hln
                  rw [t4] at HL6
                  clear hln t4
                  go_wp2_with fail
                  refine (HL6.out).mono ?_
                  rintro e w7 ⟨rfl, hS7, hG7⟩
                  have HS7 := Lib.hid hS7
                  have HG7 := Lib.hid (HG6.out.trans hG7)
                  have HO7 := Lib.hid (HO6.out.gr hG7 hin.1)
                  clear hS7 hG7
                  go_wp2_with fail
                  go_roundw
                  case rel => exact ⟨y + lnN B y, 0, acc, HS7.out, HG7.out, by omega, hy3, HO7.out, by omega, fun h => ⟨hst0, fun j t ht => by
                    refine HREL.out j t (.cont (by omega) HT.out (by rw [HC.out]; exact H92.out.1) H92.out.2 (by rw [HM0.out]; exact HLN.out) (by rw [HM0.out]; exact HR5.out _ (.stop (by rw [HY.out]; exact HLN6.out))) ?_)
                    rw [HLN6.out, ← HY.out] at ht
                    exact ht⟩⟩
                  case measure =>
                    rw [HS7.out.msr, HS1.out.msr]
                    simp
                    omega
                · have t4 : (lnN B y != 0) = true := by simp [hln]
                  have HLN6 := Lib.hid hln
                  have hlp : 0 < lnN B y := Nat.pos_of_ne_zero hln
                  rw [t4] at HL6
                  clear hln t4
                  go_wp2_with fail
                  refine (HL6.out).mono ?_
                  rintro e w7 ⟨rfl, hS7, hG7⟩
                  have HS7 := Lib.hid hS7
                  have HG7 := Lib.hid (HG6.out.trans hG7)
                  have HO7 := Lib.hid (HO6.out.gr hG7 hin.1)
                  clear hS7 hG7
                  go_wp2_with fail
                  go_roundw
                  case rel => exact ⟨y + lnN B y, HS7.out, HG7.out, by omega, hy3, HO7.out, fun j hj => HR5.out j (.more (by rw [HY.out]; exact HLN6.out) (by rw [HY.out]; exact hj))⟩
                  case measure =>
                    rw [HS7.out.msr, HS5.out.msr]
                    simp
                    omega
          · have H92 := Lib.hid h92
            have hcase : c ≠ 92 ∨ (c = 92 ∧ q ≠ 34) := by
              by_cases h : c = 92
              · exact .inr ⟨h, fun e => h92 ⟨h, e⟩⟩
              · exact .inl h
            clear h92
            by_cases h10 : c = 10
            · have t2 := byte_ne (c := c) (d := 92) (n := 92) (by rw [h10]; decide) rfl
              have H10 := Lib.hid (fun (n : Nat) => has1 (HS1.out.drewN n) true (by rw [HC.out, h10]; rfl))
              have L1 := Lib.hid (ln1 (HC.out.trans h10))
              clear h10 hcase
              go_wp2_with fail
              refine (HP.out).mono ?_
              rintro e w' ⟨rfl, m, rfl⟩
              go_wp2_with fail
              go_quiet (fail)
              go_wp2_with fail
              refine (H3.out _).mono ?_
              rintro e w' ⟨rfl, m3, rfl⟩
              go_wp2_with fail
              refine (H10.out _).mono ?_
              rintro e w' ⟨rfl, m4, rfl⟩
              go_wp2_with (at_builtin; (refine wpList_append_own _ rfl _ _ 22 rfl w.heap.size 5 i0 (.int .u8 0) 1 1 Tryz.underlying22 hi hz0 hz1 hz2 rfl (by decide) u5 _ _ rfl ((HOWN.out.drewN _).alloc _).1 ⟨wr.heap.size, 0, none⟩ 1 1 [byt 10] rfl rfl (lit_cells _ _ rfl [byt 10]) (byt_one [10]) (by unfold maxLen; (try simp only [List.length_append, List.length_cons, List.length_nil]); omega) (by (try simp only [List.length_append, List.length_cons, List.length_nil]); omega) ((HG.out.drewN _).alloc (.cells [byt 10].toArray 5)).size ?_); intro v6 w6 hown6 hgrow6 hnil6; have hS6 := ((HS1.out.drewN _).alloc (.cells [byt 10].toArray 5)).grown hgrow6 HOWN.out.lt hin.1 hin.2; have hat6 := hS6.at'; have hf6 := hS6.f1; have HS6 := Lib.hid hS6; clear hS6; have HO6 := Lib.hid (HOWN.out.app2 (t := [10]) rfl hown6 hnil6); have HG6 := Lib.hid (((HG.out.drewN _).alloc (.cells [byt 10].toArray 5)).grown hgrow6 HOWN.out.lt); have HCV6 := (HO6.out.setCell ⟨pb, 1, none⟩ hin.1 (.int .i64 ((i : Int) + 1))).conv; clear hown6 hgrow6 hnil6)
              go_roundw
              case rel => exact ⟨i + 1, 0, acc ++ [10], HS6.out.setAt (i + 1) (by omega), HG6.out.setCell _ _, by omega, by omega, HO6.out.setCell _ hin.1 _, by simp; omega, fun h => ⟨hst0, fun j t ht => by
                have h2 := HREL.out j _ (.nl (by omega) HT.out (by rw [HC.out]; exact H92.out) (by rw [L1.out.1]; decide) (by rw [L1.out.1]; exact ht))
                rw [L1.out.1, L1.out.2, ← List.append_assoc] at h2
                exact h2⟩⟩
              case measure =>
                show msr B pb (w6.setCell ⟨pb, 1, none⟩ (.int .i64 ((i + 1 : Nat) : Int))) < msr B pb wr
                rw [(HS6.out.setAt (i + 1) (by omega)).msr, HS1.out.msr]
                simp
                omega
            · have H10 := Lib.hid (fun (n : Nat) => has1 (HS1.out.drewN n) false (by rw [HC.out]; simpa using h10))
              by_cases h13 : c = 13 ∧ pk B (i + 1) = 10
              · have t2 := byte_ne (c := c) (d := 92) (n := 92) (by rw [h13.1]; decide) rfl
                have H13 := Lib.hid (fun (n : Nat) => has2 (HS1.out.drewN n) true (by rw [HC.out, h13.1, h13.2]; rfl))
                have L2 := Lib.hid (ln2 (HC.out.trans h13.1) h13.2)
                have hi13 : i + 1 < B.length := pk_in (by rw [h13.2]; decide)
                clear h10 h13 hcase
                go_wp2_with fail
                refine (HP.out).mono ?_
                rintro e w' ⟨rfl, m, rfl⟩
                go_wp2_with fail
                go_quiet (fail)
                go_wp2_with fail
                refine (H3.out _).mono ?_
                rintro e w' ⟨rfl, m3, rfl⟩
                go_wp2_with fail
                refine (H10.out _).mono ?_
                rintro e w' ⟨rfl, m4, rfl⟩
                go_wp2_with fail
                refine (H13.out _).mono ?_
                rintro e w' ⟨rfl, m5, rfl⟩
                go_wp2_with (at_builtin; (refine wpList_append_own _ rfl _ _ 22 rfl w.heap.size 5 i0 (.int .u8 0) 1 1 Tryz.underlying22 hi hz0 hz1 hz2 rfl (by decide) u5 _ _ rfl ((HOWN.out.drewN _).alloc _).1 ⟨wr.heap.size, 0, none⟩ 2 2 [byt 13, byt 10] rfl rfl (lit_cells _ _ rfl [byt 13, byt 10]) (byt_one [13, 10]) (by unfold maxLen; (try simp only [List.length_append, List.length_cons, List.length_nil]); omega) (by (try simp only [List.length_append, List.length_cons, List.length_nil]); omega) ((HG.out.drewN _).alloc (.cells [byt 13, byt 10].toArray 5)).size ?_); intro v6 w6 hown6 hgrow6 hnil6; have hS6 := ((HS1.out.drewN _).alloc (.cells [byt 13, byt 10].toArray 5)).grown hgrow6 HOWN.out.lt hin.1 hin.2; have hat6 := hS6.at'; have hf6 := hS6.f1; have HS6 := Lib.hid hS6; clear hS6; have HO6 := Lib.hid (HOWN.out.app2 (t := [13, 10]) rfl hown6 hnil6); have HG6 := Lib.hid (((HG.out.drewN _).alloc (.cells [byt 13, byt 10].toArray 5)).grown hgrow6 HOWN.out.lt); have HCV6 := (HO6.out.setCell ⟨pb, 1, none⟩ hin.1 (.int .i64 ((i : Int) + 2))).conv; clear hown6 hgrow6 hnil6)
                go_roundw
                case rel => exact ⟨i + 2, 0, acc ++ [13, 10], HS6.out.setAt (i + 2) (by omega), HG6.out.setCell _ _, by omega, by omega, HO6.out.setCell _ hin.1 _, by simp; omega, fun h => ⟨hst0, fun j t ht => by
                  have h2 := HREL.out j _ (.nl (by omega) HT.out (by rw [HC.out]; exact H92.out) (by rw [L2.out.1]; decide) (by rw [L2.out.1]; exact ht))
                  rw [L2.out.1, L2.out.2, ← List.append_assoc] at h2
                  exact h2⟩⟩
                case measure =>
                  show msr B pb (w6.setCell ⟨pb, 1, none⟩ (.int .i64 ((i + 2 : Nat) : Int))) < msr B pb wr
                  rw [(HS6.out.setAt (i + 2) (by omega)).msr, HS1.out.msr]
                  simp
                  omega
              · have H13 := Lib.hid (fun (n : Nat) => has2 (HS1.out.drewN n) false (by
                  rw [HC.out]
                  simp only [Bool.and_eq_false_iff, beq_eq_false_iff_ne, ne_eq]
                  by_cases h : c = 13
                  · exact .inr fun h' => h13 ⟨h, h'⟩
                  · exact .inl h))
                have hln0 : lnN B i = 0 := by rw [lnN, HC.out, if_neg h10, if_neg h13]
                have HLN0 := Lib.hid hln0
                clear h10 h13 hln0
                rcases hcase with hx | ⟨hx, hy⟩
                · have t2 := byte_ne hx (n := 92) rfl
                  clear hx
                  go_wp2_with fail
                  refine (HP.out).mono ?_
                  rintro e w' ⟨rfl, m, rfl⟩
                  go_wp2_with fail
                  go_quiet (fail)
                  go_wp2_with fail
                  refine (H3.out _).mono ?_
                  rintro e w' ⟨rfl, m3, rfl⟩
                  go_wp2_with fail
                  refine (H10.out _).mono ?_
                  rintro e w' ⟨rfl, m4, rfl⟩
                  go_wp2_with fail
                  refine (H13.out _).mono ?_
                  rintro e w' ⟨rfl, m5, rfl⟩
                  go_wp2_with fail
                  refine (sign_any (HS1.out.drewN _)).mono ?_
                  rintro e w2 ⟨n, b, rfl, hb2, hn4, hS2, hG2⟩
                  have HS2 := Lib.hid hS2
                  have HB2 := Lib.hid hb2
                  have HO2 := Lib.hid ((HOWN.out.drewN _).gr hG2 hin.1)
                  have HG2 := Lib.hid ((HG.out.drewN _).trans hG2)
                  have hsz : w.heap.size ≤ w2.heap.size := HG2.out.size
                  have hb' := hS2.b
                  have hat' := hS2.at'
                  have hf1' := hS2.f1
                  have hCC := hS2.cap
                  clear hS2 hG2 hb2
                  cases b with
                  | false =>
                    go_wp2_with fail
                    refine (fail_any HS2.out).mono ?_
                    rintro e w' ⟨rfl, hS3, hG3⟩
                    have HS3 := Lib.hid hS3
                    have HG3 := Lib.hid hG3
                    clear hS3 hG3
                    go_wp2_with fail
                    go_ret
                    exact TPost.mk _ rfl (SPost.mk HS3.out (HG2.out.trans HG3.out) (by omega) (Nat.le_refl _) fun h => absurd h (by decide))
                  | true =>
                    have hsg := HB2.out rfl
                    have hle := sgN_in (hsg.1 ▸ hsg.2)
                    rw [← hsg.1] at hle
                    have hlt : 0 < n := hsg.2
                    have HSG2 := Lib.hid hsg
                    have hCk : ¬ C = i := by omega
                    have htl : ((B.drop i).take n).length = n := by rw [List.length_take, List.length_drop]; omega
                    have HPART := Lib.hid (fun (m : Nat) => (HS2.out.drewN m).part i n)
                    have HTL := Lib.hid htl
                    clear hsg htl
                    go_wp2_with fail
                    have hb3 : World.cell? { w2 with drawn := w2.drawn + 1 } ⟨pb, 0, none⟩ = some (.slice (some a) B.length C) := hb'
                    have hat3 : World.cell? { w2 with drawn := w2.drawn + 1 } ⟨pb, 1, none⟩ = some (.int .i64 i) := hat'
                    have hw1 : IntKind.i64.wrap ((i : Int) + (n : Int)) = (i : Int) + (n : Int) := IntWalk.i64_in _ (by omega)
                    have hw2 : ((i : Int) + (n : Int)).toNat = i + n := by omega
                    have hw3 : (0 : Int) ≤ (i : Int) + (n : Int) := by omega
                    have hw4 : (i : Int) ≤ (i : Int) + (n : Int) := by omega
                    have hw5 : (i : Int) + (n : Int) ≤ (C : Int) := by omega
                    have hw6 : i ≤ i + n := by omega
                    have hw7 : i + n ≤ C := by omega
                    go_still_tail 16, (by kernel_rfl)
                    change wpList _ _ _ _ _ w2.drew
                    obtain ⟨w4, hw4e⟩ : ∃ w4, w4 = w2.drew := ⟨_, rfl⟩
                    rw [← hw4e]
                    have HS4 := Lib.hid (hw4e ▸ HS2.out.drewN 1 : SP w4 pb a C B i 0)
                    have HO4 := Lib.hid (hw4e ▸ HO2.out.drew : Own w4 w.heap.size u5 acc)
                    have HG4 := Lib.hid (hw4e ▸ HG2.out.drewN 1 : Gr w w4 pb)
                    have hsz4 : w.heap.size ≤ w4.heap.size := HG4.out.size
                    have HNW := Lib.hid (byt_cells (HS4.out.part i n))
                    clear hw4e hb3 hat3 hb' hat' hf1' hw1 hw2 hw3 hw4 hw5 hw6 hw7
                    go_wp2_with (at_builtin; (refine wpList_append_own _ rfl _ _ 22 rfl w.heap.size 5 i0 (.int .u8 0) 1 1 Tryz.underlying22 hi hz0 hz1 hz2 rfl (by decide) u5 acc.length (acc.map byt) rfl HO4.out.1 (a.add i) n _ (((B.drop i).take n).map byt) rfl (by rw [List.length_map, HTL.out, Nat.mul_one]) HNW.out (byt_one _) (by unfold maxLen; omega) (by omega) hsz4 ?_); intro v' w3 hown3 hgrow3 hnil3; have hS3 := HS4.out.grown hgrow3 HO4.out.lt hin.1 hin.2; have hat3 := hS3.at'; have hf3 := hS3.f1; have HS3 := Lib.hid hS3; clear hS3; have HO3 := Lib.hid (HO4.out.app2 HTL.out hown3 hnil3); have HG3 := Lib.hid (HG4.out.grown hgrow3 HO4.out.lt); clear hown3 hgrow3 hnil3)
                    go_roundw
                    case rel => exact ⟨i + n, 0, acc ++ (B.drop i).take n, HS3.out.setAt (i + n) (by omega), HG3.out.setCell _ _, by omega, by omega, HO3.out.setCell _ hin.1 _, by rw [List.length_append, HTL.out]; omega, fun h => ⟨hst0, fun j t ht => by
                      have h2 := HREL.out j ((B.drop i).take (sgN B i) ++ t) (.sgn (by omega) HT.out (by rw [HC.out]; exact H92.out) HLN0.out (HSG2.out.1 ▸ HSG2.out.2) (HSG2.out.1 ▸ ht))
                      rw [← HSG2.out.1, ← List.append_assoc] at h2
                      exact h2⟩⟩
                    case measure =>
                      show msr B pb (w3.setCell ⟨pb, 1, none⟩ (.int .i64 ((i + n : Nat) : Int))) < msr B pb wr
                      rw [(HS3.out.setAt (i + n) (by omega)).msr, HS1.out.msr]
                      simp
                      omega
                · have t2 := byte_eq hx (n := 92) rfl
                  have t3 := byte_ne hy (n := 34) rfl
                  clear hx hy
                  go_wp2_with fail
                  refine (HP.out).mono ?_
                  rintro e w' ⟨rfl, m, rfl⟩
                  go_wp2_with fail
                  go_quiet (fail)
                  go_wp2_with fail
                  refine (H3.out _).mono ?_
                  rintro e w' ⟨rfl, m3, rfl⟩
                  go_wp2_with fail
                  refine (H10.out _).mono ?_
                  rintro e w' ⟨rfl, m4, rfl⟩
                  go_wp2_with fail
                  refine (H13.out _).mono ?_
                  rintro e w' ⟨rfl, m5, rfl⟩
                  go_wp2_with fail
                  refine (sign_any (HS1.out.drewN _)).mono ?_
                  rintro e w2 ⟨n, b, rfl, hb2, hn4, hS2, hG2⟩
                  have HS2 := Lib.hid hS2
                  have HB2 := Lib.hid hb2
                  have HO2 := Lib.hid ((HOWN.out.drewN _).gr hG2 hin.1)
                  have HG2 := Lib.hid ((HG.out.drewN _).trans hG2)
                  have hsz : w.heap.size ≤ w2.heap.size := HG2.out.size
                  have hb' := hS2.b
                  have hat' := hS2.at'
                  have hf1' := hS2.f1
                  have hCC := hS2.cap
                  clear hS2 hG2 hb2
                  cases b with
                  | false =>
                    go_wp2_with fail
                    refine (fail_any HS2.out).mono ?_
                    rintro e w' ⟨rfl, hS3, hG3⟩
                    have HS3 := Lib.hid hS3
                    have HG3 := Lib.hid hG3
                    clear hS3 hG3
                    go_wp2_with fail
                    go_ret
                    exact TPost.mk _ rfl (SPost.mk HS3.out (HG2.out.trans HG3.out) (by omega) (Nat.le_refl _) fun h => absurd h (by decide))
                  | true =>
                    have hsg := HB2.out rfl
                    have hle := sgN_in (hsg.1 ▸ hsg.2)
                    rw [← hsg.1] at hle
                    have hlt : 0 < n := hsg.2
                    have HSG2 := Lib.hid hsg
                    have hCk : ¬ C = i := by omega
                    have htl : ((B.drop i).take n).length = n := by rw [List.length_take, List.length_drop]; omega
                    have HPART := Lib.hid (fun (m : Nat) => (HS2.out.drewN m).part i n)
                    have HTL := Lib.hid htl
                    clear hsg htl
                    go_wp2_with fail
                    have hb3 : World.cell? { w2 with drawn := w2.drawn + 1 } ⟨pb, 0, none⟩ = some (.slice (some a) B.length C) := hb'
                    have hat3 : World.cell? { w2 with drawn := w2.drawn + 1 } ⟨pb, 1, none⟩ = some (.int .i64 i) := hat'
                    have hw1 : IntKind.i64.wrap ((i : Int) + (n : Int)) = (i : Int) + (n : Int) := IntWalk.i64_in _ (by omega)
                    have hw2 : ((i : Int) + (n : Int)).toNat = i + n := by omega
                    have hw3 : (0 : Int) ≤ (i : Int) + (n : Int) := by omega
                    have hw4 : (i : Int) ≤ (i : Int) + (n : Int) := by omega
                    have hw5 : (i : Int) + (n : Int) ≤ (C : Int) := by omega
                    have hw6 : i ≤ i + n := by omega
                    have hw7 : i + n ≤ C := by omega
                    go_still_tail 16, (by kernel_rfl)
                    change wpList _ _ _ _ _ w2.drew
                    obtain ⟨w4, hw4e⟩ : ∃ w4, w4 = w2.drew := ⟨_, rfl⟩
                    rw [← hw4e]
                    have HS4 := Lib.hid (hw4e ▸ HS2.out.drewN 1 : SP w4 pb a C B i 0)
                    have HO4 := Lib.hid (hw4e ▸ HO2.out.drew : Own w4 w.heap.size u5 acc)
                    have HG4 := Lib.hid (hw4e ▸ HG2.out.drewN 1 : Gr w w4 pb)
                    have hsz4 : w.heap.size ≤ w4.heap.size := HG4.out.size
                    have HNW := Lib.hid (byt_cells (HS4.out.part i n))
                    clear hw4e hb3 hat3 hb' hat' hf1' hw1 hw2 hw3 hw4 hw5 hw6 hw7
                    go_wp2_with (at_builtin; (refine wpList_append_own _ rfl _ _ 22 rfl w.heap.size 5 i0 (.int .u8 0) 1 1 Tryz.underlying22 hi hz0 hz1 hz2 rfl (by decide) u5 acc.length (acc.map byt) rfl HO4.out.1 (a.add i) n _ (((B.drop i).take n).map byt) rfl (by rw [List.length_map, HTL.out, Nat.mul_one]) HNW.out (byt_one _) (by unfold maxLen; omega) (by omega) hsz4 ?_); intro v' w3 hown3 hgrow3 hnil3; have hS3 := HS4.out.grown hgrow3 HO4.out.lt hin.1 hin.2; have hat3 := hS3.at'; have hf3 := hS3.f1; have HS3 := Lib.hid hS3; clear hS3; have HO3 := Lib.hid (HO4.out.app2 HTL.out hown3 hnil3); have HG3 := Lib.hid (HG4.out.grown hgrow3 HO4.out.lt); clear hown3 hgrow3 hnil3)
                    go_roundw
                    case rel => exact ⟨i + n, 0, acc ++ (B.drop i).take n, HS3.out.setAt (i + n) (by omega), HG3.out.setCell _ _, by omega, by omega, HO3.out.setCell _ hin.1 _, by rw [List.length_append, HTL.out]; omega, fun h => ⟨hst0, fun j t ht => by
                      have h2 := HREL.out j ((B.drop i).take (sgN B i) ++ t) (.sgn (by omega) HT.out (by rw [HC.out]; exact H92.out) HLN0.out (HSG2.out.1 ▸ HSG2.out.2) (HSG2.out.1 ▸ ht))
                      rw [← HSG2.out.1, ← List.append_assoc] at h2
                      exact h2⟩⟩
                    case measure =>
                      show msr B pb (w3.setCell ⟨pb, 1, none⟩ (.int .i64 ((i + n : Nat) : Int))) < msr B pb wr
                      rw [(HS3.out.setAt (i + n) (by omega)).msr, HS1.out.msr]
                      simp
                      omega
    · have t0 : (s1 == 0) = false := by simpa using h0
      go_wp2_with fail
      go_ret
      exact ⟨_, rfl, SPost.mk HS1.out HG.out (by omega) hi' fun h => absurd h h0⟩
end Go.Proofs.YtalmpddmhakdmaaGreat
