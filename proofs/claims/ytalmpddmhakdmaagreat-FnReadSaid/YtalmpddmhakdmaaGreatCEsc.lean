/-
  The walk of a function of the spec's parser: what stands behind a stroke. Conditions: the parser lies in memory as stated.
-/
import Derived.Test.YtalmpddmhakdmaaGreatCRem
import Derived.Lib.SlBytesConst
namespace Go.Proofs.YtalmpddmhakdmaaGreat
open Go.RowKit

/-- What figures of sixteen tell. -/
def hexV (B : List UInt8) (i : Nat) : Nat → Nat
  | 0 => 0
  | n + 1 => hexV B i n * 16 + vD (pk B (i + n))
/-- The signs behind a stroke, and what they tell. -/
def escS : List UInt8 := [98, 116, 110, 102, 114, 34, 92]
def escT : List UInt8 := [8, 9, 10, 12, 13, 34, 92]
/-- What stands behind a stroke. -/
inductive EscR (B : List UInt8) : Nat → Nat → List UInt8 → Prop
  | one {i k : Nat} : k < 7 → pk B i = escS.getD k 0 → EscR B i (i + 1) [escT.getD k 0]
  | uni {i n : Nat} : ((pk B i = 117 ∧ n = 4) ∨ (pk B i = 85 ∧ n = 8)) → n ≤ dgN B (i + 1) 16 → hexV B (i + 1) n ≤ 1114111 → (hexV B (i + 1) n < 55296 ∨ 57344 ≤ hexV B (i + 1) n) → EscR B i (i + 1 + n) (Utf8.encode (hexV B (i + 1) n)).toList

/-- .. of a function that hands a text back. -/
def TPost (pb : Nat) (a : Addr) (C : Nat) (B : List UInt8) (k : Nat) (st : Int) (w : World) (R : Nat → List UInt8 → Prop) (e : Ending) (w' : World) : Prop :=
  ∃ s : ByteArray, e = .returned (.string s) ∧ SPost pb a C B k st w (fun j => R j s.toList) w'

theorem run_conv_id (w : World) (q : Nat) (p : Addr) (v : Value) (L : Array Value) (n c : Nat) : (convert 22 22 (.slice (some ⟨w.heap.size, 0, none⟩) n c)).run Tryz.prog (((w.drewN q).setCell p v).alloc (.cells L 5)) = .ok (.slice (some ⟨w.heap.size, 0, none⟩) n c) (((w.drewN q).setCell p v).alloc (.cells L 5 (L.size, L.size + 1))) := by
  have h := Lib.run_convert_bytes_const (P := Tryz.prog) ((w.drewN q).setCell p v) 22 5 L n c Tryz.underlying22 Tryz.underlying5
  have e : ((w.drewN q).setCell p v).heap.size = w.heap.size := by simp [World.setCell]
  rw [e] at h
  exact h

theorem cell_marked (w : World) (L : Array Value) (t : TypeId) (f : Nat × Nat) (j : Nat) : (w.alloc (.cells L t f)).cell? ⟨w.heap.size, j, none⟩ = L[j]? := by
  have : (w.alloc (.cells L t f)).heap[w.heap.size]? = some (.cells L t f) := by
    show (w.heap.push (.cells L t f))[w.heap.size]? = _
    simp
  unfold World.cell?
  rw [this]
  rfl
theorem esc_cell (w : World) (q : Nat) (p : Addr) (v : Value) (j : Nat) (hj : j < 7) : (((w.drewN q).setCell p v).alloc (.cells #[.int .u8 98, .int .u8 116, .int .u8 110, .int .u8 102, .int .u8 114, .int .u8 34, .int .u8 92] 5 (7, 8))).cell? ⟨w.heap.size, j, none⟩ = some (.int .u8 ((escS.getD j 0).toNat : Int)) := by
  have e : ((w.drewN q).setCell p v).heap.size = w.heap.size := by simp [World.setCell]
  have h := cell_marked ((w.drewN q).setCell p v) #[.int .u8 98, .int .u8 116, .int .u8 110, .int .u8 102, .int .u8 114, .int .u8 34, .int .u8 92] 5 (7, 8) j
  rw [e] at h
  rw [h]
  match j, hj with
  | 0, _ => rfl
  | 1, _ => rfl
  | 2, _ => rfl
  | 3, _ => rfl
  | 4, _ => rfl
  | 5, _ => rfl
  | 6, _ => rfl
theorem esc_ne (j : Nat) (hj : j < 7) : escS.getD j 0 ≠ 0 := by
  match j, hj with
  | 0, _ => decide
  | 1, _ => decide
  | 2, _ => decide
  | 3, _ => decide
  | 4, _ => decide
  | 5, _ => decide
  | 6, _ => decide
theorem takeWhile_at {p : UInt8 → Bool} : ∀ {l : List UInt8} {j : Nat}, j < (l.takeWhile p).length → p (l.getD j 0) = true
  | [], j, h => by simp at h
  | c :: l, j, h => by
    by_cases hc : p c = true
    · rw [List.takeWhile_cons_of_pos hc, List.length_cons] at h
      cases j with
      | zero => exact hc
      | succ j => exact takeWhile_at (l := l) (by omega)
    · rw [List.takeWhile_cons_of_neg hc] at h
      simp at h
theorem dgN_at {B : List UInt8} {i base j : Nat} (h : j < dgN B i base) : vD (pk B (i + j)) < base := by
  have h1 := takeWhile_at h
  rw [List.getD, List.getElem?_drop] at h1
  simpa [pk, List.getD] using h1
theorem ofInt_i64 (a : Nat) (ha : a < 9223372036854775808) : (BitVec.ofInt 64 (a : Int)).toNat = a := by
  rw [BitVec.ofInt_natCast, BitVec.toNat_ofNat]
  exact Nat.mod_eq_of_lt (by omega)
theorem i64_or_nat (a b : Nat) (ha : a < 9223372036854775808) (hb : b < 9223372036854775808) : bits .or .i64 (a : Int) (b : Int) = ((a ||| b : Nat) : Int) := by
  have hx : a ||| b < 2 ^ 63 := Nat.or_lt_two_pow (by omega) (by omega)
  show IntKind.i64.wrap ((BitVec.ofInt 64 (a : Int) ||| BitVec.ofInt 64 (b : Int)).toNat : Int) = _
  rw [BitVec.toNat_or, ofInt_i64 a ha, ofInt_i64 b hb, IntKind.wrap_i64]
  omega
theorem or16 (v y : Nat) (hv : v < 268435456) (t : Nat) (h1 : t ≤ y) (h2 : y < t + 16) : Value.int .i64 (bits .or .i64 ((v : Int) * 16) ((y : Int) - t)) = .int .i64 ((v * 16 + (y - t) : Nat) : Int) := by
  have e1 : (v : Int) * 16 = ((v * 16 : Nat) : Int) := by omega
  have e2 : (y : Int) - t = ((y - t : Nat) : Int) := by omega
  rw [e1, e2, i64_or_nat _ _ (by omega) (by omega)]
  have e3 : v * 16 ||| (y - t) = v * 16 + (y - t) := by
    have := Nat.shiftLeft_add_eq_or_of_lt (b := y - t) (i := 4) (by omega) v
    rw [Nat.shiftLeft_eq, show (2 : Nat) ^ 4 = 16 from rfl] at this
    omega
  rw [e3]
theorem hex_round {B : List UInt8} {i n j : Nat} (h : n ≤ dgN B i 16) (hj : j < n) : (97 ≤ (pk B (i + j)).toNat ∧ (pk B (i + j)).toNat ≤ 102 ∧ vD (pk B (i + j)) = (pk B (i + j)).toNat - 87) ∨
    (65 ≤ (pk B (i + j)).toNat ∧ (pk B (i + j)).toNat ≤ 70 ∧ vD (pk B (i + j)) = (pk B (i + j)).toNat - 55) ∨ (48 ≤ (pk B (i + j)).toNat ∧ (pk B (i + j)).toNat ≤ 57 ∧ vD (pk B (i + j)) = (pk B (i + j)).toNat - 48) := by
  have h1 : vD (pk B (i + j)) < 16 := dgN_at (by omega)
  unfold vD at h1 ⊢
  by_cases a : 48 ≤ (pk B (i + j)).toNat ∧ (pk B (i + j)).toNat ≤ 57
  · rw [if_pos a]
    exact .inr (.inr ⟨a.1, a.2, rfl⟩)
  rw [if_neg a] at h1 ⊢
  by_cases b : 97 ≤ (pk B (i + j)).toNat ∧ (pk B (i + j)).toNat ≤ 102
  · rw [if_pos b]
    exact .inl ⟨b.1, b.2, rfl⟩
  rw [if_neg b] at h1 ⊢
  by_cases c : 65 ≤ (pk B (i + j)).toNat ∧ (pk B (i + j)).toNat ≤ 70
  · rw [if_pos c]
    exact .inr (.inl ⟨c.1, c.2, rfl⟩)
  rw [if_neg c] at h1
  omega
theorem esc_text (j : Nat) (hj : j < 7) : ((⟨#[8, 9, 10, 12, 13, 34, 92]⟩ : ByteArray).extract j (j + 1)).toList = [escT.getD j 0] := by
  rw [ByteArray.toList_eq, ByteArray.data_extract]
  match j, hj with
  | 0, _ => rfl
  | 1, _ => rfl
  | 2, _ => rfl
  | 3, _ => rfl
  | 4, _ => rfl
  | 5, _ => rfl
  | 6, _ => rfl
theorem TPost.mk {pb : Nat} {a : Addr} {C : Nat} {B : List UInt8} {k : Nat} {st : Int} {w : World} {R : Nat → List UInt8 → Prop} {e : Ending} {w' : World} (s : ByteArray) (h : e = .returned (.string s)) (h2 : SPost pb a C B k st w (fun j => R j s.toList) w') : TPost pb a C B k st w R e w' := ⟨s, h, h2⟩

/-- .. of the one that reads what stands behind a stroke: a short text. -/
def EPost (pb : Nat) (a : Addr) (C : Nat) (B : List UInt8) (k : Nat) (st : Int) (w : World) (R : Nat → List UInt8 → Prop) (e : Ending) (w' : World) : Prop :=
  ∃ s : ByteArray, e = .returned (.string s) ∧ s.size ≤ 4 ∧ SPost pb a C B k st w (fun j => R j s.toList) w'
theorem EPost.mk {pb : Nat} {a : Addr} {C : Nat} {B : List UInt8} {k : Nat} {st : Int} {w : World} {R : Nat → List UInt8 → Prop} {e : Ending} {w' : World} (s : ByteArray) (h : e = .returned (.string s)) (hz : s.size ≤ 4) (h2 : SPost pb a C B k st w (fun j => R j s.toList) w') : EPost pb a C B k st w R e w' := ⟨s, h, hz, h2⟩
theorem esc_text_size (j : Nat) : ((⟨#[8, 9, 10, 12, 13, 34, 92]⟩ : ByteArray).extract j (j + 1)).size ≤ 4 := by
  rw [ByteArray.size_extract]
  omega

set_option maxRecDepth 100000 in
set_option maxHeartbeats 1000000 in
theorem escape_any {w : World} {pb : Nat} {a : Addr} {C : Nat} {B : List UInt8} {k : Nat} {st : Int} (hS : SP w pb a C B k st) (hk : k ≤ B.length) :
    Calls Tryz.prog 49 #[.pointer (some ⟨pb, 0, none⟩)] w (EPost pb a C B k st w (EscR B k)) := by
  have HP := Lib.hid (peek_any hS 0 k (by omega) (by omega))
  have HS := Lib.hid hS
  have h2 := hS.at'
  have f1 := hS.f1
  have hl := hS.len
  clear hS
  obtain ⟨c, hc⟩ : ∃ c, pk B k = c := ⟨_, rfl⟩
  rw [hc] at HP
  have HC := Lib.hid hc
  clear hc
  have hcid := run_conv_id w
  go_enter Tryz.func49, Tryz.ntmps49
  go_wp2_with (go_at_call 8; refine (HP.out).mono ?_; rintro e w' ⟨rfl, m, rfl⟩)
  go_loop [22] (fun v => ∃ j : Nat, v = .int .i64 j ∧ j ≤ 7 ∧ ∀ x, x < j → c ≠ escS.getD x 0) (fun v => 7 - (intOf v).toNat)
  case atStart => exact ⟨0, rfl, by omega, fun x hx => absurd hx (by omega)⟩
  case round =>
    obtain ⟨j, rfl, hj, hno⟩ := hrel
    have HNO := Lib.hid hno
    clear hno
    by_cases hlt : j < 7
    · have hcell := esc_cell w m ⟨pb, 1, none⟩ (.int .i64 (↑k + 1)) j hlt
      have hne := esc_ne j hlt
      obtain ⟨x, hx⟩ : ∃ x, escS.getD j 0 = x := ⟨_, rfl⟩
      rw [hx] at hcell hne
      have HX := Lib.hid hx
      clear hx
      by_cases he : c = x
      · have t := byte_eq he (n := (x.toNat : Int)) rfl
        have hin : k < B.length := pk_in (by rw [HC.out, he]; exact hne)
        have HE := Lib.hid he
        clear he hne
        go_wp2_with fail
        go_ret
        refine EPost.mk _ rfl (esc_text_size j) (SPost.mk (((HS.out.drewN _).setAt (k + 1) (by omega)).alloc _) ((((Gr.refl _ _).drewN _).setCell _ _).alloc _) (Nat.le_succ _) hin fun h => ⟨h, ?_⟩)
        rw [esc_text j hlt]
        exact .one hlt (by rw [HC.out, HE.out, HX.out])
      · have t := byte_ne he (n := (x.toNat : Int)) rfl
        have HE := Lib.hid he
        clear he hne
        go_wp2_with fail
        go_round
        case rel => exact ⟨j + 1, by go_num, by omega, fun y hy => by
          rcases Nat.lt_or_ge y j with h | h
          · exact HNO.out y h
          · obtain rfl : y = j := by omega
            rw [HX.out]
            exact HE.out⟩
        case measure => simp [intOf]; omega
    · obtain rfl : j = 7 := by omega
      have hno := HNO.out
      obtain ⟨W, hW⟩ : ∃ W, W = (((w.drewN m).setCell ⟨pb, 1, none⟩ (.int .i64 ((k : Int) + 1))).alloc (.cells #[.int .u8 98, .int .u8 116, .int .u8 110, .int .u8 102, .int .u8 114, .int .u8 34, .int .u8 92] 5 (7, 8))) := ⟨_, rfl⟩
      rw [← hW]
      have hS1 : SP W pb a C B (k + 1) st := by
        rw [hW]
        exact ((HS.out.drewN m).setAt (k + 1) (by omega)).alloc _
      have hG1 : Gr w W pb := by
        rw [hW]
        exact (((Gr.refl _ _).drewN _).setCell _ _).alloc _
      have HG1 := Lib.hid hG1
      have HS1 := Lib.hid hS1
      clear hG1 hS1 hW hno h2 f1
      by_cases hu : (c = 117 ∨ c = 85)
      · have HD := Lib.hid (digits_any HS1.out 0 (k + 1) 16 (by omega) (by omega) (by decide))
        have hdl := dgN_le B (k + 1) 16
        obtain ⟨d, hd⟩ : ∃ d, dgN B (k + 1) 16 = d := ⟨_, rfl⟩
        rw [hd] at HD hdl
        have HDD := Lib.hid hd
        clear hd
        have hkin : k < B.length := pk_in (by rw [HC.out]; rcases hu with h | h <;> rw [h] <;> decide)
        rcases hu with hu | hu
        all_goals
          have HU := Lib.hid hu
          first
            | have t1 := byte_eq hu (d := 117) (n := 117) rfl
            | (have t1 := byte_ne (c := c) (d := 117) (n := 117) (by rw [hu]; decide) rfl
               have t2 := byte_eq hu (d := 85) (n := 85) rfl)
          clear hu
          go_wp2_with fail
          refine (HD.out).mono ?_
          rintro e w' ⟨rfl, q, rfl⟩
        · by_cases hdn : d < 4
          · go_wp2_with fail
            refine (fail_any (HS1.out.drewN _)).mono ?_
            rintro e w' ⟨rfl, hS3, hG3⟩
            have HS3 := Lib.hid hS3
            have HG3 := Lib.hid hG3
            clear hS3 hG3
            go_wp2_with fail
            go_ret
            exact EPost.mk _ rfl (by decide) (SPost.mk HS3.out ((HG1.out.drewN _).trans HG3.out) hk (Nat.le_refl _) fun h => by split at h <;> omega)
          · have HPK := Lib.hid (fun (x : Nat) (j : Nat) (hj : j ≤ 10) => peek_any (HS1.out.drewN x) j (k + 1 + j) (by omega) (by omega))
            go_wp2_with fail
            go_loopw [7, 51] (fun v i wr => ∃ (j x : Nat), wr = W.drewN x ∧ i = .int .i64 j ∧ v = .int .i64 (hexV B (k + 1) j) ∧ j ≤ 4 ∧ hexV B (k + 1) j < 16 ^ j) (fun _ i _ => 4 - (intOf i).toNat)
            case atStart => exact ⟨0, _, rfl, rfl, rfl, by omega, by show 0 < 1; decide⟩
            case round =>
              obtain ⟨j, x, rfl, rfl, rfl, hj, hx⟩ := hrel
              by_cases hlt : j < 4
              · have hb := hex_round (i := k + 1) (B := B) (n := 4) (j := j) (by rw [HDD.out]; omega) hlt
                have HP2 := Lib.hid (HPK.out x j (by omega))
                obtain ⟨v, hv⟩ : ∃ v, hexV B (k + 1) j = v := ⟨_, rfl⟩
                have hstep : hexV B (k + 1) (j + 1) = v * 16 + vD (pk B (k + 1 + j)) := by rw [← hv]; rfl
                rw [hv] at hx ⊢
                have HSTEP := Lib.hid hstep
                clear hstep hv
                obtain ⟨y, hy⟩ : ∃ y, pk B (k + 1 + j) = y := ⟨_, rfl⟩
                rw [hy] at HP2 hb HSTEP
                clear hy
                have hpw : 16 ^ (j + 1) = 16 ^ j * 16 := Nat.pow_succ ..
                have hp8 : 16 ^ j ≤ 16 ^ 7 := Nat.pow_le_pow_right (by decide) (by omega)
                have hvb : v < 268435456 := by omega
                have HX := Lib.hid (And.intro hx (And.intro hpw hp8))
                clear hx hpw hp8
                rcases hb with ⟨h1, h2, h3⟩ | ⟨h1, h2, h3⟩ | ⟨h1, h2, h3⟩
                · go_wp2_with fail
                  refine (HP2.out).mono ?_
                  rintro e w' ⟨rfl, z, rfl⟩
                  go_wp2_with fail
                  go_roundw
                  case rel => exact ⟨j + 1, _, rfl, by go_num, by rw [HSTEP.out, h3]; exact or16 v _ hvb 87 (by omega) (by omega), by omega, by rw [HSTEP.out]; have := HX.out; omega⟩
                  case measure => simp [intOf]; omega
                · go_wp2_with fail
                  refine (HP2.out).mono ?_
                  rintro e w' ⟨rfl, z, rfl⟩
                  go_wp2_with fail
                  go_roundw
                  case rel => exact ⟨j + 1, _, rfl, by go_num, by rw [HSTEP.out, h3]; exact or16 v _ hvb 55 (by omega) (by omega), by omega, by rw [HSTEP.out]; have := HX.out; omega⟩
                  case measure => simp [intOf]; omega
                · go_wp2_with fail
                  refine (HP2.out).mono ?_
                  rintro e w' ⟨rfl, z, rfl⟩
                  go_wp2_with fail
                  go_roundw
                  case rel => exact ⟨j + 1, _, rfl, by go_num, by rw [HSTEP.out, h3]; exact or16 v _ hvb 48 (by omega) (by omega), by omega, by rw [HSTEP.out]; have := HX.out; omega⟩
                  case measure => simp [intOf]; omega
              · obtain rfl : j = 4 := by omega
                have hb : hexV B (k + 1) 4 ≤ 4294967295 := by
                  have h16 : (16 : Nat) ^ 4 ≤ 4294967296 := by decide
                  omega
                have hdl2 : k + 1 + 4 ≤ B.length := by omega
                obtain ⟨v, hv⟩ : ∃ v, hexV B (k + 1) 4 = v := ⟨_, rfl⟩
                rw [hv] at hb ⊢
                have HV := Lib.hid hv
                have h2 := HS1.out.at'
                have f1 := HS1.out.f1
                have HS4 := Lib.hid (fun (n : Nat) => (HS1.out.drewN n).setAt (k + 1 + 4) (by omega))
                clear hx hv
                by_cases hbad : v ≤ 1114111 ∧ (v < 55296 ∨ 57344 ≤ v)
                · have hres : EscR B k (k + 1 + 4) (Utf8.encode (v : Int)).toList := by
                    have h := EscR.uni (B := B) (i := k) (n := 4) (by rw [HC.out]; exact .inl ⟨HU.out, rfl⟩) (by rw [HDD.out]; omega)
                    rw [HV.out] at h
                    exact h hbad.1 hbad.2
                  have HRES := Lib.hid hres
                  clear hres
                  rcases hbad with ⟨h1, hb | hb⟩
                  all_goals
                    go_wp2_with fail
                    go_ret
                    exact EPost.mk _ rfl (enc_size _).2 (SPost.mk (HS4.out _) ((HG1.out.drewN _).setCell _ _) (by omega) hdl2 fun h => ⟨h, HRES.out⟩)
                · have hbad2 : 1114111 < v ∨ (v ≤ 1114111 ∧ 55296 ≤ v ∧ v < 57344) := by omega
                  clear hbad
                  rcases hbad2 with hb | ⟨hb, hb2, hb3⟩
                  all_goals
                    go_wp2_with fail
                    refine (fail_any (HS4.out _)).mono ?_
                    rintro e w' ⟨rfl, hS3, hG3⟩
                    have HS3 := Lib.hid hS3
                    have HG3 := Lib.hid hG3
                    clear hS3 hG3
                    go_wp2_with fail
                    go_ret
                    exact EPost.mk _ rfl (by decide) (SPost.mk HS3.out (((HG1.out.drewN _).setCell _ _).trans HG3.out) hk (Nat.le_refl _) fun h => by split at h <;> omega)
        · by_cases hdn : d < 8
          · go_wp2_with fail
            refine (fail_any (HS1.out.drewN _)).mono ?_
            rintro e w' ⟨rfl, hS3, hG3⟩
            have HS3 := Lib.hid hS3
            have HG3 := Lib.hid hG3
            clear hS3 hG3
            go_wp2_with fail
            go_ret
            exact EPost.mk _ rfl (by decide) (SPost.mk HS3.out ((HG1.out.drewN _).trans HG3.out) hk (Nat.le_refl _) fun h => by split at h <;> omega)
          · have HPK := Lib.hid (fun (x : Nat) (j : Nat) (hj : j ≤ 10) => peek_any (HS1.out.drewN x) j (k + 1 + j) (by omega) (by omega))
            go_wp2_with fail
            go_loopw [7, 51] (fun v i wr => ∃ (j x : Nat), wr = W.drewN x ∧ i = .int .i64 j ∧ v = .int .i64 (hexV B (k + 1) j) ∧ j ≤ 8 ∧ hexV B (k + 1) j < 16 ^ j) (fun _ i _ => 8 - (intOf i).toNat)
            case atStart => exact ⟨0, _, rfl, rfl, rfl, by omega, by show 0 < 1; decide⟩
            case round =>
              obtain ⟨j, x, rfl, rfl, rfl, hj, hx⟩ := hrel
              by_cases hlt : j < 8
              · have hb := hex_round (i := k + 1) (B := B) (n := 8) (j := j) (by rw [HDD.out]; omega) hlt
                have HP2 := Lib.hid (HPK.out x j (by omega))
                obtain ⟨v, hv⟩ : ∃ v, hexV B (k + 1) j = v := ⟨_, rfl⟩
                have hstep : hexV B (k + 1) (j + 1) = v * 16 + vD (pk B (k + 1 + j)) := by rw [← hv]; rfl
                rw [hv] at hx ⊢
                have HSTEP := Lib.hid hstep
                clear hstep hv
                obtain ⟨y, hy⟩ : ∃ y, pk B (k + 1 + j) = y := ⟨_, rfl⟩
                rw [hy] at HP2 hb HSTEP
                clear hy
                have hpw : 16 ^ (j + 1) = 16 ^ j * 16 := Nat.pow_succ ..
                have hp8 : 16 ^ j ≤ 16 ^ 7 := Nat.pow_le_pow_right (by decide) (by omega)
                have hvb : v < 268435456 := by omega
                have HX := Lib.hid (And.intro hx (And.intro hpw hp8))
                clear hx hpw hp8
                rcases hb with ⟨h1, h2, h3⟩ | ⟨h1, h2, h3⟩ | ⟨h1, h2, h3⟩
                · go_wp2_with fail
                  refine (HP2.out).mono ?_
                  rintro e w' ⟨rfl, z, rfl⟩
                  go_wp2_with fail
                  go_roundw
                  case rel => exact ⟨j + 1, _, rfl, by go_num, by rw [HSTEP.out, h3]; exact or16 v _ hvb 87 (by omega) (by omega), by omega, by rw [HSTEP.out]; have := HX.out; omega⟩
                  case measure => simp [intOf]; omega
                · go_wp2_with fail
                  refine (HP2.out).mono ?_
                  rintro e w' ⟨rfl, z, rfl⟩
                  go_wp2_with fail
                  go_roundw
                  case rel => exact ⟨j + 1, _, rfl, by go_num, by rw [HSTEP.out, h3]; exact or16 v _ hvb 55 (by omega) (by omega), by omega, by rw [HSTEP.out]; have := HX.out; omega⟩
                  case measure => simp [intOf]; omega
                · go_wp2_with fail
                  refine (HP2.out).mono ?_
                  rintro e w' ⟨rfl, z, rfl⟩
                  go_wp2_with fail
                  go_roundw
                  case rel => exact ⟨j + 1, _, rfl, by go_num, by rw [HSTEP.out, h3]; exact or16 v _ hvb 48 (by omega) (by omega), by omega, by rw [HSTEP.out]; have := HX.out; omega⟩
                  case measure => simp [intOf]; omega
              · obtain rfl : j = 8 := by omega
                have hb : hexV B (k + 1) 8 ≤ 4294967295 := by
                  have h16 : (16 : Nat) ^ 8 ≤ 4294967296 := by decide
                  omega
                have hdl2 : k + 1 + 8 ≤ B.length := by omega
                obtain ⟨v, hv⟩ : ∃ v, hexV B (k + 1) 8 = v := ⟨_, rfl⟩
                rw [hv] at hb ⊢
                have HV := Lib.hid hv
                have h2 := HS1.out.at'
                have f1 := HS1.out.f1
                have HS4 := Lib.hid (fun (n : Nat) => (HS1.out.drewN n).setAt (k + 1 + 8) (by omega))
                clear hx hv
                by_cases hbad : v ≤ 1114111 ∧ (v < 55296 ∨ 57344 ≤ v)
                · have hres : EscR B k (k + 1 + 8) (Utf8.encode (v : Int)).toList := by
                    have h := EscR.uni (B := B) (i := k) (n := 8) (by rw [HC.out]; exact .inr ⟨HU.out, rfl⟩) (by rw [HDD.out]; omega)
                    rw [HV.out] at h
                    exact h hbad.1 hbad.2
                  have HRES := Lib.hid hres
                  clear hres
                  rcases hbad with ⟨h1, hb | hb⟩
                  all_goals
                    go_wp2_with fail
                    go_ret
                    exact EPost.mk _ rfl (enc_size _).2 (SPost.mk (HS4.out _) ((HG1.out.drewN _).setCell _ _) (by omega) hdl2 fun h => ⟨h, HRES.out⟩)
                · have hbad2 : 1114111 < v ∨ (v ≤ 1114111 ∧ 55296 ≤ v ∧ v < 57344) := by omega
                  clear hbad
                  rcases hbad2 with hb | ⟨hb, hb2, hb3⟩
                  all_goals
                    go_wp2_with fail
                    refine (fail_any (HS4.out _)).mono ?_
                    rintro e w' ⟨rfl, hS3, hG3⟩
                    have HS3 := Lib.hid hS3
                    have HG3 := Lib.hid hG3
                    clear hS3 hG3
                    go_wp2_with fail
                    go_ret
                    exact EPost.mk _ rfl (by decide) (SPost.mk HS3.out (((HG1.out.drewN _).setCell _ _).trans HG3.out) hk (Nat.le_refl _) fun h => by split at h <;> omega)
      · have t1 := byte_ne (c := c) (d := 117) (n := 117) (fun h => hu (.inl h)) rfl
        have t2 := byte_ne (c := c) (d := 85) (n := 85) (fun h => hu (.inr h)) rfl
        go_wp2_with fail
        refine (fail_any HS1.out).mono ?_
        rintro e w' ⟨rfl, hS3, hG3⟩
        have HS3 := Lib.hid hS3
        have HG3 := Lib.hid hG3
        clear hS3 hG3
        go_wp2_with fail
        go_ret
        exact EPost.mk _ rfl (by decide) (SPost.mk HS3.out ((HG1.out).trans HG3.out) hk (Nat.le_refl _) fun h => by split at h <;> omega)
end Go.Proofs.YtalmpddmhakdmaaGreat
