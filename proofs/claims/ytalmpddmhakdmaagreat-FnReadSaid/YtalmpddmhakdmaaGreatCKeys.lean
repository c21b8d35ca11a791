/-
  The walk of a function of the spec's parser: a key. Conditions: the parser lies in memory as stated.
-/
import Derived.Test.YtalmpddmhakdmaaGreatCKeyA
import Derived.Deep.AppendLies
import Derived.Deep.RegionLaw
namespace Go.Proofs.YtalmpddmhakdmaaGreat
open Go.RowKit

/-- What a function leaves that hands back a row of texts. -/
def KPost (pb : Nat) (a : Addr) (C : Nat) (B : List UInt8) (k : Nat) (st : Int) (w : World) (R : Nat → List (List UInt8) → Prop) (e : Ending) (w' : World) : Prop :=
  ∃ (v : Value) (ks : List (List UInt8)), e = .returned v ∧ OwnS w' w.heap.size v ks ∧ SPost pb a C B k st w (fun j => R j ks) w'
theorem KPost.mk {pb : Nat} {a : Addr} {C : Nat} {B : List UInt8} {k : Nat} {st : Int} {w : World} {R : Nat → List (List UInt8) → Prop} {e : Ending} {w' : World} (v : Value) (ks : List (List UInt8)) (h : e = .returned v) (ho : OwnS w' w.heap.size v ks) (h2 : SPost pb a C B k st w (fun j => R j ks) w') : KPost pb a C B k st w R e w' := ⟨v, ks, h, ho, h2⟩
theorem OwnS.nil (w : World) (base : Nat) : OwnS w base (.slice none 0 0) [] := World.ownsRow_nil w base 9 1

/-- What holds at the head of the loop. -/
def KyInv (pb : Nat) (a : Addr) (C : Nat) (B : List UInt8) (k : Nat) (st : Int) (w : World) (v : Value) (wr : World) : Prop :=
  ∃ (i : Nat) (s1 : Int) (acc : List (List UInt8)), SP wr pb a C B i s1 ∧ Gr w wr pb ∧ k ≤ i ∧ i ≤ B.length ∧ OwnS wr w.heap.size v acc ∧ acc.length ≤ i ∧ (s1 = 0 → st = 0 ∧ ∀ j ks, KyR B i j ks → KyR B k j (acc ++ ks))

theorem key_step {B : List UInt8} {k i i1 j2 : Nat} {t : List UInt8} {acc : List (List UInt8)} (hi1 : skp B i = i1) (hrel : ∀ j ks, KyR B i j ks → KyR B k j (acc ++ ks)) (hp : KpR B i1 j2 t) : (pk B (skp B j2) ≠ 46 → KyR B k (skp B j2) (acc ++ [t])) ∧ (pk B (skp B j2) = 46 → ∀ j ks, KyR B (skp B j2 + 1) j ks → KyR B k j ((acc ++ [t]) ++ ks)) := by
  subst hi1
  exact ⟨fun h => hrel _ _ (.last hp h), fun h j ks hk => by rw [List.append_assoc]; exact hrel _ _ (.more hp h hk)⟩

set_option maxRecDepth 100000 in
set_option maxHeartbeats 4000000 in
theorem keys_any {w : World} {pb : Nat} {a : Addr} {C : Nat} {B : List UInt8} {k : Nat} {st : Int} (hS : SP w pb a C B k st) (hk : k ≤ B.length) :
    Calls Tryz.prog 9 #[.pointer (some ⟨pb, 0, none⟩)] w (KPost pb a C B k st w (KyR B k)) := by
  obtain ⟨i0, hi, hz0, hz1, hz2⟩ := info_parts Tryz.info9
  have hin := hS.in_heap
  have HS := Lib.hid hS
  have hl := hS.len
  clear hS
  go_enter Tryz.func9, Tryz.ntmps9
  go_wp2_with fail
  go_loopw [3] (fun v wr => KyInv pb a C B k st w v wr) (fun _ wr => msr B pb wr)
  case atStart => exact ⟨k, st, [], HS.out.alloc _, (Gr.refl _ _).alloc _, Nat.le_refl _, hk, OwnS.made rfl, Nat.zero_le _, fun h => ⟨h, fun _ _ h => h⟩⟩
  case round =>
    obtain ⟨i, s1, acc, hS, hG, hki, hi', hown, hacc, hrel⟩ := hrel
    have HS1 := Lib.hid hS
    have HG := Lib.hid hG
    have HR := Lib.hid hrel
    have HOWN := Lib.hid hown
    have hst := hS.st'
    clear hS hG hrel hown
    by_cases h0 : s1 = 0
    · subst h0
      have hst0 : st = 0 := (HR.out rfl).1
      have hrel := (HR.out rfl).2
      have HREL := Lib.hid hrel
      clear hrel
      obtain ⟨i1, hi1⟩ : ∃ i1, skp B i = i1 := ⟨_, rfl⟩
      have hl1 := skp_le (B := B) (i := i) hi'
      have hg1 := skp_ge B i
      rw [hi1] at hl1 hg1
      have HI1 := Lib.hid hi1
      obtain ⟨c, hc⟩ : ∃ c, pk B i1 = c := ⟨_, rfl⟩
      have HC := Lib.hid hc
      go_wp2_with fail
      refine (blanks_any HS1.out).mono ?_
      rintro e wa ⟨rfl, hSa, hGa⟩
      rw [hi1] at hSa
      have HSa := Lib.hid hSa
      have HGa := Lib.hid (HG.out.trans hGa)
      have HOa := Lib.hid (HOWN.out.gr hGa hin.1)
      have HPa := Lib.hid (peek_any hSa 0 i1 (by omega) (by omega))
      rw [hc] at HPa
      clear hSa hGa hi1 hc
      by_cases hq : c = 34 ∨ c = 39
      · have hcz : c ≠ 0 := by rcases hq with h | h <;> rw [h] <;> decide
        have hlt : i1 < B.length := pk_in (by rw [HC.out]; exact hcz)
        have hc34 : c ≠ 34 → c = 39 := fun h => hq.resolve_left h
        have HQ := Lib.hid hq
        have HCZ := Lib.hid hcz
        clear hq hcz
        by_cases h3 : three c B i1
        · have hcv3 := fun (n : Nat) => conv_three (wa.drewN n) wa.heap.size rfl c
          have H3 := Lib.hid (threeB_iff.2 h3)
          clear h3
          rcases Classical.em (c = 34) with hx | hx
          · have t1 := byte_eq hx (n := 34) rfl
            clear hx
            go_wp2_with fail
            refine (HPa.out).mono ?_
            rintro e wb ⟨rfl, m1, rfl⟩
            go_wp2_with fail
            refine (has3 ((HSa.out.drewN _).alloc _) c HCZ.out true H3.out).mono ?_
            rintro e w' ⟨rfl, m2, rfl⟩
            go_wp2_with fail
            refine (fail_any (((HSa.out.drewN _).alloc _).drewN _)).mono ?_
            rintro e w' ⟨rfl, hS9, hG9⟩
            have HS9 := Lib.hid hS9
            have HG9 := Lib.hid hG9
            clear hS9 hG9
            go_wp2_with fail
            go_ret
            exact KPost.mk _ _ rfl (OwnS.nil _ _) (SPost.mk HS9.out ((((HGa.out.drewN _).alloc _).drewN _).trans HG9.out) (by omega) (Nat.le_refl _) fun h => absurd h (by decide))
          · have t1 := byte_ne hx (n := 34) rfl
            have t2 := byte_eq (hc34 hx) (n := 39) rfl
            clear hx
            go_wp2_with fail
            refine (HPa.out).mono ?_
            rintro e wb ⟨rfl, m1, rfl⟩
            go_wp2_with fail
            refine (has3 ((HSa.out.drewN _).alloc _) c HCZ.out true H3.out).mono ?_
            rintro e w' ⟨rfl, m2, rfl⟩
            go_wp2_with fail
            refine (fail_any (((HSa.out.drewN _).alloc _).drewN _)).mono ?_
            rintro e w' ⟨rfl, hS9, hG9⟩
            have HS9 := Lib.hid hS9
            have HG9 := Lib.hid hG9
            clear hS9 hG9
            go_wp2_with fail
            go_ret
            exact KPost.mk _ _ rfl (OwnS.nil _ _) (SPost.mk HS9.out ((((HGa.out.drewN _).alloc _).drewN _).trans HG9.out) (by omega) (Nat.le_refl _) fun h => absurd h (by decide))
        · have HT3 := Lib.hid h3
          clear h3
          have hcv3 := fun (n : Nat) => conv_three (wa.drewN n) wa.heap.size rfl c
          have H3 := Lib.hid (show threeB c B i1 = false by simpa using fun h => HT3.out (threeB_iff.1 h))
          rcases Classical.em (c = 34) with hx | hx
          · have t1 := byte_eq hx (n := 34) rfl
            clear hx
            go_wp2_with fail
            refine (HPa.out).mono ?_
            rintro e wb ⟨rfl, m1, rfl⟩
            go_wp2_with fail
            refine (has3 ((HSa.out.drewN _).alloc _) c HCZ.out false H3.out).mono ?_
            rintro e w' ⟨rfl, m2, rfl⟩
            have HGb := Lib.hid (((HGa.out.drewN m1).alloc (.cells #[.int .u8 (c.toNat : Int), .int .u8 (c.toNat : Int), .int .u8 (c.toNat : Int)] 5)).drewN m2)
            have HSb := Lib.hid (((HSa.out.drewN m1).alloc (.cells #[.int .u8 (c.toNat : Int), .int .u8 (c.toNat : Int), .int .u8 (c.toNat : Int)] 5)).drewN m2)
            have HOb := Lib.hid (((HOa.out.drewN m1).alloc (.cells #[.int .u8 (c.toNat : Int), .int .u8 (c.toNat : Int), .int .u8 (c.toNat : Int)] 5)).drewN m2)
            go_wp2_with fail
            refine (text_any HSb.out hlt c).mono ?_
            rintro e w2 ⟨s, rfl, j2, s2, hS2, hG2, hj2, hj2', hr2⟩
            have HS2 := Lib.hid hS2
            have HG2 := Lib.hid (HGb.out.trans hG2)
            have HR2 := Lib.hid hr2
            have HO2 := Lib.hid (HOb.out.gr hG2 hin.1)
            clear hS2 hG2 hr2
            have hkp : s2 = 0 → KpR B i1 j2 s.toList := fun h => .inl ⟨c, HQ.out, HC.out, HT3.out, (HR2.out h).2⟩
            have HKP := Lib.hid hkp
            clear hkp
            have hsz2 : w.heap.size ≤ w2.heap.size := HG2.out.size
            go_wp2_with (at_builtin; (refine wpList_append_own _ rfl _ _ 35 rfl w.heap.size 9 i0 (.string ⟨#[]⟩) 1 16 Tryz.u35 hi hz0 hz1 hz2 rfl (by decide) u3 _ _ rfl (HO2.out.alloc _) ⟨w2.heap.size, 0, none⟩ 1 1 [.string s] rfl rfl (lit_cell9 _ _ rfl _) (stv_one _) (by unfold maxLen; omega) (by omega) (by simp; omega) ?_); intro v' w3 hown3 hgrow3 hnil3; have HS3 := Lib.hid ((HS2.out.alloc (.cells #[.string s] 9)).grown hgrow3 HO2.out.lt hin.1 hin.2); have HO3 := Lib.hid (OwnS.app s.toList (by rw [stv_toList]; exact hown3)); have HG3 := Lib.hid ((HG2.out.alloc (.cells #[.string s] 9)).grown hgrow3 HO2.out.lt); clear hown3 hgrow3 hnil3)
            have hm0 := skp_le (B := B) (i := j2) hj2'
            have hm1 := skp_ge B j2
            have HP4 := Lib.hid (peek_any (HS3.out.setAt (skp B j2) (by omega)) 0 (skp B j2) (by omega) (by omega))
            clear HP4
            refine (blanks_any HS3.out).mono ?_
            rintro e w4 ⟨rfl, hS4, hG4⟩
            have HS4 := Lib.hid hS4
            have HG4 := Lib.hid (HG3.out.trans hG4)
            have HO4 := Lib.hid (HO3.out.gr hG4 hin.1)
            have hat4 := hS4.at'
            have hf4 := hS4.f1
            have HP4 := Lib.hid (peek_any hS4 0 (skp B j2) (by omega) (by omega))
            clear hS4 hG4
            by_cases h46 : pk B (skp B j2) = 46
            · have t4 := byte_eq' h46 (n := 46) rfl
              have hm3 : skp B j2 < B.length := pk_in (by rw [h46]; decide)
              have HST := Lib.hid (fun h : s2 = 0 => (key_step HI1.out HREL.out (HKP.out h)).2 h46)
              clear h46
              generalize skp B j2 = m0 at *
              generalize pk B m0 = c4 at *
              go_wp2_with fail
              refine (HP4.out).mono ?_
              rintro e w' ⟨rfl, m4, rfl⟩
              go_wp2_with fail
              go_roundw
              case rel => exact ⟨m0 + 1, s2, acc ++ [s.toList], (HS4.out.drewN _).setAt (m0 + 1) (by omega), (HG4.out.drewN _).setCell _ _, by omega, by omega, (HO4.out.drewN _).setCell _ hin.1 _, by simp; omega, fun h => ⟨hst0, HST.out h⟩⟩
              case measure =>
                show msr B pb ((w4.drewN m4).setCell ⟨pb, 1, none⟩ (.int .i64 ((m0 + 1 : Nat) : Int))) < msr B pb wr
                rw [((HS4.out.drewN _).setAt (m0 + 1) (by omega)).msr, HS1.out.msr]
                split <;> simp <;> omega
            · have t4 := byte_ne' h46 (n := 46) rfl
              have HST := Lib.hid (fun h : s2 = 0 => (key_step HI1.out HREL.out (HKP.out h)).1 h46)
              clear h46
              generalize skp B j2 = m0 at *
              generalize pk B m0 = c4 at *
              go_wp2_with fail
              refine (HP4.out).mono ?_
              rintro e w' ⟨rfl, m4, rfl⟩
              go_wp2_with fail
              go_ret
              exact KPost.mk _ _ rfl (HO4.out.drewN _) (SPost.mk (HS4.out.drewN _) (HG4.out.drewN _) (by omega) hm0 fun h => ⟨hst0, HST.out h⟩)
  
          · have t1 := byte_ne hx (n := 34) rfl
            have t2 := byte_eq (hc34 hx) (n := 39) rfl
            clear hx
            go_wp2_with fail
            refine (HPa.out).mono ?_
            rintro e wb ⟨rfl, m1, rfl⟩
            go_wp2_with fail
            refine (has3 ((HSa.out.drewN _).alloc _) c HCZ.out false H3.out).mono ?_
            rintro e w' ⟨rfl, m2, rfl⟩
            have HGb := Lib.hid (((HGa.out.drewN m1).alloc (.cells #[.int .u8 (c.toNat : Int), .int .u8 (c.toNat : Int), .int .u8 (c.toNat : Int)] 5)).drewN m2)
            have HSb := Lib.hid (((HSa.out.drewN m1).alloc (.cells #[.int .u8 (c.toNat : Int), .int .u8 (c.toNat : Int), .int .u8 (c.toNat : Int)] 5)).drewN m2)
            have HOb := Lib.hid (((HOa.out.drewN m1).alloc (.cells #[.int .u8 (c.toNat : Int), .int .u8 (c.toNat : Int), .int .u8 (c.toNat : Int)] 5)).drewN m2)
            go_wp2_with fail
            refine (text_any HSb.out hlt c).mono ?_
            rintro e w2 ⟨s, rfl, j2, s2, hS2, hG2, hj2, hj2', hr2⟩
            have HS2 := Lib.hid hS2
            have HG2 := Lib.hid (HGb.out.trans hG2)
            have HR2 := Lib.hid hr2
            have HO2 := Lib.hid (HOb.out.gr hG2 hin.1)
            clear hS2 hG2 hr2
            have hkp : s2 = 0 → KpR B i1 j2 s.toList := fun h => .inl ⟨c, HQ.out, HC.out, HT3.out, (HR2.out h).2⟩
            have HKP := Lib.hid hkp
            clear hkp
            have hsz2 : w.heap.size ≤ w2.heap.size := HG2.out.size
            go_wp2_with (at_builtin; (refine wpList_append_own _ rfl _ _ 35 rfl w.heap.size 9 i0 (.string ⟨#[]⟩) 1 16 Tryz.u35 hi hz0 hz1 hz2 rfl (by decide) u3 _ _ rfl (HO2.out.alloc _) ⟨w2.heap.size, 0, none⟩ 1 1 [.string s] rfl rfl (lit_cell9 _ _ rfl _) (stv_one _) (by unfold maxLen; omega) (by omega) (by simp; omega) ?_); intro v' w3 hown3 hgrow3 hnil3; have HS3 := Lib.hid ((HS2.out.alloc (.cells #[.string s] 9)).grown hgrow3 HO2.out.lt hin.1 hin.2); have HO3 := Lib.hid (OwnS.app s.toList (by rw [stv_toList]; exact hown3)); have HG3 := Lib.hid ((HG2.out.alloc (.cells #[.string s] 9)).grown hgrow3 HO2.out.lt); clear hown3 hgrow3 hnil3)
            have hm0 := skp_le (B := B) (i := j2) hj2'
            have hm1 := skp_ge B j2
            have HP4 := Lib.hid (peek_any (HS3.out.setAt (skp B j2) (by omega)) 0 (skp B j2) (by omega) (by omega))
            clear HP4
            refine (blanks_any HS3.out).mono ?_
            rintro e w4 ⟨rfl, hS4, hG4⟩
            have HS4 := Lib.hid hS4
            have HG4 := Lib.hid (HG3.out.trans hG4)
            have HO4 := Lib.hid (HO3.out.gr hG4 hin.1)
            have hat4 := hS4.at'
            have hf4 := hS4.f1
            have HP4 := Lib.hid (peek_any hS4 0 (skp B j2) (by omega) (by omega))
            clear hS4 hG4
            by_cases h46 : pk B (skp B j2) = 46
            · have t4 := byte_eq' h46 (n := 46) rfl
              have hm3 : skp B j2 < B.length := pk_in (by rw [h46]; decide)
              have HST := Lib.hid (fun h : s2 = 0 => (key_step HI1.out HREL.out (HKP.out h)).2 h46)
              clear h46
              generalize skp B j2 = m0 at *
              generalize pk B m0 = c4 at *
              go_wp2_with fail
              refine (HP4.out).mono ?_
              rintro e w' ⟨rfl, m4, rfl⟩
              go_wp2_with fail
              go_roundw
              case rel => exact ⟨m0 + 1, s2, acc ++ [s.toList], (HS4.out.drewN _).setAt (m0 + 1) (by omega), (HG4.out.drewN _).setCell _ _, by omega, by omega, (HO4.out.drewN _).setCell _ hin.1 _, by simp; omega, fun h => ⟨hst0, HST.out h⟩⟩
              case measure =>
                show msr B pb ((w4.drewN m4).setCell ⟨pb, 1, none⟩ (.int .i64 ((m0 + 1 : Nat) : Int))) < msr B pb wr
                rw [((HS4.out.drewN _).setAt (m0 + 1) (by omega)).msr, HS1.out.msr]
                split <;> simp <;> omega
            · have t4 := byte_ne' h46 (n := 46) rfl
              have HST := Lib.hid (fun h : s2 = 0 => (key_step HI1.out HREL.out (HKP.out h)).1 h46)
              clear h46
              generalize skp B j2 = m0 at *
              generalize pk B m0 = c4 at *
              go_wp2_with fail
              refine (HP4.out).mono ?_
              rintro e w' ⟨rfl, m4, rfl⟩
              go_wp2_with fail
              go_ret
              exact KPost.mk _ _ rfl (HO4.out.drewN _) (SPost.mk (HS4.out.drewN _) (HG4.out.drewN _) (by omega) hm0 fun h => ⟨hst0, HST.out h⟩)
  
      · have hq1 : c ≠ 34 := fun h => hq (.inl h)
        have hq2 : c ≠ 39 := fun h => hq (.inr h)
        have t1 := byte_ne hq1 (n := 34) rfl
        have t2 := byte_ne hq2 (n := 39) rfl
        clear hq hq1 hq2
        by_cases hb : bareB c = true
        · have HB := Lib.hid hb
          have HBN := Lib.hid (bareN_more (B := B) (i := i1) (by rw [HC.out]; exact hb))
          clear hb
          go_wp2_with fail
          refine (HPa.out).mono ?_
          rintro e wb ⟨rfl, m1, rfl⟩
          go_wp2_with fail
          refine (bare_true _ HB.out).mono ?_
          rintro e w' ⟨rfl, rfl⟩
          have hata := (HSa.out.drewN m1).at'
          go_wp2_with fail
          clear hst hata
          obtain ⟨wo, rfl⟩ : ∃ wo : World, wo = wr := ⟨_, rfl⟩
          go_loopw [] (fun wq => ∃ x : Nat, SP wq pb a C B x 0 ∧ Gr w wq pb ∧ i1 ≤ x ∧ x ≤ B.length ∧ OwnS wq w.heap.size u3 acc ∧ i1 + bareN B i1 = x + bareN B x) (fun wq => msr B pb wq)
          case atStart => exact ⟨_, HSa.out.drewN _, HGa.out.drewN _, Nat.le_refl _, hl1, HOa.out.drewN _, rfl⟩
          case round =>
            obtain ⟨x, hS5, hG5, hx, hxl, hown5, hrel5⟩ := hrel
            have HS5 := Lib.hid hS5
            have HG5 := Lib.hid hG5
            have HO5 := Lib.hid hown5
            have HR5 := Lib.hid hrel5
            have HP5 := Lib.hid (peek_any hS5 0 x (by omega) (by omega))
            have hat5 := hS5.at'
            have hf5 := hS5.f1
            have hb5 := hS5.b
            have hCC := hS5.cap
            clear hS5 hG5 hown5 hrel5
            by_cases hbx : bareB (pk B x) = true
            · have HBX := Lib.hid (bareN_more hbx)
              have hxlt := HBX.out.1
              have HBY := Lib.hid hbx
              clear hbx
              generalize pk B x = cx at *
              go_wp2_with fail
              refine (HP5.out).mono ?_
              rintro e w' ⟨rfl, m5, rfl⟩
              go_wp2_with fail
              refine (bare_true _ HBY.out).mono ?_
              rintro e w' ⟨rfl, rfl⟩
              go_wp2_with fail
              go_roundw
              case rel => exact ⟨x + 1, (HS5.out.drewN _).setAt (x + 1) (by omega), (HG5.out.drewN _).setCell _ _, by omega, by omega, (HO5.out.drewN _).setCell _ hin.1 _, by have h1 := HR5.out; have h2 := HBX.out.2; omega⟩
              case measure =>
                show msr B pb ((wr.drewN m5).setCell ⟨pb, 1, none⟩ (.int .i64 ((x + 1 : Nat) : Int))) < msr B pb wr
                rw [((HS5.out.drewN _).setAt (x + 1) (by omega)).msr, HS5.out.msr]
                simp
                omega
            · have hbf : bareB (pk B x) = false := by simpa using hbx
              have HBX := Lib.hid (bareN_stop hbf)
              have HBY := Lib.hid hbf
              clear hbx hbf
              generalize pk B x = cx at *
              go_wp2_with fail
              refine (HP5.out).mono ?_
              rintro e w' ⟨rfl, m5, rfl⟩
              go_wp2_with fail
              refine (bare_false _ HBY.out).mono ?_
              rintro e w' ⟨rfl, rfl⟩
              go_wp2_with fail
              have hxe : i1 + bareN B i1 = x := by have h1 := HR5.out; rw [HBX.out] at h1; exact h1
              have hbp : 0 < bareN B i1 := by have := HBN.out.2; omega
              have hkp0 : KpR B i1 x ((B.drop i1).take (x - i1)) := .inr ⟨hbp, hxe.symm, by rw [show x - i1 = bareN B i1 by omega]⟩
              have HKP0 := Lib.hid hkp0
              have hxi : i1 < x := by omega
              have HXE := Lib.hid (And.intro hxe hbp)
              clear hxe hbp hkp0
              obtain ⟨s, hs⟩ : ∃ s : ByteArray, s = ⟨((B.drop i1).take (x - i1)).toArray⟩ := ⟨_, rfl⟩
              obtain ⟨wz, hwz⟩ : ∃ wz : World, wz = wr.drewN m5 := ⟨_, rfl⟩
              rw [← hwz]
              have HSz := Lib.hid (hwz ▸ HS5.out.drewN m5 : SP wz pb a C B x 0)
              have HGz := Lib.hid (hwz ▸ HG5.out.drewN m5 : Gr w wz pb)
              have HOz := Lib.hid (hwz ▸ HO5.out.drewN m5 : OwnS wz w.heap.size u3 acc)
              have hb4 := HSz.out.b
              have hat4 := HSz.out.at'
              have hb3 : World.cell? { wz with drawn := wz.drawn + 1 } ⟨pb, 0, none⟩ = some (.slice (some a) B.length C) := HSz.out.b
              have hat3 : World.cell? { wz with drawn := wz.drawn + 1 } ⟨pb, 1, none⟩ = some (.int .i64 x) := HSz.out.at'
              have hcv : ∀ c' : Nat, (convert 22 9 (.slice (some (a.add i1)) (x - i1) c')).run Tryz.prog wz.drew = .ok (.string s) wz.drew := fun c' => by rw [hs]; exact HSz.out.conv i1 (x - i1) (by omega) 1 c'
              have HSS := Lib.hid hs
              have hCk : ¬ C = i1 := by omega
              have hw3 : (0 : Int) ≤ (i1 : Int) := by omega
              have hw4 : (i1 : Int) ≤ (x : Int) := by omega
              have hw5 : (x : Int) ≤ (C : Int) := by omega
              have hw6 : i1 ≤ x := by omega
              have hw7 : x ≤ C := by omega
              clear hs hwz hat5 hf5 hb5
              have HW2 := Lib.hid (HOz.out.drewN 1 : OwnS wz.drew w.heap.size u3 acc)
              have hszz : w.heap.size ≤ wz.heap.size := HGz.out.size
              go_region_law ((refine step_append_lies _ rfl (.tmp 57) (.tmp 69) 35 rfl w.heap.size 9 i0 (.string ⟨#[]⟩) 1 16 Tryz.u35 hi hz0 hz1 hz2 rfl (by decide) u3 acc.length (acc.map stv) (by simp [Act.eval]) (HW2.out.alloc _) ⟨wz.heap.size, 0, none⟩ 1 1 [.string s] (by simp [Act.eval]) rfl (lit_cell9 _ _ rfl _) (stv_one _) (by decide) (by unfold maxLen; omega) (by omega) (by simp; omega) _ rfl ?_); intro g cap w3 hown3 hgrow3 hgl hgh)
              all_goals
                obtain ⟨s2, hs2⟩ : ∃ s2 : Int, s2 = 0 := ⟨_, rfl⟩
                obtain ⟨j2, hj2e⟩ : ∃ j2 : Nat, j2 = x := ⟨_, rfl⟩
                have hs3 : SP w3 pb a C B j2 s2 := by
                  rw [hs2, hj2e]
                  exact ((HSz.out.drewN 1).alloc (.cells #[.string s] 9)).grown hgrow3 HOz.out.lt hin.1 hin.2
                have HS3 := Lib.hid hs3
                have HO3 := Lib.hid (OwnS.app s.toList (by rw [stv_toList]; exact hown3))
                have HG3 := Lib.hid (((HGz.out.drewN 1).alloc (.cells #[.string s] 9)).grown hgrow3 HOz.out.lt)
                have hk1 : KpR B i1 j2 s.toList := by
                  rw [hj2e, HSS.out, ByteArray.toList_mk]
                  exact HKP0.out
                have HKP := Lib.hid (fun _ : s2 = 0 => hk1)
                have hj2' : j2 ≤ B.length := by omega
                have hj2 : i1 + 1 ≤ j2 := by omega
                clear hs3 hk1 hown3 hgrow3 hgl hgh hb3 hat3 hb4 hat4 hcv hw3 hw4 hw5 hw6 hw7 hs2 hj2e
                obtain ⟨wi, rfl⟩ : ∃ wi : World, wi = wr := ⟨_, rfl⟩
                obtain ⟨wr, rfl⟩ : ∃ wr : World, wr = wo := ⟨_, rfl⟩
                go_wp2_with fail
                have hm0 := skp_le (B := B) (i := j2) hj2'
                have hm1 := skp_ge B j2
                have HP4 := Lib.hid (peek_any (HS3.out.setAt (skp B j2) (by omega)) 0 (skp B j2) (by omega) (by omega))
                clear HP4
                refine (blanks_any HS3.out).mono ?_
                rintro e w4 ⟨rfl, hS4, hG4⟩
                have HS4 := Lib.hid hS4
                have HG4 := Lib.hid (HG3.out.trans hG4)
                have HO4 := Lib.hid (HO3.out.gr hG4 hin.1)
                have hat4 := hS4.at'
                have hf4 := hS4.f1
                have HP4 := Lib.hid (peek_any hS4 0 (skp B j2) (by omega) (by omega))
                clear hS4 hG4
                by_cases h46 : pk B (skp B j2) = 46
                · have t4 := byte_eq' h46 (n := 46) rfl
                  have hm3 : skp B j2 < B.length := pk_in (by rw [h46]; decide)
                  have HST := Lib.hid (fun h : s2 = 0 => (key_step HI1.out HREL.out (HKP.out h)).2 h46)
                  clear h46
                  generalize skp B j2 = m0 at *
                  generalize pk B m0 = c4 at *
                  go_wp2_with fail
                  refine (HP4.out).mono ?_
                  rintro e w' ⟨rfl, m4, rfl⟩
                  go_wp2_with fail
                  go_roundw
                  case rel => exact ⟨m0 + 1, s2, acc ++ [s.toList], (HS4.out.drewN _).setAt (m0 + 1) (by omega), (HG4.out.drewN _).setCell _ _, by omega, by omega, (HO4.out.drewN _).setCell _ hin.1 _, by simp; omega, fun h => ⟨hst0, HST.out h⟩⟩
                  case measure =>
                    show msr B pb ((w4.drewN m4).setCell ⟨pb, 1, none⟩ (.int .i64 ((m0 + 1 : Nat) : Int))) < msr B pb wr
                    rw [((HS4.out.drewN _).setAt (m0 + 1) (by omega)).msr, HS1.out.msr]
                    split <;> simp <;> omega
                · have t4 := byte_ne' h46 (n := 46) rfl
                  have HST := Lib.hid (fun h : s2 = 0 => (key_step HI1.out HREL.out (HKP.out h)).1 h46)
                  clear h46
                  generalize skp B j2 = m0 at *
                  generalize pk B m0 = c4 at *
                  go_wp2_with fail
                  refine (HP4.out).mono ?_
                  rintro e w' ⟨rfl, m4, rfl⟩
                  go_wp2_with fail
                  go_ret
                  exact KPost.mk _ _ rfl (HO4.out.drewN _) (SPost.mk (HS4.out.drewN _) (HG4.out.drewN _) (by omega) hm0 fun h => ⟨hst0, HST.out h⟩)

        · have hbf : bareB c = false := by simpa using hb
          have HBF := Lib.hid hbf
          clear hb hbf
          go_wp2_with fail
          refine (HPa.out).mono ?_
          rintro e wb ⟨rfl, m1, rfl⟩
          go_wp2_with fail
          refine (bare_false _ HBF.out).mono ?_
          rintro e w' ⟨rfl, rfl⟩
          go_wp2_with fail
          refine (fail_any (HSa.out.drewN _)).mono ?_
          rintro e w' ⟨rfl, hS9, hG9⟩
          have HS9 := Lib.hid hS9
          have HG9 := Lib.hid hG9
          clear hS9 hG9
          go_wp2_with fail
          go_ret
          exact KPost.mk _ _ rfl (OwnS.nil _ _) (SPost.mk HS9.out ((HGa.out.drewN _).trans HG9.out) (by omega) (Nat.le_refl _) fun h => absurd h (by decide))
    · have t0 : (s1 == 0) = false := by simpa using h0
      go_wp2_with fail
      go_ret
      exact KPost.mk _ _ rfl (OwnS.nil _ _) (SPost.mk HS1.out HG.out hki hi' fun h => absurd h h0)
end Go.Proofs.YtalmpddmhakdmaaGreat
