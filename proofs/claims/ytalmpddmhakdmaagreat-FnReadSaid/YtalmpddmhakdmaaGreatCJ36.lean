/-
  The walk of a function of impl: a document is read (5). Conditions: the text lies in memory as stated; the text is right.
-/
import Derived.Test.YtalmpddmhakdmaaGreatCJ34
import Derived.Test.YtalmpddmhakdmaaGreatCReadB
namespace Go.Proofs.YtalmpddmhakdmaaGreat
open Go.RowKit

theorem Tryz.info67 : (Tryz.prog.info? 67).map (fun i => (i.zero, i.size, i.bytes)) = some (some (.agg #[.int .i64 0, .slice none 0 0, .int .i64 0, .string ⟨#[]⟩, .slice none 0 0, .slice none 0 0]), 6, 104) := by kernel_rfl
theorem Tryz.u26 : Tryz.prog.underlying 26 = some (.slice 67) := by kernel_rfl
theorem lit_cell67 (W : World) (n : Nat) (hW : W.heap.size = n) (v0 v1 v2 v3 v4 v5 : Value) : ∀ j u, [v0, v1, v2, v3, v4, v5][j]? = some u → (W.alloc (.cells #[v0, v1, v2, v3, v4, v5] 67)).cell? ((⟨n, 0, none⟩ : Addr).add j) = some u := by
  subst hW
  intro j u hj
  have e : (⟨W.heap.size, 0, none⟩ : Addr).add j = ⟨W.heap.size, j, none⟩ := by unfold Addr.add; split <;> simp_all
  rw [e, cell_marked]
  match j, hj with
  | 0, hj => cases hj; rfl
  | 1, hj => cases hj; rfl
  | 2, hj => cases hj; rfl
  | 3, hj => cases hj; rfl
  | 4, hj => cases hj; rfl
  | 5, hj => cases hj; rfl
/-- The six cells of an expression that has been read. -/
theorem ex_read {w1 w2 w6 : World} {kv : Value} {c0 c1 c2 c3 : Value} {x : Ex} {N : Int} (hk : x.kind = N) (ho : OwnS w2 w1.heap.size kv x.keys) (hg : w2.grownBy w6 none) (hn : N = 0 → NdAt 51 (fun b => w1.heap.size ≤ b ∧ b < w6.heap.size) w6 [c0, c1, c2, c3] x.val) :
    ∃ P : Nat → Prop, (∀ b, P b → w1.heap.size ≤ b ∧ b < w6.heap.size) ∧ ExAt P w6 [.int .i64 N, kv, c0, c1, c2, c3] x :=
  ⟨_, fun _ h => h, kv, c0, c1, c2, c3, by rw [hk], (ho.reads (fun b => w1.heap.size ≤ b ∧ b < w2.heap.size) fun b hb => World.ownsRow.lt ho b hb).frame (fun b hb => hg.block b hb.2 (by simp)) fun b hb => ⟨hb.1, Nat.lt_of_lt_of_le hb.2 hg.size⟩, fun h => hn (by rw [← hk]; exact h)⟩
/-- What impl's reader leaves. -/
def IrQ (es : List Ex) (w : World) (e : Ending) (w' : World) : Prop := ∃ v, e = .returned (.tuple #[v, .bool true]) ∧ w.grownBy w' none ∧ ∃ P : Nat → Prop, (∀ b, P b → b < w'.heap.size) ∧ ExsAt P w' v es

set_option maxRecDepth 100000 in
set_option maxHeartbeats 8000000 in
theorem iread_any (HV : ValC 51) {w : World} {a : Addr} {c : Nat} {B : List UInt8} {es : List Ex} (hl : B.length ≤ 65536) (hd : ∀ i u, B[i]? = some u → w.cell? (a.add i) = some (.int .u8 (u.toNat : Int))) (hD : DocR B 0 es) :
    Calls Tryz.prog 5 #[.slice (some a) B.length c] w (IrQ es w) := by
  obtain ⟨i0, hi0, hz0, hz10, hz20⟩ := info_parts Tryz.info67
  have hg1 := World.grownBy_alloc w (.cells Z49 49) none
  have hb1 := heap_alloc_new w (.cells Z49 49)
  have hsz1 := World.size_alloc w (.cells Z49 49)
  have HCL := Lib.hid (clone_any (w := w.alloc (.cells Z49 49)) (c := c) hl fun i u hu => by
    have h1 := hd i u hu
    exact (World.cell?_of_block (w := w) (hg1.block _ (cell_lt h1) (by simp))).trans h1)
  have HB1 := Lib.hid hb1
  have HG1 := Lib.hid hg1
  have HD := Lib.hid hD
  have HCNT := Lib.hid hD.count
  have HLEN := Lib.hid hl
  clear hg1 hb1 hd hD
  go_enter Tryz.func5, Tryz.ntmps5
  go_wp2_with fail
  with_reducible refine HCL.out.mono ?_
  rintro e w2 ⟨db, C, rfl, hg2, hdb1, hdb2, hdt, hC1, hC2⟩
  rw [hsz1] at hdb1
  have hsz2 := hg2.size
  rw [hsz1] at hsz2
  have HST := Lib.hid (start_any (w := w2) (pp := w.heap.size) (B := B) (C := C) ((hg2.block w.heap.size (by omega) (by simp)).trans HB1.out) hdt (by omega) hdb2 hC1 hC2)
  have HG2 := Lib.hid (gtrans HG1.out hg2)
  clear hdt HCL HB1 HG1 hg2
  obtain ⟨pp, hpp⟩ : ∃ pp, w.heap.size = pp := ⟨_, rfl⟩
  rw [hpp] at HST hsz2 hdb1 hsz1 ⊢
  go_wp2_with fail
  with_reducible refine HST.out.mono ?_
  rintro e w3 ⟨rfl, hg3, hA3⟩
  have HREL := Lib.hid (show RdL w pp db C B es (.slice none 0 0) w3 from ⟨0, 0, [], es, [], .slice none 0 0, [], rfl, HD.out, hA3, EW.nil _ _ _ _ _, grow HG2.out hg3 (fun k hk => by cases hk; omega), fun k hk => by cases hk⟩)
  clear HST hg3 hA3 HD HG2 hsz1 hsz2
  go_wp2_with fail
  go_loopw [5] (fun u5 wr => RdL w pp db C B es u5 wr) (fun u5 _ => es.length - lenOf u5)
  case atStart => exact HREL.out
  case round =>
    clear HREL
    obtain ⟨i, n, es1, es2, cs, nv, ns, hes, hd, hA, hE, hg, hfr⟩ := hrel
    have hok := hd.ok HLEN.out
    have HNX := Lib.hid (next_any HV hA hd)
    obtain ⟨p, c5, hvv⟩ := hE.form
    subst hvv
    have HE := Lib.hid hE
    have HG := Lib.hid hg
    have HFR := Lib.hid hfr
    have HOK := Lib.hid hok
    have HES := Lib.hid hes
    clear hes hd hA hE hg hfr hok
    go_wp2_with fail
    with_reducible refine HNX.out.mono ?_
    rintro e w1 (⟨he2, rfl, nv', hP, hF⟩ | ⟨x, es', j, nv', ns', he2, rfl, hD', hA', hF, hne, hx⟩)
    · subst he2
      have hgf := fr_grown HG.out hF (Nat.le_of_eq hpp) HFR.out
      have HRD := Lib.hid (HE.out.fr hF).reads
      have HGF := Lib.hid hgf.1
      have HER := Lib.hid (err_any hP)
      have HNE := Lib.hid (show es = es1 by rw [HES.out]; simp)
      clear hgf hP hF HE HG HFR HOK HES HNX
      go_wp2_with fail
      with_reducible refine HER.out.mono ?_
      rintro e w' ⟨rfl, hw'⟩
      rw [hw']
      clear hw' w' HER
      go_wp2_with fail
      go_ret2
      exact ⟨_, rfl, HGF.out, by rw [HNE.out]; exact HRD.out⟩
    · subst he2
      have hokx := HOK.out x (by simp)
      have hgf := fr_grown HG.out hF (Nat.le_of_eq hpp) HFR.out
      have hn0 : n + 1 ≤ 65536 := by
        have h1 := HCNT.out
        have h2 := HE.out.len
        have h3 := HLEN.out
        rw [HES.out, List.length_append] at h1
        simp at h1
        omega
      obtain ⟨gb, cap, hnv, hR, hgb⟩ := hA'.1.rd hne hx.1
      have hxt : ExN (Tx w1) ns' x := hx.same fun v t h => h.tx
      have H18 := Lib.hid (show Calls Tryz.prog 18 #[.pointer (some ⟨pp, 0, none⟩)] w1 (fun e w' => e = .returned (.pointer (some ⟨gb, 0, none⟩)) ∧ w' = w1) from expr_any hR (List.length_pos_iff.2 hne))
      have HE1 := Lib.hid (HE.out.fr hF)
      have HA1 := Lib.hid hA'
      have HD1 := Lib.hid hD'
      have HG1 := Lib.hid hgf.1
      have HF1 := Lib.hid hgf.2
      have HK := Lib.hid hokx
      have HNV := Lib.hid hnv
      clear hgf hA' hD' hF HE HG HFR HOK HNX
      rcases hokx.1 with h0 | h0
      · obtain ⟨c0, hko, lo, hva, hnd⟩ := rd_pair hR hgb hxt h0 hokx
        have HKO := Lib.hid (show Calls Tryz.prog 19 #[.pointer (some ⟨gb, 0, none⟩)] w1 (fun e w' => ∃ v, e = .returned v ∧ OwnS w' w1.heap.size v x.keys ∧ w1.grownBy w' none) from hko w1 (grown_drewN w1 0))
        have HVA := Lib.hid (show ∀ W, w1.grownBy W none → Calls Tryz.prog 21 #[.pointer (some ⟨gb, 0, none⟩)] W (fun e w' => e = .returned (NP gb lo) ∧ ∃ q, w' = W.drewN q) from hva)
        have HND := Lib.hid (show ∀ W, w1.grownBy W none → Calls Tryz.prog 20 #[NP gb lo] W (NofQ 51 W x.val) from hnd)
        have HX0 := Lib.hid h0
        clear hko hva hnd hR hgb hxt hx hne hokx h0 hnv
        go_wp2_with fail
        with_reducible refine H18.out.mono ?_
        rintro e w' ⟨rfl, hw'⟩
        rw [hw']
        clear hw' w' H18
        go_wp2_with fail
        with_reducible refine HKO.out.mono ?_
        rintro e w2 ⟨kv, rfl, how, hg2⟩
        obtain ⟨p5, n5, q5, hkv⟩ : ∃ p5 n5 q5, kv = .slice p5 n5 q5 := by
          rcases how.2 with ⟨h1, _⟩ | ⟨g, cap, cur, h1, _⟩
          · exact ⟨_, _, _, h1⟩
          · exact ⟨_, _, _, h1⟩
        subst hkv
        have HOW := Lib.hid how
        have HG2 := Lib.hid hg2
        clear how hg2 HKO
        go_wp2_with fail
        with_reducible refine (HVA.out w2 HG2.out).mono ?_
        rintro e w' ⟨rfl, q, rfl⟩
        clear HVA
        go_wp2_with fail
        with_reducible refine (HND.out (w2.drewN q) (gtrans HG2.out (grown_drewN w2 q))).mono ?_
        rintro e w6 ⟨c0', c1', c2', c3', rfl, hg6, hN6⟩
        obtain ⟨kd, s, p1, n1, q1, p2, n2, q2, hcs⟩ := hN6.form
        cases hcs
        have hsz2 := HG2.out.size
        have hg26 : w2.grownBy w6 none := gtrans (grown_drewN w2 q) hg6
        have hszw := (gtrans HG1.out (gtrans HG2.out hg26)).size
        have hdl : (w2.drewN q).heap.size = w2.heap.size := rfl
        rw [hdl] at hN6
        have HN6 := Lib.hid hN6
        have HG16 := Lib.hid (gtrans HG2.out hg26)
        have HG26 := Lib.hid hg26
        have HE6 := Lib.hid (HE1.out.fr (Fr.grown pp nv' HG16.out))
        clear hN6 hg6 hg26 hdl HND
        go_wp2_with (at_builtin; (refine wpList_append_lies _ rfl (.tmp 18) (.tmp 25) 26 rfl w.heap.size 67 i0 (.agg #[.int .i64 0, .slice none 0 0, .int .i64 0, .string ⟨#[]⟩, .slice none 0 0, .slice none 0 0]) 6 104 Tryz.u26 hi0 hz0 hz10 hz20 rfl (by decide) (.slice p n c5) n cs (by simp [Act.eval]) (HE6.out.own.alloc _) ⟨w6.heap.size, 0, none⟩ 1 1 [.int .i64 0, .slice p5 n5 q5, .int .i64 kd, .string s, .slice p1 n1 q1, .slice p2 n2 q2] (by simp [Act.eval]) rfl (lit_cell67 _ _ rfl _ _ _ _ _ _) (ex_one _ _ _ _ _ _ _ _ _ _ _ _) (by decide) (by unfold maxLen; omega) (by omega) (by simp; omega) _ rfl ?_); intro g cap' w7 hown7 hgrow7 hgl hgh)
        have hL := RdL.app HES.out HD1.out HA1.out HE1.out HG1.out HF1.out HG16.out g cap' rfl hown7 hgrow7 hgl (ex_read HX0.out HOW.out HG26.out fun _ => HN6.out.frame (fun _ _ => rfl) fun b hb => ⟨Nat.le_trans hsz2 hb.1, hb.2⟩)
        have HL := Lib.hid hL
        clear hL hown7 hgrow7 hgl hgh
        go_wp2_with fail
        go_roundw
        case rel => exact HL.out
        case measure =>
          have h1 : es.length = es1.length + (es'.length + 1) := by rw [HES.out, List.length_append]; rfl
          have h2 := HE1.out.len
          show es.length - (n + 1) < es.length - n
          omega
      · rcases h0 with h0 | h0
        · have hch := rd_head hR hgb hxt (.inl h0) hokx
          obtain ⟨c0, hko⟩ := hch
          rw [h0] at c0
          have c0 : w1.cell? ⟨gb, 0, none⟩ = some (.int .i64 3) := c0
          have HKO := Lib.hid (show Calls Tryz.prog 19 #[.pointer (some ⟨gb, 0, none⟩)] w1 (fun e w' => ∃ v, e = .returned v ∧ OwnS w' w1.heap.size v x.keys ∧ w1.grownBy w' none) from hko w1 (grown_drewN w1 0))
          have HX0 := Lib.hid h0
          clear hko hR hgb hxt hx hne hokx h0 hnv
          go_wp2_with fail
          with_reducible refine H18.out.mono ?_
          rintro e w' ⟨rfl, hw'⟩
          rw [hw']
          clear hw' w' H18
          go_wp2_with fail
          with_reducible refine HKO.out.mono ?_
          rintro e w6 ⟨kv, rfl, how, hg6⟩
          obtain ⟨p5, n5, q5, hkv⟩ : ∃ p5 n5 q5, kv = .slice p5 n5 q5 := by
            rcases how.2 with ⟨h1, _⟩ | ⟨g, cap, cur, h1, _⟩
            · exact ⟨_, _, _, h1⟩
            · exact ⟨_, _, _, h1⟩
          subst hkv
          have hszw := (gtrans HG1.out hg6).size
          have HOW := Lib.hid how
          have HG16 := Lib.hid hg6
          have HE6 := Lib.hid (HE1.out.fr (Fr.grown pp nv' HG16.out))
          clear how hg6 HKO
          go_wp2_with (at_builtin; (refine wpList_append_lies _ rfl (.tmp 29) (.tmp 33) 26 rfl w.heap.size 67 i0 (.agg #[.int .i64 0, .slice none 0 0, .int .i64 0, .string ⟨#[]⟩, .slice none 0 0, .slice none 0 0]) 6 104 Tryz.u26 hi0 hz0 hz10 hz20 rfl (by decide) (.slice p n c5) n cs (by simp [Act.eval]) (HE6.out.own.alloc _) ⟨w6.heap.size, 0, none⟩ 1 1 [.int .i64 1, .slice p5 n5 q5, .int .i64 0, .string ⟨#[]⟩, .slice none 0 0, .slice none 0 0] (by simp [Act.eval]) rfl (lit_cell67 _ _ rfl _ _ _ _ _ _) (ex_one _ _ _ _ _ _ _ _ _ _ _ _) (by decide) (by unfold maxLen; omega) (by omega) (by simp; omega) _ rfl ?_); intro g cap' w7 hown7 hgrow7 hgl hgh)
          have hL := RdL.app HES.out HD1.out HA1.out HE1.out HG1.out HF1.out HG16.out g cap' rfl hown7 hgrow7 hgl (ex_read HX0.out HOW.out (grown_drewN w6 0) fun h => absurd h (by decide))
          have HL := Lib.hid hL
          clear hL hown7 hgrow7 hgl hgh
          go_wp2_with fail
          go_roundw
          case rel => exact HL.out
          case measure =>
            have h1 : es.length = es1.length + (es'.length + 1) := by rw [HES.out, List.length_append]; rfl
            have h2 := HE1.out.len
            show es.length - (n + 1) < es.length - n
            omega
        · have hch := rd_head hR hgb hxt (.inr h0) hokx
          obtain ⟨c0, hko⟩ := hch
          rw [h0] at c0
          have c0 : w1.cell? ⟨gb, 0, none⟩ = some (.int .i64 4) := c0
          have HKO := Lib.hid (show Calls Tryz.prog 19 #[.pointer (some ⟨gb, 0, none⟩)] w1 (fun e w' => ∃ v, e = .returned v ∧ OwnS w' w1.heap.size v x.keys ∧ w1.grownBy w' none) from hko w1 (grown_drewN w1 0))
          have HX0 := Lib.hid h0
          clear hko hR hgb hxt hx hne hokx h0 hnv
          go_wp2_with fail
          with_reducible refine H18.out.mono ?_
          rintro e w' ⟨rfl, hw'⟩
          rw [hw']
          clear hw' w' H18
          go_wp2_with fail
          with_reducible refine HKO.out.mono ?_
          rintro e w6 ⟨kv, rfl, how, hg6⟩
          obtain ⟨p5, n5, q5, hkv⟩ : ∃ p5 n5 q5, kv = .slice p5 n5 q5 := by
            rcases how.2 with ⟨h1, _⟩ | ⟨g, cap, cur, h1, _⟩
            · exact ⟨_, _, _, h1⟩
            · exact ⟨_, _, _, h1⟩
          subst hkv
          have hszw := (gtrans HG1.out hg6).size
          have HOW := Lib.hid how
          have HG16 := Lib.hid hg6
          have HE6 := Lib.hid (HE1.out.fr (Fr.grown pp nv' HG16.out))
          clear how hg6 HKO
          go_wp2_with (at_builtin; (refine wpList_append_lies _ rfl (.tmp 37) (.tmp 41) 26 rfl w.heap.size 67 i0 (.agg #[.int .i64 0, .slice none 0 0, .int .i64 0, .string ⟨#[]⟩, .slice none 0 0, .slice none 0 0]) 6 104 Tryz.u26 hi0 hz0 hz10 hz20 rfl (by decide) (.slice p n c5) n cs (by simp [Act.eval]) (HE6.out.own.alloc _) ⟨w6.heap.size, 0, none⟩ 1 1 [.int .i64 2, .slice p5 n5 q5, .int .i64 0, .string ⟨#[]⟩, .slice none 0 0, .slice none 0 0] (by simp [Act.eval]) rfl (lit_cell67 _ _ rfl _ _ _ _ _ _) (ex_one _ _ _ _ _ _ _ _ _ _ _ _) (by decide) (by unfold maxLen; omega) (by omega) (by simp; omega) _ rfl ?_); intro g cap' w7 hown7 hgrow7 hgl hgh)
          have hL := RdL.app HES.out HD1.out HA1.out HE1.out HG1.out HF1.out HG16.out g cap' rfl hown7 hgrow7 hgl (ex_read HX0.out HOW.out (grown_drewN w6 0) fun h => absurd h (by decide))
          have HL := Lib.hid hL
          clear hL hown7 hgrow7 hgl hgh
          go_wp2_with fail
          go_roundw
          case rel => exact HL.out
          case measure =>
            have h1 : es.length = es1.length + (es'.length + 1) := by rw [HES.out, List.length_append]; rfl
            have h2 := HE1.out.len
            show es.length - (n + 1) < es.length - n
            omega
end Go.Proofs.YtalmpddmhakdmaaGreat

/-
  The walks of functions: an empty text is read, by the spec (4), by impl (5). Conditions: as stated.
-/
namespace Go.Proofs.YtalmpddmhakdmaaGreat
open Go.RowKit

set_option maxRecDepth 100000 in
set_option maxHeartbeats 8000000 in
theorem read_void (w : World) (p : Option Addr) (c : Nat) :
    Calls Tryz.prog 4 #[.slice p 0 c] w fun e w' => ∃ v, e = .returned (.tuple #[v, .int .i64 0]) ∧ w.grownBy w' none ∧ ExsAt (fun _ => False) w' v [] := by
  have hb := heap_alloc_new w (.cells #[.slice p 0 c, .int .i64 0, .int .i64 0] 33)
  have hsz := World.size_alloc w (.cells #[.slice p 0 c, .int .i64 0, .int .i64 0] 33)
  have hg1 := World.grownBy_alloc w (.cells #[.slice p 0 c, .int .i64 0, .int .i64 0] 33) none
  have hg2 := World.grownBy_alloc (w.alloc (.cells #[.slice p 0 c, .int .i64 0, .int .i64 0] 33)) (.cells #[] 40) none
  have hb2 := (hg2.block w.heap.size (by omega) (by simp)).trans hb
  have HG := Lib.hid (gtrans hg1 hg2)
  have HB := Lib.hid hb2
  clear hb hg1 hg2 hb2
  go_enter Tryz.func4, Tryz.ntmps4
  go_wp2_with fail
  obtain ⟨W, hW⟩ : ∃ W : World, (w.alloc (.cells #[.slice p 0 c, .int .i64 0, .int .i64 0] 33)).alloc (.cells #[] 40) = W := ⟨_, rfl⟩
  rw [hW] at HG HB ⊢
  have hb := HB.out
  have c0 : W.cell? ⟨w.heap.size, 0, none⟩ = some (.slice p 0 c) := by rw [cell_of_row _ _ 0 _ _ _ hb]; rfl
  have c1 : W.cell? ⟨w.heap.size, 1, none⟩ = some (.int .i64 0) := by rw [cell_of_row _ _ 1 _ _ _ hb]; rfl
  have c2 : W.cell? ⟨w.heap.size, 2, none⟩ = some (.int .i64 0) := by rw [cell_of_row _ _ 2 _ _ _ hb]; rfl
  clear hW hsz hb HB
  go_loopw [5] (fun v wr => (∃ a, v = .slice (some a) 0 0) ∧ W = wr) (fun _ _ => 0)
  case atStart => exact ⟨⟨_, rfl⟩, rfl⟩
  case round =>
    obtain ⟨⟨a, rfl⟩, rfl⟩ := hrel
    go_wp2_with fail
    go_quiet (fail)
    go_wp2_with fail
    go_quiet (fail)
    go_wp2_with fail
    refine bodyPost_ret (v := .tuple #[.slice (some a) 0 0, .int .i64 0]) (by simp [results, Tryz.results4, go_sem]) rfl ?_
    exact ⟨_, rfl, gtrans (gtrans HG.out (grown_drewN W _)) (grown_drewN _ _), some a, 0, rfl, .inl rfl⟩

set_option maxRecDepth 100000 in
set_option maxHeartbeats 8000000 in
theorem iread_nil (w : World) (c : Nat) : Calls Tryz.prog 5 #[.slice none 0 c] w (IrQ [] w) := by
  have hg1 := World.grownBy_alloc w (.cells Z49 49) none
  have hb1 := heap_alloc_new w (.cells Z49 49)
  have HCL := Lib.hid (clone_nil (w.alloc (.cells Z49 49)) c)
  have HRS := Lib.hid (reset_nil hb1)
  have HNX := Lib.hid (show ∀ W : World, W.heap[w.heap.size]? = some (.cells Z49 49 (0, 0)) → Calls Tryz.prog 17 #[.pointer (some ⟨w.heap.size, 0, none⟩)] W fun e w' => e = .returned (.bool false) ∧ W.grownBy w' (some w.heap.size) ∧ w'.heap[w.heap.size]? = some (.cells Z49 49 (0, 0)) from fun W hW => next_nil hW)
  have HER := Lib.hid (show ∀ W : World, W.heap[w.heap.size]? = some (.cells Z49 49 (0, 0)) → Calls Tryz.prog 22 #[.pointer (some ⟨w.heap.size, 0, none⟩)] W fun e w' => e = .returned .nilIface ∧ w' = W from fun W hW => by
    have ce : W.cell? ⟨w.heap.size, 4, none⟩ = some .nilIface := by rw [cell_of_row _ _ 4 _ _ _ hW]; rfl
    clear hW
    go_enter Tryz.func22, Tryz.ntmps22
    go_wp2_with fail
    go_ret
    exact ⟨rfl, rfl⟩)
  have HG1 := Lib.hid hg1
  obtain ⟨pp, hpp⟩ : ∃ pp, w.heap.size = pp := ⟨_, rfl⟩
  have HPP := Lib.hid hpp
  rw [hpp] at HRS HNX HER
  clear hg1 hb1
  go_enter Tryz.func5, Tryz.ntmps5
  go_wp2_with fail
  with_reducible refine HCL.out.mono ?_
  rintro e w' ⟨rfl, hw'⟩
  rw [hw']
  clear hw' w'
  go_wp2_with fail
  with_reducible refine HRS.out.mono ?_
  rintro e w3 ⟨rfl, hg3, hb3⟩
  have HG3 := Lib.hid (grow HG1.out hg3 (fun k hk => by cases hk; have := HPP.out; omega))
  have HN3 := Lib.hid (HNX.out w3 hb3)
  clear hg3 hb3 HCL HRS
  go_wp2_with fail
  go_loopw [5] (fun v wr => v = .slice none 0 0 ∧ w3 = wr) (fun _ _ => 0)
  case atStart => exact ⟨rfl, rfl⟩
  case round =>
    obtain ⟨rfl, rfl⟩ := hrel
    go_wp2_with fail
    with_reducible refine HN3.out.mono ?_
    rintro e w4 ⟨rfl, hg4, hb4⟩
    have HG4 := Lib.hid (grow HG3.out hg4 (fun k hk => by cases hk; have := HPP.out; omega))
    have HE4 := Lib.hid (HER.out w4 hb4)
    clear hg4 hb4 HNX HER HN3
    go_wp2_with fail
    with_reducible refine HE4.out.mono ?_
    rintro e w' ⟨rfl, hw'⟩
    rw [hw']
    clear hw' w'
    go_wp2_with fail
    go_ret2
    exact ⟨_, rfl, HG4.out, fun _ => False, fun _ h => h.elim, none, 0, rfl, .inl rfl⟩
end Go.Proofs.YtalmpddmhakdmaaGreat
