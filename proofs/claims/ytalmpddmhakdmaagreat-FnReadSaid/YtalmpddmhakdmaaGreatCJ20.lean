/-
  The walk of a function of the parser: a text in double quotes, with strokes. Conditions: the text lies in memory as stated.
-/
import Derived.Test.YtalmpddmhakdmaaGreatCJ18
import Derived.Test.YtalmpddmhakdmaaGreatCJ19
import Derived.Laws.CopyOwn
import Derived.Deep.AppendLies
import Derived.Deep.RegionLaw
namespace Go.Proofs.YtalmpddmhakdmaaGreat
open Go.RowKit

/-- 'make([]T, n, k)': a new block, of which the first n are held. -/
theorem wpList_make_part {P : Program} (w : World) {ops : Array Oper} {rest : List Oper} {o : Oper} {a : Act} {Q : Exit → Act → World → Prop}
    (hg : o.guard = none) (l c : Operand) (t : TypeId) (hop : o.op = Op.makeSlice t l c)
    (e : TypeId) (i : TypeInfo) (z : Value) (size : Nat) (h1 : P.underlying t = some (.slice e)) (h2 : P.info? e = some i) (h3 : i.zero = some z) (h4 : i.size = size)
    (kl kc : IntKind) (L C : Int) (n k : Nat) (hl : a.eval l = .int kl L) (hc : a.eval c = .int kc C) (hL : L = (n : Int)) (hC : C = (k : Int)) (hnk : n ≤ k) (b2 : i.bytes * k ≤ 281474976710656) (b3 : k ≤ maxLen)
    (hK : ∀ cur : Array Value, cur.size = k * size → wpList P ops Q rest (a.put o.dst (.slice (some ⟨w.heap.size, 0, none⟩) n k)) (w.alloc (.cells cur e))) :
    wpList P ops Q (o :: rest) a w := by
  refine wpList_plain hg fun K hK' => ?_
  have hb' : (i.bytes : Int) * (k : Int) ≤ 281474976710656 := by
    have h : ((i.bytes * k : Nat) : Int) ≤ 281474976710656 := by omega
    rwa [Int.natCast_mul] at h
  have h63' : (k : Int) ≤ 9223372036854775807 := by
    have h := b3
    simp [maxLen] at h
    omega
  have hrun := run_make (P := P) w t e i z h1 h2 h3 kl kc n k (by omega) (by omega) hb' h63'
  simp only [Int.toNat_natCast] at hrun
  subst hL
  subst hC
  subst h4
  unfold Oper.wp
  simp [execOp, hop, hl, hc, hrun, Result.andThen]
  exact hK' _ _ (hK _ (size_madeCells _ _))
/-- 'copy' into a row that is known whole. -/
theorem wpList_copy_fill {P : Program} {w : World} {ops : Array Oper} {rest : List Oper} {o : Oper} {a : Act} {Q : Exit → Act → World → Prop} (hgd : o.guard = none) (d s : Operand) (dT sT : TypeId)
    (ho : o.op = .call { callee := .builtin .copy, args := #[d, s], argTypes := #[dT, sT] }) (elem : TypeId) (hu : P.underlying dT = some (.slice elem)) (hsz : (P.info? elem).map (·.size) = some 1)
    (g off dLen dCap : Nat) (ad : Addr) (sLen sCap : Nat) (hd : a.eval d = .slice (some ⟨g, off, none⟩) dLen dCap) (hs : a.eval s = .slice (some ad) sLen sCap)
    (cur : Array Value) (t : TypeId) (hg : w.heap[g]? = some (.cells cur t (0, 0))) (cs : List Value) (hn : cs.length = Nat.min sLen dLen)
    (hsrc : ∀ j v, cs[j]? = some v → w.cell? (ad.add j) = some v) (hfit : off + cs.length ≤ cur.size) (h1 : ∀ v ∈ cs, v.oneCell' = true) (k : Nat) (hk : cs.length = k)
    (h : wpList P ops Q rest (a.put o.dst (.int .i64 (k : Int))) (w.setRow g (cur.toList.take off ++ (cs ++ cur.toList.drop (off + cs.length))).toArray)) : wpList P ops Q (o :: rest) a w := by
  subst hk
  exact wpList_copy_own hgd d s dT sT ho elem hu hsz g off dLen dCap ad sLen sCap hd hs cur t hg cs hn hsrc hfit h1 h
/-- A row that was made and filled. -/
theorem Own.filled {w : World} {base k : Nat} {l : List UInt8} {cur : Array Value} (hb : base ≤ w.heap.size) (hk : l.length ≤ k) (hm : k ≤ maxLen) (hc : cur.size = k) :
    Own ((w.alloc (.cells cur 5)).setRow w.heap.size (cur.toList.take 0 ++ (l.map byt ++ cur.toList.drop (0 + (l.map byt).length))).toArray) base (.slice (some ⟨w.heap.size, 0, none⟩) l.length k) l := by
  refine ⟨⟨by simp, .inr ⟨w.heap.size, k, _, rfl, hb, setRow_heap _ _ cur _ 5 (0, 0) (heap_alloc_new _ _), hk, hm, ?_, ?_⟩⟩, by simp⟩
  · simp
    omega
  · simp
theorem grown_filled (w : World) (o : Obj) (cs : Array Value) : w.grownBy ((w.alloc o).setRow w.heap.size cs) none :=
  ⟨rfl, rfl, rfl, by rw [size_setRow, World.size_alloc]; omega, fun k hk _ => by
    rw [setRow_other _ _ _ _ (by omega)]
    exact (World.grownBy_alloc w o none).block k hk (by simp)⟩
theorem gtrans {w1 w2 w3 : World} (h : w1.grownBy w2 none) (g : w2.grownBy w3 none) : w1.grownBy w3 none :=
  ⟨g.os.trans h.os, g.tape.trans h.tape, g.output.trans h.output, Nat.le_trans h.size g.size, fun k hk hn => (g.block k (Nat.lt_of_lt_of_le hk h.size) hn).trans (h.block k hk hn)⟩
theorem grow {w1 w2 w3 : World} {row : Option Nat} (h : w1.grownBy w2 none) (g : w2.grownBy w3 row) (hr : ∀ k, row = some k → w1.heap.size ≤ k) : w1.grownBy w3 none :=
  ⟨g.os.trans h.os, g.tape.trans h.tape, g.output.trans h.output, Nat.le_trans h.size g.size, fun k hk hn => (g.block k (Nat.lt_of_lt_of_le hk h.size) (fun e => by have := hr k e.symm; omega)).trans (h.block k hk hn)⟩
theorem Dt.grown {w w' : World} {db : Nat} {B : List UInt8} (h : Dt w db B) (g : w.grownBy w' none) : Dt w' db B :=
  h.of fun hne => g.block db (by
    obtain ⟨c, l, rfl⟩ := List.exists_cons_of_ne_nil hne
    exact cell_lt (h.data 0 c rfl)) (by simp)
theorem Own.txt {w w0 : World} {base db : Nat} {v : Value} {l : List UInt8} (h : Own w base v l) (hb : w0.heap.size ≤ base) : TxtAt (fun b => b = db ∨ (w0.heap.size ≤ b ∧ b < w.heap.size)) w v l := by
  rcases h.1.2 with ⟨h1, _⟩ | ⟨g, cap, cur, rfl, hg, hc, _⟩
  · exact absurd h1 h.2
  · refine ⟨⟨g, 0, none⟩, cap, rfl, .inr (.inr ⟨by show w0.heap.size ≤ g; omega, ?_⟩), fun j x hj => h.1.cells (g := g) rfl j _ (by rw [List.getElem?_map, hj]; rfl)⟩
    exact (World.ownsRow.lt h.1 g rfl).2
/-- What holds at the head of the loop. -/
def EbInv (w : World) (B : List UInt8) (o j : Nat) (t : List UInt8) (i : Value) (bv : Value) (wr : World) : Prop :=
  ∃ (y : Nat) (acc u : List UInt8), i = .int .i64 y ∧ Own wr w.heap.size bv acc ∧ w.grownBy wr none ∧ acc.length ≤ 4 * y ∧ TxR 34 B (o + y) j u ∧ t = acc ++ u

set_option maxRecDepth 100000 in
set_option maxHeartbeats 4000000 in
theorem escaped_any {w : World} {db C : Nat} {B : List UInt8} {o n m j x : Nat} {t : List UInt8} (pv : Value) (hD : Dt w db B) (h1 : o + n = B.length) (h2 : n ≤ m) (h3 : o + m = C) (hx1 : 1 ≤ x) (hxn : x < n) (hr : Trk B (fun i u => TxR 34 B i j u) (o + 1) (o + x) t) :
    Calls Tryz.prog 85 #[pv, .slice (some ⟨db, o, none⟩) n m, .int .i64 x] w (ScP db C B j t w) := by
  obtain ⟨i0, hi, hz0, hz1, hz2⟩ := info_parts Tryz.info5
  have HD := Lib.hid (fun (W : World) (hW : w.grownBy W none) => hD.grown hW)
  have HF := Lib.hid (find_any (m := m) (x := x) hD h1)
  have HR := Lib.hid hr
  have HCUT := Lib.hid (fun (W : World) (hW : w.grownBy W none) => TxtAt.piece (hD.grown hW) (fun _ => True) trivial (o + 1) (x - 1))
  have hl := hD.len
  clear hD hr
  go_enter Tryz.func85, Tryz.ntmps85
  go_wp2_with fail
  with_reducible refine HF.out.mono ?_
  rintro e w' ⟨⟨fy, rfl, hfy⟩, rfl⟩
  obtain ⟨w, rfl⟩ : ∃ w0 : World, w0 = w' := ⟨_, rfl⟩
  have HFY := Lib.hid hfy
  clear hfy
  go_upto_if 24 with fail
  go_cut [10] from 25 to 26 (fun v wx => ∃ cap : Nat, v = .int .i64 cap ∧ x ≤ cap + 1 ∧ cap ≤ 70000 ∧ w = wx)
  case first =>
    rcases HFY.out with rfl | ⟨g1, g2⟩
    · go_wp2_with fail
      go_meet
      exact ⟨n - 1, by rw [show ((n - 1 : Nat) : Int) = (n : Int) - 1 by omega], by omega, by omega, rfl⟩
    · go_wp2_with fail
      go_meet
      exact ⟨(fy - 1).toNat, by rw [show (((fy - 1).toNat : Nat) : Int) = fy - 1 by omega], by omega, by omega, rfl⟩
  case rest =>
    obtain ⟨cap, rfl, hcx, hcap, rfl⟩ := hcut
    clear HFY HF
    have hm1 : ¬ m = 1 := by omega
    have hsz : (Tryz.prog.info? 5).map (·.size) = some 1 := by rw [hi, Option.map_some, hz1]
    go_upto_region 6 with (at_make; (refine wpList_make_part _ rfl (.tmp 28) (.tmp 29) 22 rfl 5 i0 (.int .u8 0) 1 Tryz.underlying22 hi hz0 hz1 .i64 .i64 _ _ (x - 1) cap rfl rfl (by omega) rfl (by omega) (by rw [hz2]; omega) (by unfold maxLen; omega) ?_); intro cur hcs)
    rw [Nat.mul_one] at hcs
    have HCUR := Lib.hid (heap_alloc_new w (.cells cur 5))
    have HNW := Lib.hid (byt_cells (w := w.alloc (.cells cur 5)) (a := ⟨db, o + 1, none⟩) (l := cutB B (o + 1) (x - 1)) fun j x hj => by
      have hg := cut_get hj
      have e : (⟨db, o + 1, none⟩ : Addr).add j = ⟨db, o + 1 + j, none⟩ := by unfold Addr.add; split <;> simp_all
      rw [e]
      exact (HD.out _ (World.grownBy_alloc w _ none)).data _ _ hg.1)
    have hlen : (cutB B (o + 1) (x - 1)).length = x - 1 := cut_len (by omega)
    have HLEN := Lib.hid hlen
    have hmin : ((cutB B (o + 1) (x - 1)).map byt).length = Nat.min (x - 1) (x - 1) := by rw [List.length_map, hlen]; exact (Nat.min_self _).symm
    have hfit : 0 + ((cutB B (o + 1) (x - 1)).map byt).length ≤ cur.size := by rw [List.length_map, hlen]; omega
    have HMF := Lib.hid (And.intro hmin hfit)
    have HOW := Lib.hid (Own.filled (w := w) (base := w.heap.size) (l := cutB B (o + 1) (x - 1)) (k := cap) (cur := cur) (Nat.le_refl _) (by omega) (by unfold maxLen; omega) hcs)
    clear hlen hmin hfit
    go_upto_region 7 with ((refine wpList_copy_fill rfl (.tmp 31) (.tmp 34) 22 22 rfl 5 Tryz.underlying22 hsz w.heap.size 0 (x - 1) cap ⟨db, o + 1, none⟩ (x - 1) (m - 1) (by simp [Act.eval]) (by simp [Act.eval]) cur 5 HCUR.out ((cutB B (o + 1) (x - 1)).map byt) HMF.out.1 HNW.out HMF.out.2 (byt_one _) (x - 1) (by rw [List.length_map, HLEN.out]) ?_))
    obtain ⟨wm, hwm⟩ : ∃ wm : World, (w.alloc (.cells cur 5)).setRow w.heap.size (cur.toList.take 0 ++ ((cutB B (o + 1) (x - 1)).map byt ++ cur.toList.drop (0 + ((cutB B (o + 1) (x - 1)).map byt).length))).toArray = wm := ⟨_, rfl⟩
    have hom := HOW.out
    rw [hwm, HLEN.out] at hom
    have hgm : w.grownBy wm none := by rw [← hwm]; exact grown_filled _ _ _
    rw [hwm]
    have HOM := Lib.hid hom
    have HGM := Lib.hid hgm
    clear hom hgm hwm HOW HCUR HNW HMF hcs
    go_simp
    go_wp2_with fail
    go_loopw [2, 12] (fun iv bv wr => EbInv w B o j t iv bv wr) (fun iv _ _ => B.length - (intOf iv).toNat)
    case atStart =>
      obtain ⟨_, u, hu, ht⟩ := HR.out
      exact ⟨x, cutB B (o + 1) (x - 1), u, rfl, HOM.out, HGM.out, by rw [HLEN.out]; omega, hu, by rw [ht]; congr 2; omega⟩
    case round =>
      obtain ⟨y, acc, u, rfl, hO, hG, hacc, hu, ht⟩ := hrel
      have hin := hu.in
      have hyn : y < n := by omega
      have HO := Lib.hid hO
      have HG := Lib.hid hG
      have HU := Lib.hid hu
      have HT := Lib.hid ht
      have HDr := Lib.hid (HD.out _ hG)
      have hc := HDr.out.pk hin
      have hszr : w.heap.size ≤ wr.heap.size := hG.size
      clear hO hG hu ht HOM HGM
      by_cases h34 : pk B (o + y) = 34
      · have hend := HU.out.end h34
        have ht : t = acc := by rw [HT.out, hend.2, List.append_nil]
        have hj : o + (y + 1) = j := by rw [hend.1]; omega
        have HTT := Lib.hid ht
        have t1 := byte_eq h34 (n := 34) rfl
        have hyn2 : y + 1 ≤ n := by omega
        clear hend ht h34 HU HT
        subst hj
        generalize pk B (o + y) = c at *
        go_wp2_with fail
        go_quiet (fail)
        all_goals go_wp2_with fail
        all_goals
          (try simp only [Exit.inBlock, Exit.then])
          refine bodyPost_ret (results_tmp4 rfl _ _ _) rfl ?_
          have htx := ((HO.out.drewN nq).txt (db := db) (w0 := w) (Nat.le_refl _))
          rw [← HTT.out] at htx
          exact ScP.mk _ _ _ rfl ⟨_, _, _, o, rfl, by omega, by omega⟩ htx ⟨_, _, _, rfl, by omega, by omega, by omega, by omega⟩ (gtrans HG.out (grown_drewN wr nq))
      · have t1 := byte_ne h34 (n := 34) rfl
        by_cases h92 : pk B (o + y) = 92
        · obtain ⟨m', t1', u', hes, hu', hut⟩ : ∃ m' t1' u', EscR B (o + (y + 1)) m' t1' ∧ TxR 34 B m' j u' ∧ u = t1' ++ u' := by
            cases HU.out with
            | stop _ h => exact absurd h h34
            | esc _ _ _ _ h5 h6 => exact ⟨_, _, _, h5, h6, rfl⟩
            | sgn _ _ h3 _ _ => exact absurd ⟨h92, rfl⟩ h3
          have hel := esc_len hes
          have hin1 : o + (y + 1) < B.length := by
            cases hes with
            | one hk hc' => exact pk_in (by rw [hc']; unfold escS; rename_i k; match k, hk with
                | 0, _ | 1, _ | 2, _ | 3, _ | 4, _ | 5, _ | 6, _ => decide)
            | uni hk _ _ _ => exact pk_in (by rcases hk with ⟨h, _⟩ | ⟨h, _⟩ <;> rw [h] <;> decide)
          have hyn1 : y + 1 < n := by omega
          have HUN := Lib.hid (show Calls Tryz.prog 94 #[u12, .slice (some ⟨db, o, none⟩) n m, .int .i64 ((y : Int) + 1)] wr (UnP w.heap.size o m' u12 acc t1' wr) from unescape_any (m := m) HDr.out h1 hes HO.out (by omega) hszr)
          have HUT := Lib.hid (And.intro hu' hut)
          have t92 := byte_eq h92 (n := 92) rfl
          clear h34 h92 hes hu' hut HU
          generalize pk B (o + y) = c at *
          go_wp2_with fail
          with_reducible refine HUN.out.mono ?_
          rintro e w3 ⟨v', y3, rfl, hy3, hv', o', hg'⟩
          have HO3 := Lib.hid hv'
          have HG3 := Lib.hid (grow (gtrans HG.out (World.grownBy_alloc wr o' none)) hg' HO.out.lt)
          clear hv' hg'
          subst hy3
          go_wp2_with fail
          exact ⟨⟨y3, acc ++ t1', u', rfl, HO3.out, HG3.out, by rw [List.length_append]; omega, HUT.out.1, by rw [HT.out, HUT.out.2, List.append_assoc]⟩, by show B.length - (intOf (.int .i64 (y3 : Int))).toNat < B.length - (intOf (.int .i64 (y : Int))).toNat; simp only [intOf]; omega⟩
        · have t92 := byte_ne h92 (n := 92) rfl
          have hsg := (HU.out.step h34 (fun e => h92 e.1)).1
          by_cases hhi : 128 ≤ (pk B (o + y)).toNat
          · obtain ⟨k, hk1, u', hu', hut⟩ := HU.out.run (by decide)
            have hk5 := hk1.lt.2.2 hin hhi
            have hk4 := hk1.lt.2.1
            have HRUN := Lib.hid (run_any (m := m) HDr.out h1 hk1)
            have HUT := Lib.hid (And.intro hu' hut)
            clear hk1 hu' hut HU hsg h34 h92
            have t9 : (((pk B (o + y)).toNat : Int) == 9) = false := by simp; omega
            have t10 : (((pk B (o + y)).toNat : Int) == 10) = false := by simp; omega
            have t13 : (((pk B (o + y)).toNat : Int) == 13) = false := by simp; omega
            generalize pk B (o + y) = c at *
            go_wp2_with fail
            with_reducible refine HRUN.out.mono ?_
            rintro e w' ⟨⟨y3, rfl, hy3⟩, rfl⟩
            obtain ⟨wr, rfl⟩ : ∃ w0 : World, w0 = w' := ⟨_, rfl⟩
            subst hy3
            have hcl : (cutB B (o + y) (y3 - y)).length = y3 - y := cut_len (by omega)
            have HCL := Lib.hid hcl
            have HNW := Lib.hid (byt_cells (w := wr) (a := ⟨db, o + y, none⟩) (l := cutB B (o + y) (y3 - y)) fun j x hj => by
              have hg := cut_get hj
              have e : (⟨db, o + y, none⟩ : Addr).add j = ⟨db, o + y + j, none⟩ := by unfold Addr.add; split <;> simp_all
              rw [e]
              exact HDr.out.data _ _ hg.1)
            have hmy : ¬ m = y := by omega
            have hyy : y ≤ y3 := by omega
            have hy3n : y3 ≤ n := by omega
            clear hcl
            go_wp2_with (at_builtin; (refine wpList_append_own _ rfl (.tmp 58) (.tmp 62) 22 rfl w.heap.size 5 i0 (.int .u8 0) 1 1 Tryz.underlying22 hi hz0 hz1 hz2 rfl (by decide) u12 acc.length (acc.map byt) rfl HO.out.1 ⟨db, o + y, none⟩ (y3 - y) (m - y) ((cutB B (o + y) (y3 - y)).map byt) rfl (by rw [List.length_map, HCL.out, Nat.mul_one]) HNW.out (byt_one _) (by unfold maxLen; omega) (by omega) hszr ?_); intro v' w3 hown3 hgrow3 hnil3; have HO3 := Lib.hid (HO.out.app2 HCL.out hown3 hnil3); have HG3 := Lib.hid (grow HG.out hgrow3 HO.out.lt); clear hown3 hgrow3 hnil3)
            exact ⟨⟨y3, acc ++ cutB B (o + y) (y3 - y), u', rfl, HO3.out, HG3.out, by rw [List.length_append, HCL.out]; omega, HUT.out.2, by rw [HT.out, HUT.out.1, List.append_assoc, show o + y3 - (o + y) = y3 - y by omega]⟩, by show B.length - (intOf (.int .i64 (y3 : Int))).toNat < B.length - (intOf (.int .i64 (y : Int))).toNat; simp only [intOf]; omega⟩
          · have hpl := (sgN_cases hsg).resolve_right hhi
            have hst := HU.out.plain h34 (fun e => h92 e.1) hpl
            have hone : cutB B (o + y) 1 = [pk B (o + y)] := by
              unfold cutB
              rw [drop_pk hin]
              rfl
            rw [hone] at hst
            have HST := Lib.hid hst
            clear hst hone HU hsg
            by_cases h9 : pk B (o + y) = 9
            · have t9 := byte_eq h9 (n := 9) rfl
              have l32 : ¬ 32 ≤ ((pk B (o + y)).toNat : Int) := by rw [h9]; decide
              clear h9 hpl hhi h34 h92
              generalize pk B (o + y) = c at *
              go_wp2_with (at_builtin; (refine wpList_append_own _ rfl (.tmp 118) (.tmp 120) 22 rfl w.heap.size 5 i0 (.int .u8 0) 1 1 Tryz.underlying22 hi hz0 hz1 hz2 rfl (by decide) u12 acc.length (acc.map byt) rfl (HO.out.1.alloc _) ⟨wr.heap.size, 0, none⟩ 1 1 [.int .u8 (c.toNat : Int)] rfl rfl (lit_cell5 _ _ rfl _) (one_byte _) (by unfold maxLen; omega) (by omega) (by simp; omega) ?_); intro v' w3 hown3 hgrow3 hnil3; have HO3 := Lib.hid ((HO.out.alloc (.cells #[.int .u8 (c.toNat : Int)] 5)).one c hown3 hnil3); have HG3 := Lib.hid (grow (gtrans HG.out (World.grownBy_alloc wr (.cells #[.int .u8 (c.toNat : Int)] 5) none)) hgrow3 HO.out.lt); clear hown3 hgrow3 hnil3)
              obtain ⟨u', hu', hu2⟩ := HST.out
              exact ⟨⟨y + 1, acc ++ [c], u', rfl, HO3.out, HG3.out, by rw [List.length_append, List.length_singleton]; omega, hu2, by rw [HT.out, hu', List.append_assoc]⟩, by show B.length - (intOf (.int .i64 ((y : Int) + 1 : Int))).toNat < B.length - (intOf (.int .i64 (y : Int))).toNat; simp only [intOf]; omega⟩
            · have hb := hpl.resolve_left h9
              clear h9 hpl hhi h34 h92
              generalize pk B (o + y) = c at *
              go_wp2_with (at_builtin; (refine wpList_append_own _ rfl (.tmp 109) (.tmp 111) 22 rfl w.heap.size 5 i0 (.int .u8 0) 1 1 Tryz.underlying22 hi hz0 hz1 hz2 rfl (by decide) u12 acc.length (acc.map byt) rfl (HO.out.1.alloc _) ⟨wr.heap.size, 0, none⟩ 1 1 [.int .u8 (c.toNat : Int)] rfl rfl (lit_cell5 _ _ rfl _) (one_byte _) (by unfold maxLen; omega) (by omega) (by simp; omega) ?_); intro v' w3 hown3 hgrow3 hnil3; have HO3 := Lib.hid ((HO.out.alloc (.cells #[.int .u8 (c.toNat : Int)] 5)).one c hown3 hnil3); have HG3 := Lib.hid (grow (gtrans HG.out (World.grownBy_alloc wr (.cells #[.int .u8 (c.toNat : Int)] 5) none)) hgrow3 HO.out.lt); clear hown3 hgrow3 hnil3)
              obtain ⟨u', hu', hu2⟩ := HST.out
              exact ⟨⟨y + 1, acc ++ [c], u', rfl, HO3.out, HG3.out, by rw [List.length_append, List.length_singleton]; omega, hu2, by rw [HT.out, hu', List.append_assoc]⟩, by show B.length - (intOf (.int .i64 ((y : Int) + 1 : Int))).toNat < B.length - (intOf (.int .i64 (y : Int))).toNat; simp only [intOf]; omega⟩
end Go.Proofs.YtalmpddmhakdmaaGreat

/-
  The walk of a function of the parser: a node is laid behind the others. Conditions: the parser lies in memory as stated.
-/
namespace Go.Proofs.YtalmpddmhakdmaaGreat
open Go.RowKit

/-- 'copy' of elements of several cells, into a row that is known whole. -/
theorem run_copy_wide {P : Program} (w : World) (dT sT ty elem : TypeId) (g o dLen dCap : Nat) (sp : Option Addr) (sLen sCap : Nat) (cur : Array Value) (t : TypeId) (cs : List Value) (i : TypeInfo) (n : Nat)
    (hu : P.underlying dT = some (.slice elem)) (hi : P.info? elem = some i) (hm : Nat.min sLen dLen = n)
    (hg : w.heap[g]? = some (.cells cur t (0, 0))) (hn : cs.length = n * i.size)
    (hsrc : (sp = none ∧ cs = []) ∨ ∃ a, sp = some a ∧ ∀ j v, cs[j]? = some v → w.cell? (a.add j) = some v) (hfit : o + cs.length ≤ cur.size) (h1 : ∀ v ∈ cs, v.oneCell' = true) :
    (Builtin.copy_ #[dT, sT] ty #[.slice (some ⟨g, o, none⟩) dLen dCap, .slice sp sLen sCap]).run P w =
      .ok (goInt n) (w.setRow g (cur.toList.take o ++ cs ++ cur.toList.drop (o + cs.length)).toArray) := by
  have hst := run_storeCells_at P g o t cs 0 cur w hg (by simpa using hfit) h1
  subst hm
  rcases hsrc with ⟨rfl, rfl⟩ | ⟨a, rfl, hsrc⟩
  · have hl := run_firstCells_none (P := P) (w := w) i.size (Nat.min sLen dLen) sLen sCap
    have hst' : (storeCells ⟨g, o, none⟩ (#[] : Array Value).toList 0).run P w = .ok () (w.setRow g (cur.toList.take o ++ [] ++ cur.toList.drop (o + 0)).toArray) := by simpa using hst
    simp only [Builtin.copy_]
    simp [run_underlying hu, Builtin.lenOf, sizeOf, typeInfo, hi, hl, hst']
  · have hl := run_firstCells_some (P := P) w i.size (Nat.min sLen dLen) a sLen sCap cs hn hsrc
    simp [Builtin.copy_, run_underlying hu, Builtin.lenOf, sizeOf, typeInfo, hi, hl, hst]
theorem wpList_copy_wide {P : Program} {w : World} {ops : Array Oper} {rest : List Oper} {o : Oper} {a : Act} {Q : Exit → Act → World → Prop} (hgd : o.guard = none) (d s : Operand) (dT sT : TypeId)
    (ho : o.op = .call { callee := .builtin .copy, args := #[d, s], argTypes := #[dT, sT] }) (elem : TypeId) (i : TypeInfo) (n size : Nat) (hu : P.underlying dT = some (.slice elem)) (hi : P.info? elem = some i) (hsz : i.size = size)
    (g off dLen dCap : Nat) (sp : Option Addr) (sLen sCap : Nat) (hd : a.eval d = .slice (some ⟨g, off, none⟩) dLen dCap) (hs : a.eval s = .slice sp sLen sCap) (hm : Nat.min sLen dLen = n)
    (cur : Array Value) (t : TypeId) (hg : w.heap[g]? = some (.cells cur t (0, 0))) (cs : List Value) (hn : cs.length = n * size)
    (hsrc : (sp = none ∧ cs = []) ∨ ∃ a, sp = some a ∧ ∀ j v, cs[j]? = some v → w.cell? (a.add j) = some v) (hfit : off + cs.length ≤ cur.size) (h1 : ∀ v ∈ cs, v.oneCell' = true)
    (h : wpList P ops Q rest (a.put o.dst (.int .i64 (n : Int))) (w.setRow g (cur.toList.take off ++ cs ++ cur.toList.drop (off + cs.length)).toArray)) : wpList P ops Q (o :: rest) a w := by
  refine wpList_plain hgd fun K hK => ?_
  subst hsz
  have hrun := run_copy_wide (P := P) w dT sT o.type elem g off dLen dCap sp sLen sCap cur t cs i n hu hi hm hg hn hsrc hfit h1
  unfold Oper.wp
  simp only [List.append_assoc] at hrun h
  simp [execOp, ho, resolve, invoke, builtin, hd, hs, hrun, Result.andThen]
  exact hK _ _ (by simpa [goInt] using h)
theorem blk_put {w : World} {b : Nat} {l : Array Value} {t : TypeId} (h : w.heap[b]? = some (.cells l t (0, 0))) (j : Nat) (v : Value) : (w.setCell ⟨b, j, none⟩ v).heap[b]? = some (.cells (l.setIfInBounds j v) t (0, 0)) := by
  show (w.heap.modify b _)[b]? = _
  rw [Array.getElem?_modify, if_pos rfl, h]
  rfl
theorem grown_setNew {w w' : World} (h : w.grownBy w' none) (p : Addr) (hp : w.heap.size ≤ p.block) (v : Value) : w.grownBy (w'.setCell p v) none :=
  ⟨h.os, h.tape, h.output, by rw [World.size_setCell]; exact h.size, fun k hk hn => (Below.heap_setCell w' p v k (by omega)).trans (h.block k hk hn)⟩
/-- A node's cells. -/
abbrev ndc (pp : Nat) (kd off len : Int) (data : Value) (next child : Int) : Array Value := #[.int .i64 kd, .int .u32 off, .int .u32 len, data, .pointer (some ⟨pp, 0, none⟩), .int .i32 next, .int .i32 child]
theorem Tryz.info60 : (Tryz.prog.info? 60).map (fun i => (i.zero, i.size, i.bytes)) = some (some (.agg #[.int .i64 0, .int .u32 0, .int .u32 0, .slice none 0 0, .pointer none, .int .i32 0, .int .i32 0]), 7, 56) := by kernel_rfl
theorem Tryz.u45 : Tryz.prog.underlying 45 = some (.slice 60) := by kernel_rfl

/-- Behind the append of a node. -/
theorem push_end {w wb w4 : World} {pp db C k g2 cap2 : Nat} {B : List UInt8} {nv v : Value} {ns : List PN} {g : Int} {x : PN} {o : Obj} {e : Ending} (hF : Fr w wb pp nv v) (hPb : PS wb pp db C B v ns g) (hk : ns.length = k)
    (ho : w4.ownsRow 0 60 7 (.slice (some ⟨g2, 0, none⟩) (k + 1) cap2) (k + 1) (arC pp ns ++ x.cells pp)) (hg : (wb.drew.alloc o).grownBy w4 v.ownBlock) (hgl : v.ownBlock = some g2 ∨ g2 = (wb.drew.alloc o).heap.size)
    (hpp : w4.heap[pp]? = wb.heap[pp]?) (hx : x.data.oneCell' = true) (he : e = .returned (.int .i32 ((k + 1 : Nat) : Int))) :
    ∃ nv', e = .returned (.int .i32 ((k + 1 : Nat) : Int)) ∧ PS (w4.setCell ⟨pp, 3, none⟩ (.slice (some ⟨g2, 0, none⟩) (k + 1) cap2)) pp db C B nv' (ns ++ [x]) g ∧ Fr w (w4.setCell ⟨pp, 3, none⟩ (.slice (some ⟨g2, 0, none⟩) (k + 1) cap2)) pp nv nv' := by
  have hin := hPb.in_heap
  have hsz : (wb.drew.alloc o).heap.size = wb.heap.size + 1 := World.size_alloc _ _
  have hold : ∀ b, b < wb.heap.size → v.ownBlock ≠ some b → w4.heap[b]? = wb.heap[b]? := fun b hb hne => (hg.block b (by omega) (fun e => hne e.symm)).trans ((World.grownBy_alloc wb.drew o none).block b hb (by simp))
  have hc : ∀ j v', j ≠ 3 → wb.cell? ⟨pp, j, none⟩ = some v' → (w4.setCell ⟨pp, 3, none⟩ (.slice (some ⟨g2, 0, none⟩) (k + 1) cap2)).cell? ⟨pp, j, none⟩ = some v' := fun j v' hj hv =>
    (World.cell?_setCell_other w4 _ _ _ (by simp; try omega)).trans ((World.cell?_of_block (w := wb) hpp).trans hv)
  have hf : ∀ j, wb.frozen? ⟨pp, j, none⟩ = false → (w4.setCell ⟨pp, 3, none⟩ (.slice (some ⟨g2, 0, none⟩) (k + 1) cap2)).frozen? ⟨pp, j, none⟩ = false := fun j hv => by
    rw [World.frozen?_setCell]
    exact (World.frozen?_of_block (w := wb) hpp).trans hv
  have hgne : g2 ≠ pp ∧ (B ≠ [] → g2 ≠ db) := by
    rcases hgl with e1 | e1
    · exact ⟨fun e2 => hPb.ne2 (by rw [e1, e2]), fun _ e2 => hPb.ne3 (by rw [e1, e2])⟩
    · exact ⟨by omega, fun hne => by have := hin.2 hne; omega⟩
  have hgdb : g2 ≠ db := by
    rcases hgl with e1 | e1
    · exact fun e2 => hPb.ne3 (by rw [e1, e2])
    · intro e2
      have := hPb.dbh
      omega
  have hsz4 := hg.size
  refine ⟨_, he, ⟨?_, hc _ _ (by decide) hPb.keep, hc _ _ (by decide) hPb.data, World.cell?_setCell_same w4 _ _ ((World.cell?_of_block (w := wb) hpp).trans hPb.nodes), hc _ _ (by decide) hPb.nest, hf _ hPb.f3, hf _ hPb.f5, ?_, hPb.ne1, ?_, ?_, hPb.cap, hPb.capm, by rw [World.size_setCell]; have := hPb.dbh; omega, by
    intro y hy
    rcases List.mem_append.mp hy with hy | hy
    · exact hPb.one y hy
    · rw [List.mem_singleton.mp hy]; exact hx, hPb.lf.elim fun v hv => ⟨v, hc _ _ (by decide) hv⟩, hf _ hPb.f2, hc _ _ (by decide) hPb.er⟩, ?_⟩
  · refine hPb.dt.of fun hne => ?_
    rw [Below.heap_setCell _ _ _ _ hPb.ne1]
    exact hold db (hin.2 hne) hPb.ne3
  · have hl : (ns ++ [x]).length = k + 1 := by rw [List.length_append, hk]; rfl
    rw [hl, arC_app]
    have ha : arC pp [x] = x.cells pp := by simp [arC]
    rw [ha]
    exact World.ownsRow.kept ho (row := some pp) ⟨rfl, rfl, rfl, by simp [World.setCell], fun k _ hne => Below.heap_setCell w4 _ _ k (fun e => hne (by rw [e]))⟩ (.inr (by simp [Value.ownBlock]; exact hgne.1))
  · simp [Value.ownBlock]; exact hgne.1
  · simp [Value.ownBlock]; exact hgdb
  · refine hF.trans ⟨hg.os, hg.tape, hg.output, by rw [World.size_setCell]; omega, fun b hb hbp hbv => ?_, ?_⟩
    · rw [Below.heap_setCell _ _ _ _ hbp]
      exact hold b hb hbv
    · rcases hgl with e1 | e1
      · exact .inl (by rw [e1]; rfl)
      · refine .inr fun k hk => ?_
        have : g2 = k := by simpa [Value.ownBlock] using hk
        omega

/-- The parser is as it was where its own blocks are. -/
theorem PS.keeps {w w' : World} {pp db C : Nat} {B : List UInt8} {nv : Value} {ns : List PN} {g : Int} (h : PS w pp db C B nv ns g) (hp : w'.heap[pp]? = w.heap[pp]?) (hd : w'.heap[db]? = w.heap[db]?) (hr : ∀ k, nv.ownBlock = some k → w'.heap[k]? = w.heap[k]?) (hs : w.heap.size ≤ w'.heap.size) : PS w' pp db C B nv ns g := by
  have hc : ∀ j v, w.cell? ⟨pp, j, none⟩ = some v → w'.cell? ⟨pp, j, none⟩ = some v := fun j v hv => (World.cell?_of_block (w := w) hp).trans hv
  refine ⟨h.dt.of fun _ => hd, hc _ _ h.keep, hc _ _ h.data, hc _ _ h.nodes, hc _ _ h.nest, (World.frozen?_of_block (w := w) hp).trans h.f3, (World.frozen?_of_block (w := w) hp).trans h.f5, ⟨h.own.1, ?_⟩, h.ne1, h.ne2, h.ne3, h.cap, h.capm, Nat.lt_of_lt_of_le h.dbh hs, h.one, h.lf.elim fun v hv => ⟨v, hc _ _ hv⟩, (World.frozen?_of_block (w := w) hp).trans h.f2, hc _ _ h.er⟩
  rcases h.own.2 with h1 | ⟨gb, cap, cur, h1, h2, h3, h4⟩
  · exact .inl h1
  · exact .inr ⟨gb, cap, cur, h1, h2, by rw [hr gb (by rw [h1]; rfl)]; exact h3, h4⟩
/-- A row of nodes that was made and filled. -/
theorem PS.filled {w : World} {pp db C k nc : Nat} {B : List UInt8} {nv : Value} {ns : List PN} {g : Int} {cur : Array Value} (h : PS w pp db C B nv ns g) (hk : ns.length = k) (hkn : k ≤ nc) (hm : nc ≤ maxLen) (hc : cur.size = nc * 7) :
    PS (((w.alloc (.cells cur 60)).setRow w.heap.size (cur.toList.take 0 ++ arC pp ns ++ cur.toList.drop (0 + (arC pp ns).length)).toArray).setCell ⟨pp, 3, none⟩ (.slice (some ⟨w.heap.size, 0, none⟩) k nc)) pp db C B (.slice (some ⟨w.heap.size, 0, none⟩) k nc) ns g ∧
    Fr w (((w.alloc (.cells cur 60)).setRow w.heap.size (cur.toList.take 0 ++ arC pp ns ++ cur.toList.drop (0 + (arC pp ns).length)).toArray).setCell ⟨pp, 3, none⟩ (.slice (some ⟨w.heap.size, 0, none⟩) k nc)) pp nv (.slice (some ⟨w.heap.size, 0, none⟩) k nc) := by
  obtain ⟨wf, hwf⟩ : ∃ wf : World, (w.alloc (.cells cur 60)).setRow w.heap.size (cur.toList.take 0 ++ arC pp ns ++ cur.toList.drop (0 + (arC pp ns).length)).toArray = wf := ⟨_, rfl⟩
  have hg : w.grownBy wf none := by rw [← hwf]; exact grown_filled w _ _
  have hrow : wf.heap[w.heap.size]? = some (.cells (cur.toList.take 0 ++ arC pp ns ++ cur.toList.drop (0 + (arC pp ns).length)).toArray 60 (0, 0)) := by rw [← hwf]; exact setRow_heap _ _ cur _ 60 (0, 0) (heap_alloc_new _ _)
  rw [hwf]
  have hP := h.grown hg
  have hin := h.in_heap.1
  have hpp : wf.heap[pp]? = w.heap[pp]? := hg.block pp hin (by simp)
  have hc' : ∀ j v', j ≠ 3 → wf.cell? ⟨pp, j, none⟩ = some v' → (wf.setCell ⟨pp, 3, none⟩ (.slice (some ⟨w.heap.size, 0, none⟩) k nc)).cell? ⟨pp, j, none⟩ = some v' := fun j v' hj hv => (World.cell?_setCell_other wf _ _ _ (by simp; try omega)).trans hv
  have hf : ∀ j, wf.frozen? ⟨pp, j, none⟩ = false → (wf.setCell ⟨pp, 3, none⟩ (.slice (some ⟨w.heap.size, 0, none⟩) k nc)).frozen? ⟨pp, j, none⟩ = false := fun j hv => by rw [World.frozen?_setCell]; exact hv
  have hsz := hg.size
  have hdb := h.dbh
  refine ⟨⟨hP.dt.of fun _ => Below.heap_setCell _ _ _ _ h.ne1, hc' _ _ (by decide) hP.keep, hc' _ _ (by decide) hP.data, World.cell?_setCell_same wf _ _ hP.nodes, hc' _ _ (by decide) hP.nest, hf _ hP.f3, hf _ hP.f5, ⟨by rw [arC_len], .inr ⟨w.heap.size, nc, _, by rw [hk], Nat.zero_le _, (Below.heap_setCell _ _ _ _ (by show w.heap.size ≠ pp; omega)).trans hrow, by omega, hm, ?_, ?_⟩⟩, h.ne1, by simp [Value.ownBlock]; omega, by simp [Value.ownBlock]; omega, h.cap, h.capm, by rw [World.size_setCell]; omega, h.one, hP.lf.elim fun v hv => ⟨v, hc' _ _ (by decide) hv⟩, hf _ hP.f2, hc' _ _ (by decide) hP.er⟩,
    ⟨hg.os, hg.tape, hg.output, by rw [World.size_setCell]; exact hsz, fun b hb hbp hbv => (Below.heap_setCell _ _ _ _ hbp).trans (hg.block b hb (by simp)), .inr fun k hk => by
      have : w.heap.size = k := by simpa [Value.ownBlock] using hk
      omega⟩⟩
  · have := arC_len pp ns
    simp
    omega
  · have := arC_len pp ns
    simp [this]

set_option maxRecDepth 100000 in
set_option maxHeartbeats 4000000 in
theorem push_any {w : World} {pp db C : Nat} {B : List UInt8} {nv : Value} {ns : List PN} {g : Int} (hP : PS w pp db C B nv ns g) (hn : ns.length ≤ 300000) (x : PN) (hx : x.data.oneCell' = true) :
    Calls Tryz.prog 38 #[.pointer (some ⟨pp, 0, none⟩), .agg #[.int .i64 x.kind, .int .u32 x.off, .int .u32 x.len, x.data, .pointer none, .int .i32 x.next, .int .i32 x.child]] w fun e w' => ∃ nv', e = .returned (.int .i32 ((ns.length + 1 : Nat) : Int)) ∧ PS w' pp db C B nv' (ns ++ [x]) g ∧ Fr w w' pp nv nv' := by
  obtain ⟨i0, hi0, hz0, hz1, hz2⟩ := info_parts Tryz.info60
  have HP := Lib.hid hP
  have hnd := hP.nodes
  have hf3 := hP.f3
  have hin := hP.in_heap.1
  have hdb := hP.dbh
  obtain ⟨k, hk⟩ : ∃ k, ns.length = k := ⟨_, rfl⟩
  rw [hk] at hn ⊢
  obtain ⟨kd, off, len, data, next, child⟩ := x
  have HONE := Lib.hid (show ∀ u ∈ [Value.int .i64 kd, .int .u32 off, .int .u32 len, data, .pointer (some ⟨pp, 0, none⟩), .int .i32 next, .int .i32 child], u.oneCell' = true by
    intro u hu
    simp at hu
    rcases hu with rfl | rfl | rfl | rfl | rfl | rfl | rfl <;> first | rfl | exact hx)
  obtain ⟨sp, cap, hnv, hkc, hsp⟩ : ∃ (sp : Option Addr) (cap : Nat), nv = .slice sp k cap ∧ k ≤ cap ∧ ((sp = none ∧ k = 0 ∧ cap = 0) ∨ ∃ gb, sp = some ⟨gb, 0, none⟩ ∧ gb < w.heap.size) := by
    rcases hP.own.2 with ⟨h1, h2⟩ | ⟨gb, cap, cur, h1, _, h3, h4, _⟩
    · exact ⟨none, 0, by rw [h1, ← hk, h2], by omega, .inl ⟨rfl, by omega, rfl⟩⟩
    · exact ⟨some ⟨gb, 0, none⟩, cap, by rw [h1, hk], by omega, .inr ⟨gb, rfl, (World.ownsRow.lt hP.own gb (by rw [h1]; rfl)).2⟩⟩
  subst hnv
  clear hP
  go_enter Tryz.func38, Tryz.ntmps38
  go_wp2_with fail
  go_quiet (fail)
  obtain ⟨ws, hws⟩ : ∃ ws : World, (w.alloc (.cells #[.int .i64 kd, .int .u32 off, .int .u32 len, data, .pointer none, .int .i32 next, .int .i32 child] 60)).drewN nq = ws := ⟨_, rfl⟩
  have hgs : w.grownBy ws none := by rw [← hws]; exact gtrans (World.grownBy_alloc w _ none) (grown_drewN _ nq)
  have HBX := Lib.hid (show ws.heap[w.heap.size]? = some (.cells #[.int .i64 kd, .int .u32 off, .int .u32 len, data, .pointer none, .int .i32 next, .int .i32 child] 60) by rw [← hws]; exact heap_alloc_new w _)
  have HPS := Lib.hid (HP.out.grown hgs)
  have HFR := Lib.hid (Fr.grown pp (.slice sp k cap) hgs)
  have hpps : pp < ws.heap.size := HPS.out.in_heap.1
  have hwss : w.heap.size < ws.heap.size := by have := HBX.out; exact (Array.getElem?_eq_some_iff.mp this).1
  have hnds := HPS.out.nodes
  have hf3s := HPS.out.f3
  rw [hws]
  clear hgs hws hnd hf3
  go_upto_if 17 with fail
  go_cut [] (fun wx => ∃ (gb cap' : Nat), k < cap' ∧ PS wx pp db C B (.slice (some ⟨gb, 0, none⟩) k cap') ns g ∧ Fr w wx pp (.slice sp k cap) (.slice (some ⟨gb, 0, none⟩) k cap') ∧
      wx.heap[w.heap.size]? = some (.cells #[.int .i64 kd, .int .u32 off, .int .u32 len, data, .pointer none, .int .i32 next, .int .i32 child] 60) ∧ gb ≠ w.heap.size)
  case first =>
    by_cases hroom : k < cap
    · obtain ⟨gb, rfl, hgw⟩ : ∃ gb, sp = some ⟨gb, 0, none⟩ ∧ gb < w.heap.size := by
        rcases hsp with ⟨_, _, h⟩ | h
        · omega
        · exact h
      have t1 : ((k : Int) == (cap : Int)) = false := by simp; omega
      clear hsp
      go_wp2_with fail
      go_meet
      exact ⟨gb, cap, hroom, HPS.out, HFR.out, HBX.out, by omega⟩
    · have hce : cap = k := by omega
      subst hce
      have t1 : ((cap : Int) == (cap : Int)) = true := by simp
      clear hsp
      go_upto_if 25 with fail
      go_cut [5] (fun v wx => ∃ nc : Nat, v = .int .i64 nc ∧ cap < nc ∧ nc ≤ 700000 ∧ ws = wx)
      case first =>
        by_cases h64 : 2 * cap < 64
        · have t2 : decide (2 * (cap : Int) < 64) = true := by simp; omega
          go_wp2_with fail
          go_meet
          exact ⟨64, rfl, by omega, by omega, rfl⟩
        · have t2 : decide (2 * (cap : Int) < 64) = false := by simp; omega
          go_wp2_with fail
          go_meet
          exact ⟨2 * cap, by rw [show ((2 * cap : Nat) : Int) = 2 * (cap : Int) by omega], by omega, by omega, rfl⟩
      case rest =>
        obtain ⟨nc, rfl, hnc1, hnc2, hww⟩ := hcut
        subst hww
        go_upto_region 6 with (at_make; (refine wpList_make_part _ rfl (.tmp 30) (.tmp 31) 45 rfl 60 i0 (.agg #[.int .i64 0, .int .u32 0, .int .u32 0, .slice none 0 0, .pointer none, .int .i32 0, .int .i32 0]) 7 Tryz.u45 hi0 hz0 hz1 .i64 .i64 _ _ cap nc rfl rfl rfl rfl (by omega) (by rw [hz2]; omega) (by unfold maxLen; omega) ?_); intro cur hcs)
        have hrow := heap_alloc_new ws (.cells cur 60)
        have HROW := Lib.hid hrow
        have HCS := Lib.hid hcs
        have hg1 := World.grownBy_alloc ws (.cells cur 60) none
        have HP1 := Lib.hid (HPS.out.grown hg1)
        have hl7 := arC_len pp ns
        rw [hk] at hl7
        have HL7 := Lib.hid hl7
        have n1 := HP1.out.nodes
        have f1 := HP1.out.f3
        have hmin : Nat.min cap cap = cap := Nat.min_self cap
        have HSRC : Hid ((sp = none ∧ arC pp ns = []) ∨ ∃ a, sp = some a ∧ ∀ j v, (arC pp ns)[j]? = some v → (ws.alloc (.cells cur 60)).cell? (a.add j) = some v) := Lib.hid HP1.out.src
        have HONES : Hid (∀ u ∈ arC pp ns, u.oneCell' = true) := Lib.hid (arC_one pp ns HP1.out.one)
        clear hrow hcs hg1 hl7
        go_upto_region 7 with (refine wpList_copy_wide rfl (.tmp 33) (.tmp 37) 45 45 rfl 60 i0 cap 7 Tryz.u45 hi0 hz1 ws.heap.size 0 cap nc sp cap cap rfl rfl hmin cur 60 HROW.out (arC pp ns) HL7.out HSRC.out (by have := HL7.out; have := HCS.out; omega) HONES.out ?_)
        obtain ⟨wf, hwf⟩ : ∃ wf : World, (ws.alloc (.cells cur 60)).setRow ws.heap.size (cur.toList.take 0 ++ arC pp ns ++ cur.toList.drop (0 + (arC pp ns).length)).toArray = wf := ⟨_, rfl⟩
        have hgf : ws.grownBy wf none := by rw [← hwf]; exact grown_filled ws _ _
        have HGF := Lib.hid hgf
        have HPF := Lib.hid (HPS.out.grown hgf)
        have HFILL := Lib.hid (HPS.out.filled hk (show cap ≤ nc by omega) (show nc ≤ maxLen by unfold maxLen; omega) HCS.out)
        simp only [hwf] at HFILL
        have n2 := HPF.out.nodes
        have f2 := HPF.out.f3
        rw [hwf]
        clear hgf hwf n1 f1 hnds hf3s
        go_wp2_with fail
        go_meet
        exact ⟨ws.heap.size, nc, hnc1, HFILL.out.1, HFR.out.trans HFILL.out.2, (Below.heap_setCell _ _ _ _ (by show w.heap.size ≠ pp; omega)).trans ((HGF.out.block w.heap.size hwss (by simp)).trans HBX.out), by omega⟩
  case rest =>
    obtain ⟨gb, cap', hroom, hPS, hFR, hBX, hgbox⟩ := hcut
    obtain ⟨ws2, hws2⟩ : ∃ w0 : World, w0 = wc := ⟨_, rfl⟩
    rw [← hws2] at hPS hFR hBX ⊢
    clear hws2 HPS HFR HBX hnds hf3s hpps
    obtain ⟨wb, hwb⟩ : ∃ wb : World, ws2.setCell ⟨w.heap.size, 4, none⟩ (.pointer (some ⟨pp, 0, none⟩)) = wb := ⟨_, rfl⟩
    have hbx : wb.heap[w.heap.size]? = some (.cells (ndc pp kd off len data next child) 60 (0, 0)) := by rw [← hwb]; exact blk_put hBX 4 _
    have hPb : PS wb pp db C B (.slice (some ⟨gb, 0, none⟩) k cap') ns g := by
      rw [← hwb]
      refine hPS.keeps (Below.heap_setCell ws2 ⟨w.heap.size, 4, none⟩ _ _ (by show pp ≠ w.heap.size; omega)) (Below.heap_setCell ws2 ⟨w.heap.size, 4, none⟩ _ _ (by show db ≠ w.heap.size; omega)) (fun k hk => ?_) (by rw [World.size_setCell]; exact Nat.le_refl _)
      have : gb = k := by simpa [Value.ownBlock] using hk
      exact Below.heap_setCell ws2 ⟨w.heap.size, 4, none⟩ _ _ (by show k ≠ w.heap.size; omega)
    have hFb : Fr w wb pp (.slice sp k cap) (.slice (some ⟨gb, 0, none⟩) k cap') := by
      rw [← hwb]
      exact ⟨hFR.os, hFR.tape, hFR.output, by rw [World.size_setCell]; exact hFR.size, fun b hb h1 h2 => (Below.heap_setCell ws2 ⟨w.heap.size, 4, none⟩ _ _ (by show b ≠ w.heap.size; omega)).trans (hFR.block b hb h1 h2), hFR.row⟩
    have c4 := cell_of_row ws2 _ 4 _ _ _ hBX
    have z4 : ws2.frozen? ⟨w.heap.size, 4, none⟩ = false := by simp [World.frozen?, hBX]
    simp at c4
    go_wp2_with fail
    try rw [hwb]
    have HPb := Lib.hid hPb
    have HFb := Lib.hid hFb
    have nb := hPb.nodes
    have fb := hPb.f3
    have hne2 : gb ≠ pp := fun e => hPb.ne2 (by rw [e]; rfl)
    have HNE2 := Lib.hid hne2
    have b0 := cell_of_row wb _ 0 _ _ _ hbx
    have b1 := cell_of_row wb _ 1 _ _ _ hbx
    have b2 := cell_of_row wb _ 2 _ _ _ hbx
    have b3 := cell_of_row wb _ 3 _ _ _ hbx
    have b4 := cell_of_row wb _ 4 _ _ _ hbx
    have b5 := cell_of_row wb _ 5 _ _ _ hbx
    have b6 := cell_of_row wb _ 6 _ _ _ hbx
    simp [ndc] at b0 b1 b2 b3 b4 b5 b6
    have hinb := hPb.in_heap.1
    have nb2 : (wb.drew.alloc (.cells (ndc pp kd off len data next child) 60)).cell? ⟨pp, 3, none⟩ = some (.slice (some ⟨gb, 0, none⟩) k cap') := (World.cell?_of_block (w := wb) ((World.grownBy_alloc wb.drew _ none).block pp hinb (by simp))).trans nb
    have hown := hPb.own
    rw [hk] at hown
    have HOWN := Lib.hid (World.ownsRow.alloc (World.ownsRow.drew hown) (.cells (ndc pp kd off len data next child) 60))
    clear hbx hwb hPb hown hne2 hFb hPS hFR hBX c4 z4
    go_region_law ((refine step_append_lies _ rfl (.tmp 49) (.tmp 51) 45 rfl 0 60 i0 (.agg #[.int .i64 0, .int .u32 0, .int .u32 0, .slice none 0 0, .pointer none, .int .i32 0, .int .i32 0]) 7 56 Tryz.u45 hi0 hz0 hz1 hz2 rfl (by decide) (.slice (some ⟨gb, 0, none⟩) k cap') k (arC pp ns) (by simp [Act.eval]) HOWN.out ⟨wb.heap.size, 0, none⟩ 1 1 [.int .i64 kd, .int .u32 off, .int .u32 len, data, .pointer (some ⟨pp, 0, none⟩), .int .i32 next, .int .i32 child] (by simp [Act.eval]) rfl (World.news_of_block (heap_alloc_new wb.drew _)) HONE.out (by decide) (by unfold maxLen; omega) (by omega) (Nat.zero_le _) _ rfl ?_)
                   intro g2 cap2 w4 hown4 hgrow4 hgl hgh
                   have hw4 : w4.heap[pp]? = wb.heap[pp]? := (hgrow4.block pp (by show pp < (wb.alloc _).heap.size; rw [World.size_alloc]; exact Nat.lt_succ_of_lt hinb) (fun e => HNE2.out (by simpa [Value.ownBlock] using e.symm))).trans ((World.grownBy_alloc wb.drew _ none).block pp hinb (by simp))
                   have n4 := (World.cell?_of_block (w := wb) (w' := w4) (a := ⟨pp, 3, none⟩) hw4).trans nb
                   have f4 := (World.frozen?_of_block (w := wb) (w' := w4) (a := ⟨pp, 3, none⟩) hw4).trans fb
                   have HW4 := Lib.hid hw4
                   clear hw4)
    all_goals
      go_wp2_with fail
      go_ret
      exact push_end (x := ⟨kd, off, len, data, next, child⟩) HFb.out HPb.out hk hown4 hgrow4 hgl HW4.out hx rfl
end Go.Proofs.YtalmpddmhakdmaaGreat

/-
  Plain: values in the parser's row of nodes; how such a row may grow. Conditions: as each lemma states.
-/
namespace Go.Proofs.YtalmpddmhakdmaaGreat
open Go.RowKit

/-- A block that the parser writes no more. -/
def Sf (w : World) (pp : Nat) (nv : Value) (b : Nat) : Prop := b < w.heap.size ∧ b ≠ pp ∧ nv.ownBlock ≠ some b
theorem Fr.sf {w w' : World} {pp : Nat} {nv nv' : Value} (h : Fr w w' pp nv nv') {b : Nat} (hb : Sf w pp nv b) : Sf w' pp nv' b ∧ w'.heap[b]? = w.heap[b]? := by
  obtain ⟨h1, h2, h3⟩ := hb
  refine ⟨⟨Nat.lt_of_lt_of_le h1 h.size, h2, ?_⟩, h.block b h1 h2 h3⟩
  rcases h.row with e | e
  · rw [e]; exact h3
  · intro e2
    have := e b e2
    omega
/-- What a node tells lies in blocks that the parser writes no more: in its text's, or in one from a base on. -/
def DtN (base db : Nat) (w : World) (pp : Nat) (nv : Value) (v : Value) (t : List UInt8) : Prop := TxtAt (fun b => Sf w pp nv b ∧ (b = db ∨ base ≤ b)) w v t
theorem Fr.dtn {w w' : World} {base db pp : Nat} {nv nv' : Value} (h : Fr w w' pp nv nv') {v : Value} {t : List UInt8} (hv : DtN base db w pp nv v t) : DtN base db w' pp nv' v t := TxtAt.frame hv (fun _ hb => (h.sf hb.1).2) fun _ hb => ⟨(h.sf hb.1).1, hb.2⟩
theorem DtN.weak {base base' db : Nat} {w : World} {pp : Nat} {nv : Value} {v : Value} {t : List UInt8} (hv : DtN base db w pp nv v t) (h : base' ≤ base) : DtN base' db w pp nv v t := TxtAt.frame hv (fun _ _ => rfl) fun _ hb => ⟨hb.1, hb.2.elim .inl fun h' => .inr (Nat.le_trans h h')⟩
theorem DtN.box {base db b : Nat} {w : World} {pp : Nat} {nv : Value} {v : Value} {t : List UInt8} (hv : DtN base db w pp nv v t) (h : b < base) (hd : b ≠ db) (j : Nat) (u : Value) : DtN base db (w.setCell ⟨b, j, none⟩ u) pp nv v t :=
  TxtAt.frame hv (fun k hk => Below.heap_setCell w _ _ k (by
    rcases hk.2 with h' | h'
    · rw [h']; exact Ne.symm hd
    · show k ≠ b
      omega)) fun k hk => ⟨⟨by rw [World.size_setCell]; exact hk.1.1, hk.1.2⟩, hk.2⟩
/-- The parser's number of a kind of values. -/
def kdP (k : Int) : Int := if k = 0 then 8 else if k = 1 then 11 else if k = 2 then 10 else if k = 3 then 9 else if k = 4 then 15 else if k = 5 then 14 else if k = 6 then 12 else if k = 7 then 13 else if k = 8 then 6 else 7
/-- The nodes of a key, from a place on. -/
def KyN (M : Value → List UInt8 → Prop) (ns : List PN) : Nat → List (List UInt8) → Prop
  | _, [] => True
  | i, t :: ks => ∃ x, ns[i]? = some x ∧ x.kind = 2 ∧ M x.data t ∧ x.next = (if ks = [] then (0 : Int) else ((i + 2 : Nat) : Int)) ∧ KyN M ns (i + 1) ks
/-- Values one behind the other: where the first begins, where the last, where they end. -/
inductive ItN (V : Nat → Nat → Nd → Prop) (ns : List PN) : Nat → Nat → Nat → List Nd → Prop
  | one {lo hi : Nat} {v : Nd} {x : PN} : V lo hi v → ns[lo]? = some x → x.next = 0 → ItN V ns lo lo hi [v]
  | cons {lo mid l hi : Nat} {v : Nd} {x : PN} {vs : List Nd} : V lo mid v → ns[lo]? = some x → x.next = ((mid + 1 : Nat) : Int) → ItN V ns mid l hi vs → ItN V ns lo l hi (v :: vs)
def Nd.ks : Nd → List (List UInt8)
  | .mk _ _ _ ks => ks
/-- A key with its value. -/
def KvN (M : Value → List UInt8 → Prop) (V : Nat → Nat → Nd → Prop) (ns : List PN) (lo hi : Nat) (v : Nd) : Prop :=
  ∃ x y, ns[lo]? = some x ∧ x.kind = 5 ∧ KyN M ns (lo + 1) v.ks ∧ v.ks ≠ [] ∧ x.child = ((lo + 1 + v.ks.length + 1 : Nat) : Int) ∧ V (lo + 1 + v.ks.length) hi v ∧ ns[lo + 1 + v.ks.length]? = some y ∧ y.next = ((lo + 2 : Nat) : Int)
/-- The parts of a list or a table: where the first one's node is, if there is one. -/
def PtN (I : Nat → Nat → Nat → List Nd → Prop) (lo hi : Nat) (c : Int) (vs : List Nd) : Prop := (vs = [] ∧ hi = lo ∧ c = 0) ∨ (c = ((lo + 1 : Nat) : Int) ∧ ∃ l, I lo l hi vs)
/-- A value's nodes, from a place to another. -/
def VlN (M : Value → List UInt8 → Prop) (ns : List PN) : Nat → Nat → Nat → Nd → Prop
  | 0, _, _, _ => False
  | d + 1, lo, hi, .mk kind text items _ => ∃ x, ns[lo]? = some x ∧ x.kind = kdP kind ∧
      ((0 ≤ kind ∧ kind < 8 ∧ hi = lo + 1 ∧ M x.data text ∧ items = []) ∨
       (kind = 8 ∧ PtN (ItN (VlN M ns d) ns) (lo + 1) hi x.child items) ∨
       (kind = 9 ∧ PtN (ItN (KvN M (VlN M ns d) ns) ns) (lo + 1) hi x.child items))

/-- Two rows of nodes are alike: at a place but for what comes next. -/
def Al (ns ns' : List PN) (i : Nat) : Prop := ∀ x, ns[i]? = some x → ∃ x', ns'[i]? = some x' ∧ x'.kind = x.kind ∧ x'.data = x.data ∧ x'.child = x.child
theorem Al.of {ns ns' : List PN} {i : Nat} (h : ns'[i]? = ns[i]?) : Al ns ns' i := fun x hx => ⟨x, h.trans hx, rfl, rfl, rfl⟩
theorem KyN.same {M M' : Value → List UInt8 → Prop} (hM : ∀ v t, M v t → M' v t) {ns ns' : List PN} : ∀ {ks : List (List UInt8)} {i : Nat}, KyN M ns i ks → (∀ j, i ≤ j → j < i + ks.length → ns'[j]? = ns[j]?) → KyN M' ns' i ks
  | [], _, _, _ => trivial
  | t :: ks, i, h, hs => by
    obtain ⟨x, h1, h2, h3, h4, h5⟩ := h
    exact ⟨x, (hs i (Nat.le_refl _) (by simp)).trans h1, h2, hM _ _ h3, h4, KyN.same hM h5 fun j hj1 hj2 => hs j (by omega) (by simp; omega)⟩
theorem ItN.le {V : Nat → Nat → Nd → Prop} (hV : ∀ a b v, V a b v → a < b) {ns : List PN} {lo l hi : Nat} {vs : List Nd} (h : ItN V ns lo l hi vs) : lo ≤ l ∧ l < hi := by
  induction h with
  | one h1 _ _ => exact ⟨Nat.le_refl _, hV _ _ _ h1⟩
  | cons h1 _ _ _ ih => have := hV _ _ _ h1; omega
theorem ItN.same {V V' : Nat → Nat → Nd → Prop} (hlt : ∀ a b v, V a b v → a < b) {ns ns' : List PN} {lo l hi : Nat} {vs : List Nd} (h : ItN V ns lo l hi vs) (hV : ∀ a b v, lo ≤ a → b ≤ hi → V a b v → V' a b v)
    (hs : ∀ j, lo ≤ j → j < hi → ns'[j]? = ns[j]?) : ItN V' ns' lo l hi vs := by
  induction h with
  | one h1 h2 h3 => exact .one (hV _ _ _ (Nat.le_refl _) (Nat.le_refl _) h1) ((hs _ (Nat.le_refl _) (hlt _ _ _ h1)).trans h2) h3
  | cons h1 h2 h3 h4 ih =>
    have hl := h4.le hlt
    have h5 := hlt _ _ _ h1
    exact .cons (hV _ _ _ (Nat.le_refl _) (by omega) h1) ((hs _ (Nat.le_refl _) (by omega)).trans h2) h3 (ih (fun a b v ha hb => hV a b v (by omega) hb) fun j hj1 hj2 => hs j (by omega) hj2)
theorem VlN.lt {M : Value → List UInt8 → Prop} {ns : List PN} : ∀ {d lo hi : Nat} {v : Nd}, VlN M ns d lo hi v → lo < hi
  | 0, _, _, _, h => h.elim
  | d + 1, lo, hi, .mk kind text items _, h => by
    obtain ⟨x, _, _, h | ⟨_, h⟩ | ⟨_, h⟩⟩ := h
    · omega
    · rcases h with ⟨_, h, _⟩ | ⟨_, l, h⟩
      · omega
      · have := h.le fun a b v => VlN.lt
        omega
    · rcases h with ⟨_, h, _⟩ | ⟨_, l, h⟩
      · omega
      · have := h.le fun a b v (hv : KvN M (VlN M ns d) ns a b v) => by
          obtain ⟨_, _, _, _, _, _, _, h, _⟩ := hv
          have := VlN.lt h
          omega
        omega
theorem KvN.lt {M : Value → List UInt8 → Prop} {ns : List PN} {d a b : Nat} {v : Nd} (hv : KvN M (VlN M ns d) ns a b v) : a < b := by
  obtain ⟨_, _, _, _, _, _, _, h, _⟩ := hv
  have := VlN.lt h
  omega
theorem KvN.same {M M' : Value → List UInt8 → Prop} (hM : ∀ v t, M v t → M' v t) {V V' : Nat → Nat → Nd → Prop} {ns ns' : List PN} {lo hi : Nat} {v : Nd} (hlt : ∀ a b v, V a b v → a < b) (h : KvN M V ns lo hi v)
    (hV : ∀ a, lo < a → V a hi v → V' a hi v) (ha : Al ns ns' lo) (hs : ∀ j, lo < j → j < hi → ns'[j]? = ns[j]?) : KvN M' V' ns' lo hi v := by
  obtain ⟨x, y, h1, h2, h3, h4, h5, h6, h7, h8⟩ := h
  obtain ⟨x', g1, g2, g3, g4⟩ := ha x h1
  have hl := hlt _ _ _ h6
  exact ⟨x', y, g1, g2.trans h2, h3.same hM fun j hj1 hj2 => hs j (by omega) (by omega), h4, g4.trans h5, hV _ (by omega) h6, (hs _ (by omega) hl).trans h7, h8⟩
theorem VlN.same {M M' : Value → List UInt8 → Prop} (hM : ∀ v t, M v t → M' v t) {ns ns' : List PN} : ∀ {d lo hi : Nat} {v : Nd}, VlN M ns d lo hi v → Al ns ns' lo → (∀ j, lo < j → j < hi → ns'[j]? = ns[j]?) → VlN M' ns' d lo hi v
  | 0, _, _, _, h, _, _ => h.elim
  | d + 1, lo, hi, .mk kind text items _, h, ha, hs => by
    obtain ⟨x, h1, h2, h3⟩ := h
    obtain ⟨x', g1, g2, g3, g4⟩ := ha x h1
    refine ⟨x', g1, g2.trans h2, ?_⟩
    rw [g3, g4]
    have hv : ∀ a b v, lo + 1 ≤ a → b ≤ hi → VlN M ns d a b v → VlN M' ns' d a b v := fun a b v h4 h5 h6 => by
      have := VlN.lt h6
      exact VlN.same hM h6 (.of (hs a (by omega) (by omega))) fun j hj1 hj2 => hs j (by omega) (by omega)
    rcases h3 with ⟨k1, k2, k3, k4, k5⟩ | ⟨k1, h3⟩ | ⟨k1, h3⟩
    · exact .inl ⟨k1, k2, k3, hM _ _ k4, k5⟩
    · refine .inr (.inl ⟨k1, ?_⟩)
      rcases h3 with h3 | ⟨h3, l, h4⟩
      · exact .inl h3
      · exact .inr ⟨h3, l, h4.same (fun _ _ _ => VlN.lt) hv fun j hj1 hj2 => hs j (by omega) hj2⟩
    · refine .inr (.inr ⟨k1, ?_⟩)
      rcases h3 with h3 | ⟨h3, l, h4⟩
      · exact .inl h3
      · refine .inr ⟨h3, l, h4.same (fun _ _ _ => KvN.lt) (fun a b v h5 h6 h7 => ?_) fun j hj1 hj2 => hs j (by omega) hj2⟩
        have := KvN.lt h7
        exact h7.same hM (fun _ _ _ => VlN.lt) (fun a' h8 => hv a' b v (by omega) h6) (.of (hs a (by omega) (by omega))) fun j hj1 hj2 => hs j (by omega) (by omega)
/-- One more value behind the others: the last one's node is told where it is. -/
theorem ItN.snoc {V V' : Nat → Nat → Nd → Prop} (hlt : ∀ a b v, V a b v → a < b) {ns ns' : List PN} {lo l mid hi : Nat} {vs : List Nd} {v : Nd} (h : ItN V ns lo l mid vs) (hV : ∀ a b v, lo ≤ a → b ≤ mid → b ≤ l ∨ a = l → V a b v → V' a b v)
    (hs : ∀ j, lo ≤ j → j < mid → j ≠ l → ns'[j]? = ns[j]?) {x : PN} (hl : ns'[l]? = some x) (hx : x.next = ((mid + 1 : Nat) : Int)) (hv : V' mid hi v) {y : PN} (hy : ns'[mid]? = some y) (hy0 : y.next = 0) : ItN V' ns' lo mid hi (vs ++ [v]) := by
  induction h with
  | one h1 _ _ => exact .cons (hV _ _ _ (Nat.le_refl _) (Nat.le_refl _) (.inr rfl) h1) hl hx (.one hv hy hy0)
  | cons h1 h2 h3 h4 ih =>
    have g1 := h4.le hlt
    have g2 := hlt _ _ _ h1
    refine .cons (hV _ _ _ (Nat.le_refl _) (by omega) (.inl (by omega)) h1) ((hs _ (Nat.le_refl _) (by omega) (by omega)).trans h2) h3 (ih (fun a b v ha hb => hV a b v (by omega) hb) (fun j hj1 hj2 => hs j (by omega) hj2) hl hx hv hy)
end Go.Proofs.YtalmpddmhakdmaaGreat

/-
  The walk of a function of the parser: a text in one line, in double quotes. Conditions: the text lies in memory as stated.
-/
namespace Go.Proofs.YtalmpddmhakdmaaGreat
open Go.RowKit

set_option maxRecDepth 100000 in
set_option maxHeartbeats 4000000 in
theorem basic_any {w : World} {db C : Nat} {B : List UInt8} {o n m j : Nat} {t : List UInt8} (pv : Value) (hD : Dt w db B) (h1 : o + n = B.length) (h2 : n ≤ m) (h3 : o + m = C) (hr : TxR 34 B (o + 1) j t) :
    Calls Tryz.prog 74 #[pv, .slice (some ⟨db, o, none⟩) n m] w (ScP db C B j t w) := by
  have ho : o + 1 < B.length := hr.in
  have HD := Lib.hid (fun q => hD.drewN q)
  have HR := Lib.hid (Trk.start (B := B) (R := fun i u => TxR 34 B i j u) hr)
  have hl := hD.len
  clear hD hr
  go_enter Tryz.func74, Tryz.ntmps74
  go_wp2_with fail
  go_loopw [8] (fun v wr => ∃ y q : Nat, v = .int .i64 y ∧ wr = w.drewN q ∧ 1 ≤ y ∧ Trk B (fun i u => TxR 34 B i j u) (o + 1) (o + y) t ∧ y ≤ n) (fun v _ => B.length - (intOf v).toNat)
  case atStart => exact ⟨1, 0, rfl, rfl, Nat.le_refl _, HR.out, by omega⟩
  case round =>
    obtain ⟨y0, q0, rfl, rfl, hy1, hy, hyn⟩ := hrel
    have HY := Lib.hid hy
    clear hy HR
    go_upto_block 2 with fail
    go_cut [8] (fun v wx => ∃ y q : Nat, v = .int .i64 y ∧ wx = w.drewN q ∧ Trk B (fun i u => TxR 34 B i j u) (o + 1) (o + y) t ∧ y ≤ n ∧ y0 ≤ y)
    case first =>
      go_wp2_with fail
      go_loopw [8] (fun v wr => ∃ y q : Nat, v = .int .i64 y ∧ wr = w.drewN q ∧ Trk B (fun i u => TxR 34 B i j u) (o + 1) (o + y) t ∧ y ≤ n ∧ y0 ≤ y) (fun v _ => B.length - (intOf v).toNat)
      case atStart => exact ⟨y0, q0, rfl, rfl, HY.out, hyn, Nat.le_refl _⟩
      case round =>
        obtain ⟨y2, q2, rfl, rfl, hy2, hyn2, hyy⟩ := hrel
        have HY2 := Lib.hid hy2
        clear hy2 HY
        by_cases h8 : y2 + 8 ≤ n
        · have hmy : ¬ m = y2 := by omega
          have HLE := Lib.hid (fun (a b : Nat) (hb : 8 ≤ a) => le_B (HD.out q2) (o + y2) a b (by omega) hb)
          obtain ⟨W, hW⟩ : ∃ W : Int, ((octB B (o + y2)).word : Int) = W := ⟨_, rfl⟩
          rw [hW] at HLE
          have HBE := Lib.hid (fun (V : World) => below_any V W 32)
          have HEQ34 := Lib.hid (fun (V : World) => equal_any V W 34)
          have HEQ92 := Lib.hid (fun (V : World) => equal_any V W 92)
          have HEQ127 := Lib.hid (fun (V : World) => equal_any V W 127)
          have HW := Lib.hid hW
          clear hW
          go_wp2_with fail
          with_reducible refine (HLE.out _ _ (by omega)).mono ?_
          rintro e w' ⟨rfl, q3, rfl⟩
          go_wp2_with fail
          with_reducible refine (HBE.out _).mono ?_
          rintro e w' ⟨rfl, rfl⟩
          go_wp2_with fail
          with_reducible refine (HEQ34.out _).mono ?_
          rintro e w' ⟨rfl, rfl⟩
          go_wp2_with fail
          with_reducible refine (HEQ92.out _).mono ?_
          rintro e w' ⟨rfl, rfl⟩
          go_wp2_with fail
          with_reducible refine (HEQ127.out _).mono ?_
          rintro e w' ⟨rfl, rfl⟩
          by_cases ht : tst5 W 34 92 = 0
          · have t1 : (bits BinOp.or IntKind.u64 (bits BinOp.or IntKind.u64 (bits BinOp.or IntKind.u64 (bits BinOp.or IntKind.u64 (bits BinOp.and IntKind.u64 W 9259542123273814144) (belowW W 32)) (equalW W 34)) (equalW W 92)) (equalW W 127) != 0) = false := by simpa [tst5] using ht
            have HT := Lib.hid (tst5_zero (octB B (o + y2)) 34 92 (by decide) (by decide) (by rw [HW.out]; exact ht))
            clear ht
            go_wp2_with fail
            exact ⟨⟨y2 + 8, q2 + q3, rfl, rfl, HY2.out.go fun u hu => hu.eight fun k hk => by
                have h1 := oct_at HT.out k hk
                refine ⟨h1.1, h1.2.1, fun e => ?_, fun e => ?_⟩
                · rw [e] at h1; revert h1; decide
                · rw [e.1] at h1; revert h1; decide, h8, by omega⟩, by show B.length - (intOf (.int .i64 ((y2 : Int) + 8 : Int))).toNat < B.length - (intOf (.int .i64 (y2 : Int))).toNat; simp only [intOf]; omega⟩
          · have t1 : (bits BinOp.or IntKind.u64 (bits BinOp.or IntKind.u64 (bits BinOp.or IntKind.u64 (bits BinOp.or IntKind.u64 (bits BinOp.and IntKind.u64 W 9259542123273814144) (belowW W 32)) (equalW W 34)) (equalW W 92)) (equalW W 127) != 0) = true := by simpa [tst5] using ht
            clear ht
            go_wp2_with fail
            go_meet
            exact ⟨y2, q2 + q3, rfl, rfl, HY2.out, hyn2, hyy⟩
        · go_wp2_with fail
          go_meet
          exact ⟨y2, q2, rfl, rfl, HY2.out, hyn2, hyy⟩
    case rest =>
      clear HY hyn
      obtain ⟨y, q, rfl, rfl, hy, hyn, hyy⟩ := hcut
      have hin : o + y < B.length := by
        obtain ⟨_, u, hu, _⟩ := hy
        exact hu.in
      have HY := Lib.hid hy
      have hyn' : y < n := by omega
      have hc := (HD.out q).pk hin
      clear hy hyn
      by_cases hqq : pk B (o + y) = 34
      · have hfin : j = o + y + 1 ∧ t = cutB B (o + 1) (y - 1) := by
          obtain ⟨_, u, hu, ht⟩ := HY.out
          have he := hu.end hqq
          rw [he.2, List.append_nil] at ht
          exact ⟨he.1, by rw [ht]; congr 1; omega⟩
        obtain ⟨rfl, ht⟩ := hfin
        have HT := Lib.hid ht
        have t1 := byte_eq hqq (n := 34) rfl
        have hyn2 : y + 1 ≤ n := by omega
        have hy1' : 1 ≤ y := by omega
        clear HY ht
        generalize pk B (o + y) = c at *
        go_wp2_with fail
        go_quiet (fail)
        all_goals go_wp2_with fail
        all_goals
          (try simp only [Exit.inBlock, Exit.then])
          refine bodyPost_ret (results_tmp4 rfl _ _ _) rfl ?_
          have htx := fun c' => TxtAt.piece (HD.out (q + nq)) (fun b => b = db ∨ (w.heap.size ≤ b ∧ b < (w.drewN (q + nq)).heap.size)) (.inl rfl) (o + 1) (y - 1) c' (by omega)
          rw [← HT.out] at htx
          exact ScP.mk _ _ _ rfl ⟨_, _, _, o, rfl, by omega, by omega⟩ (htx _) ⟨_, _, _, rfl, by omega, by omega, by omega, by omega⟩ (grown_drewN w (q + nq))
      · have t1 := byte_ne hqq (n := 34) rfl
        by_cases h92 : pk B (o + y) = 92
        · have t92 := byte_eq h92 (n := 92) rfl
          have HES := Lib.hid (escaped_any (j := j) pv (HD.out q) h1 h2 h3 (by omega) hyn' HY.out)
          clear h92 hqq HY
          generalize pk B (o + y) = c at *
          go_wp2_with fail
          with_reducible refine HES.out.mono ?_
          rintro e w' ⟨raw, val, rest, rfl, hraw, hval, hrest, hgr⟩
          have HRAW := Lib.hid hraw
          have HVAL := Lib.hid hval
          have HREST := Lib.hid hrest
          have HGR := Lib.hid hgr
          clear hraw hval hrest hgr
          go_wp2_with fail
          (try simp only [Exit.inBlock, Exit.then])
          refine bodyPost_ret (results_tmp4 rfl _ _ _) rfl ?_
          exact ScP.mk _ _ _ rfl HRAW.out HVAL.out HREST.out (gtrans (grown_drewN w q) HGR.out)
        · have t92 := byte_ne h92 (n := 92) rfl
          obtain ⟨hsg, hst⟩ : 0 < sgN B (o + y) ∧ True := by
            obtain ⟨_, u, hu, _⟩ := HY.out
            exact ⟨(hu.step hqq (fun e => h92 e.1)).1, trivial⟩
          clear hst
          by_cases hhi : 128 ≤ (pk B (o + y)).toNat
          · obtain ⟨k, hk1, hk2⟩ : ∃ k, Rn B (o + y) k ∧ Trk B (fun i u => TxR 34 B i j u) (o + 1) k t := by
              obtain ⟨h0, u, hu, ht⟩ := HY.out
              obtain ⟨k, g1, _⟩ := hu.run (by decide)
              refine ⟨k, g1, ?_⟩
              have hle := g1.lt.1
              have := Trk.go (n := k - (o + y)) HY.out fun u hu => by
                obtain ⟨k', g1', u', g2', g3'⟩ := hu.run (by decide)
                have : k' = k := Rn.uniq g1' g1
                subst this
                exact ⟨u', g2', by rwa [show o + y + (k' - (o + y)) = k' by omega]⟩
              rwa [show o + y + (k - (o + y)) = k by omega] at this
            have hk5 := hk1.lt.2.2 hin hhi
            have hk4 := hk1.lt.2.1
            have HRUN := Lib.hid (run_any (m := m) (HD.out q) h1 hk1)
            have HK := Lib.hid hk2
            clear hk1 hk2 HY hsg hqq
            generalize pk B (o + y) = c at *
            have t9 : ((c.toNat : Int) == 9) = false := by simp; omega
            have t10 : ((c.toNat : Int) == 10) = false := by simp; omega
            have t13 : ((c.toNat : Int) == 13) = false := by simp; omega
            go_wp2_with fail
            with_reducible refine HRUN.out.mono ?_
            rintro e w' ⟨⟨y3, rfl, hy3⟩, rfl⟩
            subst hy3
            go_wp2_with fail
            exact ⟨⟨y3, q, rfl, rfl, by omega, HK.out, by omega⟩, by show B.length - (intOf (.int .i64 (y3 : Int))).toNat < B.length - (intOf (.int .i64 (y0 : Int))).toNat; simp only [intOf]; omega⟩
          · have hpl := (sgN_cases hsg).resolve_right hhi
            have HK := Lib.hid (HY.out.go (n := 1) fun u hu => hu.plain hqq (fun e => h92 e.1) hpl)
            clear HY hsg
            by_cases h9 : pk B (o + y) = 9
            · have t9 := byte_eq h9 (n := 9) rfl
              have l32 : ¬ 32 ≤ ((pk B (o + y)).toNat : Int) := by rw [h9]; decide
              clear h9 hpl hhi hqq
              generalize pk B (o + y) = c at *
              go_wp2_with fail
              exact ⟨⟨y + 1, q, rfl, rfl, by omega, HK.out, by omega⟩, by show B.length - (intOf (.int .i64 ((y : Int) + 1 : Int))).toNat < B.length - (intOf (.int .i64 (y0 : Int))).toNat; simp only [intOf]; omega⟩
            · have hb := hpl.resolve_left h9
              clear h9 hpl hhi hqq
              generalize pk B (o + y) = c at *
              go_wp2_with fail
              exact ⟨⟨y + 1, q, rfl, rfl, by omega, HK.out, by omega⟩, by show B.length - (intOf (.int .i64 ((y : Int) + 1 : Int))).toNat < B.length - (intOf (.int .i64 (y0 : Int))).toNat; simp only [intOf]; omega⟩

end Go.Proofs.YtalmpddmhakdmaaGreat
