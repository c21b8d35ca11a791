/-
  The walk of a function of the spec: a document. Conditions: as stated.
-/
import Derived.Test.YtalmpddmhakdmaaGreatCJ31
namespace Go.Proofs.YtalmpddmhakdmaaGreat
open Go.RowKit

theorem Tryz.info40 : (Tryz.prog.info? 40).map (fun i => (i.zero, i.size, i.bytes)) = some (some (.agg #[.int .i64 0, .slice none 0 0, .int .i64 0, .string ⟨#[]⟩, .slice none 0 0, .slice none 0 0]), 6, 104) := by kernel_rfl
theorem Tryz.u23 : Tryz.prog.underlying 23 = some (.slice 40) := by kernel_rfl
theorem lit_cell40 (W : World) (n : Nat) (hW : W.heap.size = n) (v0 v1 v2 v3 v4 v5 : Value) : ∀ j u, [v0, v1, v2, v3, v4, v5][j]? = some u → (W.alloc (.cells #[v0, v1, v2, v3, v4, v5] 40)).cell? ((⟨n, 0, none⟩ : Addr).add j) = some u := by
  subst hW
  intro j u hj
  have e : (⟨W.heap.size, 0, none⟩ : Addr).add j = ⟨W.heap.size, j, none⟩ := by unfold Addr.add; split <;> simp_all
  rw [e, cell_marked]
  match j, hj with
  | 0, hj => cases hj; rfl
  | 1, hj => cases hj; rfl
  | 2, hj => cases hj; rfl
  | 3, hj => cases hj; rfl
  | 4, hj => cases hj; rfl
  | 5, hj => cases hj; rfl
theorem ex_one (k kd : Int) (s : ByteArray) (p0 p1 p2 : Option Addr) (n0 q0 n1 q1 n2 q2 : Nat) : ∀ u ∈ [Value.int .i64 k, .slice p0 n0 q0, .int .i64 kd, .string s, .slice p1 n1 q1, .slice p2 n2 q2], u.oneCell' = true := by
  intro u hu
  simp at hu
  rcases hu with rfl | rfl | rfl | rfl | rfl | rfl <;> rfl

/-- What the reading of a document leaves. -/
def DPost (B : List UInt8) (w : World) (e : Ending) (w' : World) : Prop :=
  ∃ (v : Value) (st : Int), e = .returned (.tuple #[v, .int .i64 st]) ∧ w.grownBy w' none ∧ (st = 0 → ∃ es, DocR B 0 es ∧ ∃ P : Nat → Prop, (∀ b, P b → w.heap.size ≤ b ∧ b < w'.heap.size) ∧ ExsAt P w' v es)
theorem DPost.mk {B : List UInt8} {w : World} {e : Ending} {w' : World} (v : Value) (st : Int) (h : e = .returned (.tuple #[v, .int .i64 st])) (hg : w.grownBy w' none) (hr : st = 0 → ∃ es, DocR B 0 es ∧ ∃ P : Nat → Prop, (∀ b, P b → w.heap.size ≤ b ∧ b < w'.heap.size) ∧ ExsAt P w' v es) : DPost B w e w' := ⟨v, st, h, hg, hr⟩
/-- What holds at the head of the loop. -/
def DcInv (B : List UInt8) (a : Addr) (C : Nat) (w : World) (v : Value) (wr : World) : Prop :=
  ∃ (i n : Nat) (p : Option Addr) (c : Nat) (cs : List Value), v = .slice p n c ∧ SP wr w.heap.size a C B i 0 ∧ Gr w wr w.heap.size ∧ i ≤ B.length ∧ EL (w.heap.size + 1) v n cs (DcRel B i) wr 0
/-- .. behind an expression. -/
def DcBe (B : List UInt8) (a : Addr) (C : Nat) (w : World) (i : Nat) (v : Value) (wx : World) : Prop :=
  ∃ (j n : Nat) (s : Int) (p : Option Addr) (c : Nat) (cs : List Value), v = .slice p n c ∧ SP wx w.heap.size a C B j s ∧ Gr w wx w.heap.size ∧ i ≤ j ∧ (s = 0 → j ≤ B.length) ∧ EL (w.heap.size + 1) v n cs (DcMid B j) wx s
theorem Gr.none {w w' : World} (h : Gr w w' w.heap.size) : w.grownBy w' none :=
  ⟨h.os, h.tape, h.output, h.size, fun k hk _ => h.block k hk (fun e => by cases e; omega)⟩
theorem SP.start {w : World} {a : Addr} {C : Nat} {B : List UInt8} (hB : B ≠ []) (hl : B.length ≤ 65536) (hC : B.length ≤ C) (hd : ∀ i c, B[i]? = some c → w.cell? (a.add i) = some (.int .u8 (c.toNat : Int))) :
    SP (w.alloc (.cells #[.slice (some a) B.length C, .int .i64 0, .int .i64 0] 33)) w.heap.size a C B 0 0 := by
  have hlt : a.block < w.heap.size := by
    obtain ⟨c, l, rfl⟩ := List.exists_cons_of_ne_nil hB
    have := cell_lt (hd 0 c rfl)
    rwa [add_block] at this
  refine ⟨?_, ?_, ?_, ?_, ?_, by omega, hl, by omega, hC, fun i c hi => ?_⟩
  · rw [cell_marked]; rfl
  · rw [cell_marked]; rfl
  · rw [cell_marked]; rfl
  · exact blk_frozen (heap_alloc_new _ _) _
  · exact blk_frozen (heap_alloc_new _ _) _
  · exact (World.cell?_of_block (w := w) ((World.grownBy_alloc w _ none).block _ (by rw [add_block]; exact hlt) (by simp))).trans (hd i c hi)
theorem EL.start (W : World) (base : Nat) (hb : W.heap.size = base) {Q : List Ex → Prop} (hq : Q []) : EL base (.slice (some ⟨base, 0, none⟩) 0 0) 0 [] Q (W.alloc (.cells #[] 40)) 0 := by
  have h := World.ownsRow_made (base := base) (e := 40) (size := 6) W #[] 0 (by omega) (by decide) rfl
  rw [hb] at h
  exact ⟨h, fun _ => ⟨[], fun _ => False, rfl, ERow.nil _ _, fun _ h => h.elim, hq⟩⟩
/-- The block of an expression that is made. -/
def EB (w : World) (eb : Nat) (l : Array Value) : Prop := w.heap[eb]? = some (.cells l 40 (0, 0))
theorem EB.fresh (W : World) (b : Nat) (hb : W.heap.size = b) (l : Array Value) : EB (W.alloc (.cells l 40)) b l := by
  subst hb
  exact heap_alloc_new _ _
theorem EB.lt {w : World} {eb : Nat} {l : Array Value} (h : EB w eb l) : eb < w.heap.size := by
  unfold EB at h
  rcases Nat.lt_or_ge eb w.heap.size with h1 | h1
  · exact h1
  · rw [Array.getElem?_eq_none h1] at h
    cases h
theorem EB.gr {w w' : World} {eb pb : Nat} {l : Array Value} (h : EB w eb l) (hg : Gr w w' pb) (hp : eb ≠ pb) : EB w' eb l :=
  (hg.block eb h.lt (fun e => hp (by cases e; rfl))).trans h
theorem EB.cell {w : World} {eb : Nat} {l : Array Value} (h : EB w eb l) (j : Nat) : w.cell? ⟨eb, j, none⟩ = l[j]? := blk_cell h j
theorem EB.frozen {w : World} {eb : Nat} {l : Array Value} (h : EB w eb l) (j : Nat) : w.frozen? ⟨eb, j, none⟩ = false := blk_frozen h j
theorem EB.put {w : World} {eb : Nat} {l : Array Value} (h : EB w eb l) (j : Nat) (v : Value) : EB (w.setCell ⟨eb, j, none⟩ v) eb (l.setIfInBounds j v) := by
  unfold EB at h ⊢
  show (w.heap.modify eb _)[eb]? = _
  rw [Array.getElem?_modify, if_pos rfl, h]
  rfl
/-- .. where a cell is set in a block that was made since. -/
theorem EL.putNew {base n pb : Nat} {v : Value} {cs : List Value} {Q : List Ex → Prop} {w0 w : World} {s : Int} (h0 : EL base v n cs Q w0 s) (hg : Gr w0 w pb) (hp : pb < base) (p : Addr) (hpp : w0.heap.size ≤ p.block) (u : Value) : EL base v n cs Q (w.setCell p u) s :=
  h0.gr (hg.setNew p hpp u) hp
theorem ex_head {base0 base n0 : Nat} {N : Int} {w : World} {kv v : Value} {ks : List (List UInt8)} (hN : N ≠ 0) (ho : OwnS w base kv ks) (hb : n0 ≤ base) (h0 : base0 ≤ n0) (hv : ∀ b, v.ownBlock = some b → b < n0) (c0 c1 c2 c3 : Value) :
    ∃ P : Nat → Prop, (∀ b, P b → base0 ≤ b ∧ b < w.heap.size ∧ v.ownBlock ≠ some b) ∧ ExAt P w [.int .i64 N, kv, c0, c1, c2, c3] ⟨N, ks, Nd.none⟩ := by
  refine ⟨fun b => kv.ownBlock = some b, fun b hb' => ?_, kv, c0, c1, c2, c3, rfl, ho.reads _ fun _ h => h, fun h => absurd h hN⟩
  have h1 := World.ownsRow.lt ho b hb'
  exact ⟨by omega, h1.2, fun e => by have := hv b e; omega⟩
theorem ex_pair {base0 base n0 n1 eb : Nat} {w w' : World} {kv v : Value} {ks : List (List UInt8)} {c0 c1 c2 c3 : Value} {x : Nd} (ho : OwnS w' base kv ks) (hb : n0 ≤ base) (h0 : base0 ≤ n0) (hv : ∀ b, v.ownBlock = some b → b < n0)
    (hx : ∃ P : Nat → Prop, (∀ b, P b → n1 ≤ b ∧ b < w.heap.size) ∧ NdAt 51 P w [c0, c1, c2, c3] x) (h1 : eb < n1) (hn1 : n0 ≤ n1) (hw : ∀ b, b ≠ eb → w'.heap[b]? = w.heap[b]?) (hsz : w'.heap.size = w.heap.size) :
    ∃ P : Nat → Prop, (∀ b, P b → base0 ≤ b ∧ b < w'.heap.size ∧ v.ownBlock ≠ some b) ∧ ExAt P w' [.int .i64 0, kv, c0, c1, c2, c3] ⟨0, ks, x⟩ := by
  obtain ⟨P, hP, hN⟩ := hx
  refine ⟨fun b => P b ∨ kv.ownBlock = some b, fun b hb' => ?_, kv, c0, c1, c2, c3, rfl, ho.reads _ fun _ h => .inr h, fun _ => hN.frame (fun b hb' => hw b (by have := hP b hb'; omega)) fun _ h => .inl h⟩
  have hlt : n0 ≤ b ∧ b < w'.heap.size := by
    rcases hb' with h2 | h2
    · have := hP b h2
      omega
    · have := World.ownsRow.lt ho b h2
      omega
  exact ⟨by omega, hlt.2, fun e => by have := hv b e; omega⟩
theorem DcBe.mk {B : List UInt8} {a : Addr} {C : Nat} {w : World} {i : Nat} {v : Value} {wx : World} {j n : Nat} {s : Int} {p : Option Addr} {c : Nat} {cs : List Value} (h1 : v = .slice p n c) (h2 : SP wx w.heap.size a C B j s) (h3 : Gr w wx w.heap.size) (h4 : i ≤ j) (h5 : s = 0 → j ≤ B.length) (h6 : EL (w.heap.size + 1) v n cs (DcMid B j) wx s) : DcBe B a C w i v wx := ⟨j, n, s, p, c, cs, h1, h2, h3, h4, h5, h6⟩

set_option maxRecDepth 100000 in
set_option maxHeartbeats 8000000 in
theorem read_any {w : World} {a : Addr} {C : Nat} {B : List UInt8} (hB : B ≠ []) (hl : B.length ≤ 65536) (hC : B.length ≤ C) (hd : ∀ i c, B[i]? = some c → w.cell? (a.add i) = some (.int .u8 (c.toNat : Int))) :
    Calls Tryz.prog 4 #[.slice (some a) B.length C] w (DPost B w) := by
  have hlt0 : a.block < w.heap.size := by
    obtain ⟨c, l, rfl⟩ := List.exists_cons_of_ne_nil hB
    have := cell_lt (hd 0 c rfl)
    rwa [add_block] at this
  have HS := Lib.hid (SP.start hB hl hC hd)
  have hin : w.heap.size < w.heap.size + 1 ∧ (B ≠ [] → a.block < w.heap.size + 1) := ⟨Nat.lt_succ_self _, fun _ => by omega⟩
  have HB := Lib.hid hB
  obtain ⟨i0, hi0, hz0, hz10, hz20⟩ := info_parts Tryz.info40
  have HV := Lib.hid (fun (W : World) (k' : Nat) (hW : SP W w.heap.size a C B k' 0) (hk' : k' ≤ B.length) => show Calls Tryz.prog 12 #[.pointer (some ⟨w.heap.size, 0, none⟩), .int .i64 0] W (VLPost 51 w.heap.size a C B k' 0 W) from value_rd 51 (Nat.le_refl _) W _ a C B k' 0 0 hW hk' hB trivial (by decide))
  clear hB hC hd
  go_enter Tryz.func4, Tryz.ntmps4
  go_wp2_with fail
  go_loopw [5] (fun v wr => DcInv B a C w v wr) (fun _ wr => msr B w.heap.size wr)
  case atStart =>
    exact ⟨0, 0, _, _, [], rfl, HS.out.alloc _, ((Gr.refl w w.heap.size).alloc (.cells #[.slice (some a) B.length C, .int .i64 0, .int .i64 0] 33)).alloc (.cells #[] 40), Nat.zero_le _, EL.start _ _ (World.size_alloc _ _) (DcRel.first B)⟩
  case round =>
    obtain ⟨i, n, p, c, cs, rfl, hS, hG, hi', hE⟩ := hrel
    have HS1 := Lib.hid hS
    have HG1 := Lib.hid hG
    have HE1 := Lib.hid hE
    have hb1 := hS.b
    have hat1 := hS.at'
    have hst1 := hS.st'
    have hn : n ≤ i := by
      obtain ⟨es, P, h1, _, _, hq⟩ := hE.row rfl
      have := hq.2
      omega
    clear hS hG hE
    by_cases hlt : i < B.length
    · have tl : decide (i < B.length) = true := decide_eq_true hlt
      go_wp2_with fail
      go_quiet (fail)
      go_wp2_with fail
      refine (blanks_any (HS1.out.drewN nq)).mono ?_
      rintro e w1 ⟨rfl, hS1, hG1⟩
      have hg1 : Gr wr w1 w.heap.size := ((Gr.refl wr _).drewN nq).trans hG1
      obtain ⟨i1, hi1⟩ : ∃ i1, skp B i = i1 := ⟨_, rfl⟩
      have hki1 := skp_ge B i
      have hil1 := skp_le (B := B) (i := i) hi'
      rw [hi1] at hS1 hki1 hil1
      have HI1 := Lib.hid hi1
      have HSb := Lib.hid hS1
      have HGb := Lib.hid hg1
      obtain ⟨cc, hc⟩ : ∃ cc, pk B i1 = cc := ⟨_, rfl⟩
      have hp := peek_any hS1 0 i1 (by omega) (by omega)
      rw [hc] at hp
      have HP := Lib.hid hp
      have HC := Lib.hid hc
      clear hS1 hG1 hc hp hi1 hg1 hat1 hb1 hst1
      go_wp2_with fail
      with_reducible refine HP.out.mono ?_
      rintro e w' ⟨rfl, m1, rfl⟩
      obtain ⟨wz, hwz⟩ : ∃ wz, w1.drewN m1 = wz := ⟨_, rfl⟩
      rw [hwz]
      have hgz : Gr wr wz w.heap.size := hwz ▸ HGb.out.drewN m1
      have HSa := Lib.hid (hwz ▸ HSb.out.drewN m1 : SP wz w.heap.size a C B i1 0)
      have HGa := Lib.hid (HG1.out.trans hgz)
      have HEa := Lib.hid (HE1.out.gr hgz (Nat.lt_succ_self _))
      have hata := HSa.out.at'
      have hfa := HSa.out.f1
      have hba := HSa.out.b
      have hsa := HSa.out.st'
      have hpz : w.heap.size < wz.heap.size := cell_lt HSa.out.b
      clear HSb HGb hgz hwz
      go_upto_block 2 with fail
      go_cut [5, 7, 8, 9] from 14 to 137 (fun v _ _ _ wx => DcBe B a C w i v wx)
      case first =>
        by_cases h91 : cc = 91
        · have t91 := byte_eq h91 (n := 91) rfl
          have H91 := Lib.hid (HC.out.trans h91)
          have hlt1 : i1 < B.length := pk_in (by rw [HC.out, h91]; decide)
          clear h91
          go_wp2_with fail
          obtain ⟨d2, hd2⟩ : ∃ d2, pk B (i1 + 1) = d2 := ⟨_, rfl⟩
          have hS2 : SP ((wz.setCell ⟨w.heap.size, 1, none⟩ (.int .i64 ((i1 + 1 : Nat) : Int))).alloc (.cells #[.int .i64 1, .slice none 0 0, .int .i64 0, .string ⟨#[]⟩, .slice none 0 0, .slice none 0 0] 40)) w.heap.size a C B (i1 + 1) 0 := (HSa.out.setAt (i1 + 1) (by omega)).alloc _
          have hp2 := peek_any hS2 0 (i1 + 1) (by omega) (by omega)
          rw [hd2] at hp2
          have HP2 := Lib.hid hp2
          have HD2 := Lib.hid hd2
          have HS2 := Lib.hid hS2
          clear hS2 hp2 hd2
          refine HP2.out.mono ?_
          rintro e w' ⟨rfl, m2, rfl⟩
          obtain ⟨wy, hwy⟩ : ∃ wy : World, World.drewN ((wz.setCell ⟨w.heap.size, 1, none⟩ (.int .i64 ((i1 + 1 : Nat) : Int))).alloc (.cells #[.int .i64 1, .slice none 0 0, .int .i64 0, .string ⟨#[]⟩, .slice none 0 0, .slice none 0 0] 40)) m2 = wy := ⟨_, rfl⟩
          have hgy : Gr wz wy w.heap.size := hwy ▸ (((Gr.refl wz _).setCell 1 _).alloc _).drewN m2
          have hby : EB wy wz.heap.size #[.int .i64 1, .slice none 0 0, .int .i64 0, .string ⟨#[]⟩, .slice none 0 0, .slice none 0 0] := hwy ▸ EB.gr (EB.fresh _ _ (World.size_setCell ..) _) ((Gr.refl _ w.heap.size).drewN m2) (by omega)
          have HSy := Lib.hid (hwy ▸ HS2.out.drewN m2 : SP wy w.heap.size a C B (i1 + 1) 0)
          have HBy := Lib.hid hby
          have HGy := Lib.hid hgy
          rw [hwy]
          have hcy := HBy.out.cell 0
          have hfy := HBy.out.frozen 0
          have haty := HSy.out.at'
          have hf1y := HSy.out.f1
          clear hwy hgy hby HS2 hata hfa hba hsa
          by_cases h92 : d2 = 91
          · have t92 := byte_eq h92 (n := 91) rfl
            have H92 := Lib.hid (HD2.out.trans h92)
            have hlt2 : i1 + 1 < B.length := pk_in (by rw [HD2.out, h92]; decide)
            clear h92
            go_wp2_with fail
            obtain ⟨wx, hwx⟩ : ∃ wx : World, (wy.setCell ⟨wz.heap.size, 0, none⟩ (.int .i64 2)).setCell ⟨w.heap.size, 1, none⟩ (.int .i64 ((i1 : Int) + 1 + 1)) = wx := ⟨_, rfl⟩
            have hSx : SP wx w.heap.size a C B (i1 + 2) 0 := by rw [← hwx]; exact (HSy.out.setNew (base := w.heap.size + 1) _ (by show w.heap.size + 1 ≤ wz.heap.size; omega) hin.1 hin.2 _).setAt (i1 + 1 + 1) (by omega)
            have hGx : Gr wz wx w.heap.size := by rw [← hwx]; exact (HGy.out.setNew _ (Nat.le_refl _) _).setCell 1 _
            have hBx : EB wx wz.heap.size #[.int .i64 2, .slice none 0 0, .int .i64 0, .string ⟨#[]⟩, .slice none 0 0, .slice none 0 0] := by rw [← hwx]; exact (HBy.out.put 0 (.int .i64 2)).gr ((Gr.refl _ w.heap.size).setCell 1 _) (by omega)
            rw [hwx]
            have HSx := Lib.hid hSx
            have HGx := Lib.hid (HGa.out.trans hGx)
            have HGzx := Lib.hid hGx
            have HBx := Lib.hid hBx
            have HEx := Lib.hid (HEa.out.gr hGx (Nat.lt_succ_self _))
            have hszx : wz.heap.size < wx.heap.size := hBx.lt
            clear hSx hGx hBx hwx
            with_reducible refine (keys_any HSx.out (by omega)).mono ?_
            rintro e w3 ⟨kv, ks, rfl, hown3, i3, s3, hS3, hG3, hi3, hi3', hr3⟩
            obtain ⟨p5, n5, c5, rfl⟩ := hown3.form
            have HS3 := Lib.hid hS3
            have HG3 := Lib.hid (HGx.out.trans hG3)
            have HE3 := Lib.hid (HEx.out.gr hG3 (Nat.lt_succ_self _))
            have HB3 := Lib.hid (HBx.out.gr hG3 (by omega))
            have HR3 := Lib.hid hr3
            have HO3 := Lib.hid hown3
            have hcell3 := HB3.out.cell 1
            have hfr3 := HB3.out.frozen 1
            have hsz3 := hG3.size
            have hGx3 := HGzx.out.trans hG3
            clear hS3 hG3 hr3 hown3 hcy hfy haty hf1y
            go_upto_region 14 with fail
            obtain ⟨w4, hw4⟩ : ∃ w4 : World, w3.setCell ⟨wz.heap.size, 1, none⟩ (.slice p5 n5 c5) = w4 := ⟨_, rfl⟩
            have hE4 : EL (w.heap.size + 1) (.slice p n c) n cs (DcRel B i) w4 0 := by rw [← hw4]; exact HEa.out.putNew hGx3 (Nat.lt_succ_self _) _ (Nat.le_refl _) _
            have hG4 : Gr w w4 w.heap.size := by rw [← hw4]; exact HG3.out.setNew _ (by show w.heap.size ≤ wz.heap.size; omega) _
            have hS4 : SP w4 w.heap.size a C B i3 s3 := by rw [← hw4]; exact HS3.out.setNew (base := w.heap.size + 1) _ (by show w.heap.size + 1 ≤ wz.heap.size; omega) hin.1 hin.2 _
            have hB4 : EB w4 wz.heap.size #[.int .i64 2, .slice p5 n5 c5, .int .i64 0, .string ⟨#[]⟩, .slice none 0 0, .slice none 0 0] := by rw [← hw4]; exact HB3.out.put 1 _
            have hO4 : OwnS w4 wx.heap.size (.slice p5 n5 c5) ks := by rw [← hw4]; exact HO3.out.setCell _ hszx _
            have hsz4 : w4.heap.size = w3.heap.size := by rw [← hw4]; exact World.size_setCell ..
            rw [hw4]
            clear hGx3
            have HE4 := Lib.hid hE4
            have HG4 := Lib.hid hG4
            have HS4 := Lib.hid hS4
            have HB4 := Lib.hid hB4
            have HO4 := Lib.hid hO4
            have hst4 := hS4.st'
            have hat4 := hS4.at'
            have hf4 := hS4.f1
            clear hE4 hG4 hS4 hB4 hO4 hw4 hcell3 hfr3
            by_cases hs3 : s3 = 0
            · subst hs3
              have HKR := Lib.hid (HR3.out rfl).2
              clear HR3
              obtain ⟨bE, hbE⟩ : ∃ b, hasB B i3 ⟨#[93, 93]⟩ = b := ⟨_, rfl⟩
              have hx := has_in HS4.out ⟨#[93, 93]⟩ (by decide) (by decide)
              rw [hbE] at hx
              have HX := Lib.hid hx
              have HBE := Lib.hid hbE
              clear hx hbE
              cases bE with
              | true =>
                have hXb := hasB_get HBE.out
                have HX93 := Lib.hid (And.intro (show pk B i3 = 93 by have := hXb.2 0 (by decide); rwa [ByteArray.toList_mk] at this) (show pk B (i3 + 1) = 93 by have := hXb.2 1 (by decide); rwa [ByteArray.toList_mk] at this))
                have HXL := Lib.hid (show i3 + 2 ≤ B.length from hXb.1)
                clear hXb
                go_wp2_with fail
                with_reducible refine HX.out.mono ?_
                rintro e w' ⟨rfl, m4, rfl⟩
                go_upto_region 16 with fail
                obtain ⟨w5, hw5⟩ : ∃ w5 : World, w4.drewN m4 = w5 := ⟨_, rfl⟩
                obtain ⟨s5, hs5⟩ : ∃ s5 : Int, (0 : Int) = s5 := ⟨_, rfl⟩
                obtain ⟨j5, hj5⟩ : ∃ j5 : Nat, i3 = j5 := ⟨_, rfl⟩
                have hG45 : Gr w4 w5 w.heap.size := by rw [← hw5]; exact (Gr.refl w4 _).drewN m4
                have hS5 : SP w5 w.heap.size a C B j5 s5 := by rw [← hw5, ← hs5, ← hj5]; exact HS4.out.drewN m4
                have HQ5 := Lib.hid (show s5 = 0 → KyR B (i1 + 2) j5 ks ∧ pk B j5 = 93 ∧ pk B (j5 + 1) = 93 by rw [← hs5, ← hj5]; exact fun _ => ⟨HKR.out, HX93.out.1, HX93.out.2⟩)
                have HL5 := Lib.hid (show s5 = 0 → j5 + 2 ≤ B.length by rw [← hs5, ← hj5]; exact fun _ => HXL.out)
                have hjj : i1 + 2 ≤ j5 ∧ j5 ≤ B.length := by omega
                have HS5 := Lib.hid hS5
                have HG5 := Lib.hid (HG4.out.trans hG45)
                have HE5 := Lib.hid (HE4.out.gr hG45 (Nat.lt_succ_self _))
                have HB5 := Lib.hid (HB4.out.gr hG45 (by omega))
                have HO5 := Lib.hid (HO4.out.gr hG45 (by omega))
                rw [hw5]
                clear hG45 hS5 hw5 hs5 hj5 hst4 hat4 hf4
                have at5 := HS5.out.at'
                have f5 := HS5.out.f1
                have hsz5 : wz.heap.size < w5.heap.size := HB5.out.lt
                have e0 := HB5.out.cell 0
                have e1 := HB5.out.cell 1
                have e2 := HB5.out.cell 2
                have e3 := HB5.out.cell 3
                have e4 := HB5.out.cell 4
                have e5 := HB5.out.cell 5
                go_wp2_with (at_builtin; (refine wpList_append_lies _ rfl (.tmp 75) (.tmp 77) 23 rfl (w.heap.size + 1) 40 i0 (.agg #[.int .i64 0, .slice none 0 0, .int .i64 0, .string ⟨#[]⟩, .slice none 0 0, .slice none 0 0]) 6 104 Tryz.u23 hi0 hz0 hz10 hz20 rfl (by decide) (.slice p n c) n cs (by simp [Act.eval]) ((HE5.out.gr ((Gr.refl w5 w.heap.size).setCell 1 _) (Nat.lt_succ_self _)).own.alloc _) ⟨w5.heap.size, 0, none⟩ 1 1 [.int .i64 2, .slice p5 n5 c5, .int .i64 0, .string ⟨#[]⟩, .slice none 0 0, .slice none 0 0] (by simp [Act.eval]) rfl (lit_cell40 _ _ (World.size_setCell ..) _ _ _ _ _ _) (ex_one _ _ _ _ _ _ _ _ _ _ _ _) (by decide) (by unfold maxLen; omega) (by omega) (by simp; omega) _ rfl ?_); intro g cap w7 hown7 hgrow7 hgl hgh)
                go_meet
                have hE6 := HE5.out.gr ((Gr.refl w5 w.heap.size).setCell 1 (.int .i64 ((j5 + 2 : Nat) : Int))) (Nat.lt_succ_self _)
                exact DcBe.mk rfl (((HS5.out.setAt (j5 + 2) (by omega)).alloc _).grown hgrow7 (base := w.heap.size + 1) (fun k hk => hE6.owns k hk) hin.1 hin.2)
                  (((HG5.out.setCell 1 _).alloc _).grown hgrow7 (fun k hk => by have := hE6.owns k hk; omega)) (by omega) HL5.out
                  (hE6.app (Q' := DcMid B (j5 + 2)) (s' := s5) g cap rfl hown7 hgrow7 hgl rfl fun h => ⟨rfl, ⟨2, ks, Nd.none⟩, ex_head (by decide) (HO5.out.setCell _ (by show w.heap.size < wx.heap.size; omega) _) (Nat.le_of_lt hszx) (by omega) (fun b hb => (World.ownsRow.lt HEa.out.own b hb).2) _ _ _ _, fun es hq => by
                    have hQ := HQ5.out h
                    exact hq.heads hlt (by rw [HI1.out]; exact H91.out) (by rw [HI1.out]; exact H92.out) (by rw [HI1.out]; exact hQ.1) hQ.2.1 hQ.2.2 (by omega)⟩)
              | false =>
                go_wp2_with fail
                with_reducible refine HX.out.mono ?_
                rintro e w' ⟨rfl, m4, rfl⟩
                go_wp2_with fail
                with_reducible refine (fail_any (HS4.out.drewN m4)).mono ?_
                rintro e w8 ⟨rfl, hS8, hG8⟩
                obtain ⟨w5, hw5⟩ : ∃ w5 : World, w8 = w5 := ⟨_, rfl⟩
                obtain ⟨s5, hs5⟩ : ∃ s5 : Int, (if (0 : Int) = 0 then 1 else (0 : Int)) = s5 := ⟨_, rfl⟩
                obtain ⟨j5, hj5⟩ : ∃ j5 : Nat, B.length = j5 := ⟨_, rfl⟩
                have hG45 : Gr w4 w5 w.heap.size := by rw [← hw5]; exact ((Gr.refl w4 _).drewN m4).trans hG8
                have hS5 : SP w5 w.heap.size a C B j5 s5 := by rw [← hw5, ← hs5, ← hj5]; exact hS8
                have HQ5 := Lib.hid (show s5 = 0 → KyR B (i1 + 2) j5 ks ∧ pk B j5 = 93 ∧ pk B (j5 + 1) = 93 by rw [← hs5, ← hj5]; exact fun h => absurd h (bad_fail 0))
                have HL5 := Lib.hid (show s5 = 0 → j5 + 2 ≤ B.length by rw [← hs5, ← hj5]; exact fun h => absurd h (bad_fail 0))
                have hjj : i1 + 2 ≤ j5 ∧ j5 ≤ B.length := by omega
                have HS5 := Lib.hid hS5
                have HG5 := Lib.hid (HG4.out.trans hG45)
                have HE5 := Lib.hid (HE4.out.gr hG45 (Nat.lt_succ_self _))
                have HB5 := Lib.hid (HB4.out.gr hG45 (by omega))
                have HO5 := Lib.hid (HO4.out.gr hG45 (by omega))
                rw [hw5]
                clear hS8 hG8 hG45 hS5 hw5 hs5 hj5 hst4 hat4 hf4
                have at5 := HS5.out.at'
                have f5 := HS5.out.f1
                have hsz5 : wz.heap.size < w5.heap.size := HB5.out.lt
                have e0 := HB5.out.cell 0
                have e1 := HB5.out.cell 1
                have e2 := HB5.out.cell 2
                have e3 := HB5.out.cell 3
                have e4 := HB5.out.cell 4
                have e5 := HB5.out.cell 5
                go_wp2_with (at_builtin; (refine wpList_append_lies _ rfl (.tmp 75) (.tmp 77) 23 rfl (w.heap.size + 1) 40 i0 (.agg #[.int .i64 0, .slice none 0 0, .int .i64 0, .string ⟨#[]⟩, .slice none 0 0, .slice none 0 0]) 6 104 Tryz.u23 hi0 hz0 hz10 hz20 rfl (by decide) (.slice p n c) n cs (by simp [Act.eval]) ((HE5.out.gr ((Gr.refl w5 w.heap.size).setCell 1 _) (Nat.lt_succ_self _)).own.alloc _) ⟨w5.heap.size, 0, none⟩ 1 1 [.int .i64 2, .slice p5 n5 c5, .int .i64 0, .string ⟨#[]⟩, .slice none 0 0, .slice none 0 0] (by simp [Act.eval]) rfl (lit_cell40 _ _ (World.size_setCell ..) _ _ _ _ _ _) (ex_one _ _ _ _ _ _ _ _ _ _ _ _) (by decide) (by unfold maxLen; omega) (by omega) (by simp; omega) _ rfl ?_); intro g cap w7 hown7 hgrow7 hgl hgh)
                go_meet
                have hE6 := HE5.out.gr ((Gr.refl w5 w.heap.size).setCell 1 (.int .i64 ((j5 + 2 : Nat) : Int))) (Nat.lt_succ_self _)
                exact DcBe.mk rfl (((HS5.out.setAt (j5 + 2) (by omega)).alloc _).grown hgrow7 (base := w.heap.size + 1) (fun k hk => hE6.owns k hk) hin.1 hin.2)
                  (((HG5.out.setCell 1 _).alloc _).grown hgrow7 (fun k hk => by have := hE6.owns k hk; omega)) (by omega) HL5.out
                  (hE6.app (Q' := DcMid B (j5 + 2)) (s' := s5) g cap rfl hown7 hgrow7 hgl rfl fun h => ⟨rfl, ⟨2, ks, Nd.none⟩, ex_head (by decide) (HO5.out.setCell _ (by show w.heap.size < wx.heap.size; omega) _) (Nat.le_of_lt hszx) (by omega) (fun b hb => (World.ownsRow.lt HEa.out.own b hb).2) _ _ _ _, fun es hq => by
                    have hQ := HQ5.out h
                    exact hq.heads hlt (by rw [HI1.out]; exact H91.out) (by rw [HI1.out]; exact H92.out) (by rw [HI1.out]; exact hQ.1) hQ.2.1 hQ.2.2 (by omega)⟩)
            · have t0 : (s3 == 0) = false := by simpa using hs3
              go_upto_region 16 with fail
              obtain ⟨w5, hw5⟩ : ∃ w5 : World, w4 = w5 := ⟨_, rfl⟩
              obtain ⟨s5, hs5⟩ : ∃ s5 : Int, s3 = s5 := ⟨_, rfl⟩
              obtain ⟨j5, hj5⟩ : ∃ j5 : Nat, i3 = j5 := ⟨_, rfl⟩
              have hG45 : Gr w4 w5 w.heap.size := by rw [← hw5]; exact Gr.refl w4 _
              have hS5 : SP w5 w.heap.size a C B j5 s5 := by rw [← hw5, ← hs5, ← hj5]; exact HS4.out
              have HQ5 := Lib.hid (show s5 = 0 → KyR B (i1 + 2) j5 ks ∧ pk B j5 = 93 ∧ pk B (j5 + 1) = 93 by rw [← hs5, ← hj5]; exact fun h => absurd h hs3)
              have HL5 := Lib.hid (show s5 = 0 → j5 + 2 ≤ B.length by rw [← hs5, ← hj5]; exact fun h => absurd h hs3)
              have hjj : i1 + 2 ≤ j5 ∧ j5 ≤ B.length := by omega
              have HS5 := Lib.hid hS5
              have HG5 := Lib.hid (HG4.out.trans hG45)
              have HE5 := Lib.hid (HE4.out.gr hG45 (Nat.lt_succ_self _))
              have HB5 := Lib.hid (HB4.out.gr hG45 (by omega))
              have HO5 := Lib.hid (HO4.out.gr hG45 (by omega))
              rw [hw5]
              clear hG45 hS5 hw5 hs5 hj5 hst4 hat4 hf4
              have at5 := HS5.out.at'
              have f5 := HS5.out.f1
              have hsz5 : wz.heap.size < w5.heap.size := HB5.out.lt
              have e0 := HB5.out.cell 0
              have e1 := HB5.out.cell 1
              have e2 := HB5.out.cell 2
              have e3 := HB5.out.cell 3
              have e4 := HB5.out.cell 4
              have e5 := HB5.out.cell 5
              go_wp2_with (at_builtin; (refine wpList_append_lies _ rfl (.tmp 75) (.tmp 77) 23 rfl (w.heap.size + 1) 40 i0 (.agg #[.int .i64 0, .slice none 0 0, .int .i64 0, .string ⟨#[]⟩, .slice none 0 0, .slice none 0 0]) 6 104 Tryz.u23 hi0 hz0 hz10 hz20 rfl (by decide) (.slice p n c) n cs (by simp [Act.eval]) ((HE5.out.gr ((Gr.refl w5 w.heap.size).setCell 1 _) (Nat.lt_succ_self _)).own.alloc _) ⟨w5.heap.size, 0, none⟩ 1 1 [.int .i64 2, .slice p5 n5 c5, .int .i64 0, .string ⟨#[]⟩, .slice none 0 0, .slice none 0 0] (by simp [Act.eval]) rfl (lit_cell40 _ _ (World.size_setCell ..) _ _ _ _ _ _) (ex_one _ _ _ _ _ _ _ _ _ _ _ _) (by decide) (by unfold maxLen; omega) (by omega) (by simp; omega) _ rfl ?_); intro g cap w7 hown7 hgrow7 hgl hgh)
              go_meet
              have hE6 := HE5.out.gr ((Gr.refl w5 w.heap.size).setCell 1 (.int .i64 ((j5 + 2 : Nat) : Int))) (Nat.lt_succ_self _)
              exact DcBe.mk rfl (((HS5.out.setAt (j5 + 2) (by omega)).alloc _).grown hgrow7 (base := w.heap.size + 1) (fun k hk => hE6.owns k hk) hin.1 hin.2)
                (((HG5.out.setCell 1 _).alloc _).grown hgrow7 (fun k hk => by have := hE6.owns k hk; omega)) (by omega) HL5.out
                (hE6.app (Q' := DcMid B (j5 + 2)) (s' := s5) g cap rfl hown7 hgrow7 hgl rfl fun h => ⟨rfl, ⟨2, ks, Nd.none⟩, ex_head (by decide) (HO5.out.setCell _ (by show w.heap.size < wx.heap.size; omega) _) (Nat.le_of_lt hszx) (by omega) (fun b hb => (World.ownsRow.lt HEa.out.own b hb).2) _ _ _ _, fun es hq => by
                  have hQ := HQ5.out h
                  exact hq.heads hlt (by rw [HI1.out]; exact H91.out) (by rw [HI1.out]; exact H92.out) (by rw [HI1.out]; exact hQ.1) hQ.2.1 hQ.2.2 (by omega)⟩)
          · have t92 := byte_ne h92 (n := 91) rfl
            have H92 := Lib.hid (show pk B (i1 + 1) ≠ 91 by rw [HD2.out]; exact h92)
            clear h92
            go_wp2_with fail
            obtain ⟨wx, hwx⟩ : ∃ wx : World, wy = wx := ⟨_, rfl⟩
            have hSx : SP wx w.heap.size a C B (i1 + 1) 0 := by rw [← hwx]; exact HSy.out
            have hGx : Gr wz wx w.heap.size := by rw [← hwx]; exact HGy.out
            have hBx : EB wx wz.heap.size #[.int .i64 1, .slice none 0 0, .int .i64 0, .string ⟨#[]⟩, .slice none 0 0, .slice none 0 0] := by rw [← hwx]; exact HBy.out
            rw [hwx]
            have HSx := Lib.hid hSx
            have HGx := Lib.hid (HGa.out.trans hGx)
            have HGzx := Lib.hid hGx
            have HBx := Lib.hid hBx
            have HEx := Lib.hid (HEa.out.gr hGx (Nat.lt_succ_self _))
            have hszx : wz.heap.size < wx.heap.size := hBx.lt
            clear hSx hGx hBx hwx
            with_reducible refine (keys_any HSx.out (by omega)).mono ?_
            rintro e w3 ⟨kv, ks, rfl, hown3, i3, s3, hS3, hG3, hi3, hi3', hr3⟩
            obtain ⟨p5, n5, c5, rfl⟩ := hown3.form
            have HS3 := Lib.hid hS3
            have HG3 := Lib.hid (HGx.out.trans hG3)
            have HE3 := Lib.hid (HEx.out.gr hG3 (Nat.lt_succ_self _))
            have HB3 := Lib.hid (HBx.out.gr hG3 (by omega))
            have HR3 := Lib.hid hr3
            have HO3 := Lib.hid hown3
            have hcell3 := HB3.out.cell 1
            have hfr3 := HB3.out.frozen 1
            have hsz3 := hG3.size
            have hGx3 := HGzx.out.trans hG3
            clear hS3 hG3 hr3 hown3 hcy hfy haty hf1y
            go_upto_region 14 with fail
            obtain ⟨w4, hw4⟩ : ∃ w4 : World, w3.setCell ⟨wz.heap.size, 1, none⟩ (.slice p5 n5 c5) = w4 := ⟨_, rfl⟩
            have hE4 : EL (w.heap.size + 1) (.slice p n c) n cs (DcRel B i) w4 0 := by rw [← hw4]; exact HEa.out.putNew hGx3 (Nat.lt_succ_self _) _ (Nat.le_refl _) _
            have hG4 : Gr w w4 w.heap.size := by rw [← hw4]; exact HG3.out.setNew _ (by show w.heap.size ≤ wz.heap.size; omega) _
            have hS4 : SP w4 w.heap.size a C B i3 s3 := by rw [← hw4]; exact HS3.out.setNew (base := w.heap.size + 1) _ (by show w.heap.size + 1 ≤ wz.heap.size; omega) hin.1 hin.2 _
            have hB4 : EB w4 wz.heap.size #[.int .i64 1, .slice p5 n5 c5, .int .i64 0, .string ⟨#[]⟩, .slice none 0 0, .slice none 0 0] := by rw [← hw4]; exact HB3.out.put 1 _
            have hO4 : OwnS w4 wx.heap.size (.slice p5 n5 c5) ks := by rw [← hw4]; exact HO3.out.setCell _ hszx _
            have hsz4 : w4.heap.size = w3.heap.size := by rw [← hw4]; exact World.size_setCell ..
            rw [hw4]
            clear hGx3
            have HE4 := Lib.hid hE4
            have HG4 := Lib.hid hG4
            have HS4 := Lib.hid hS4
            have HB4 := Lib.hid hB4
            have HO4 := Lib.hid hO4
            have hst4 := hS4.st'
            have hat4 := hS4.at'
            have hf4 := hS4.f1
            clear hE4 hG4 hS4 hB4 hO4 hw4 hcell3 hfr3
            by_cases hs3 : s3 = 0
            · subst hs3
              have HKR := Lib.hid (HR3.out rfl).2
              clear HR3
              obtain ⟨bE, hbE⟩ : ∃ b, hasB B i3 ⟨#[93]⟩ = b := ⟨_, rfl⟩
              have hx := has_in HS4.out ⟨#[93]⟩ (by decide) (by decide)
              rw [hbE] at hx
              have HX := Lib.hid hx
              have HBE := Lib.hid hbE
              clear hx hbE
              cases bE with
              | true =>
                have hXb := hasB_get HBE.out
                have HX93 := Lib.hid (And.intro (show pk B i3 = 93 by have := hXb.2 0 (by decide); rwa [ByteArray.toList_mk] at this) trivial)
                have HXL := Lib.hid (show i3 + 1 ≤ B.length from hXb.1)
                clear hXb
                go_wp2_with fail
                with_reducible refine HX.out.mono ?_
                rintro e w' ⟨rfl, m4, rfl⟩
                go_upto_region 16 with fail
                obtain ⟨w5, hw5⟩ : ∃ w5 : World, w4.drewN m4 = w5 := ⟨_, rfl⟩
                obtain ⟨s5, hs5⟩ : ∃ s5 : Int, (0 : Int) = s5 := ⟨_, rfl⟩
                obtain ⟨j5, hj5⟩ : ∃ j5 : Nat, i3 = j5 := ⟨_, rfl⟩
                have hG45 : Gr w4 w5 w.heap.size := by rw [← hw5]; exact (Gr.refl w4 _).drewN m4
                have hS5 : SP w5 w.heap.size a C B j5 s5 := by rw [← hw5, ← hs5, ← hj5]; exact HS4.out.drewN m4
                have HQ5 := Lib.hid (show s5 = 0 → KyR B (i1 + 1) j5 ks ∧ pk B j5 = 93 by rw [← hs5, ← hj5]; exact fun _ => ⟨HKR.out, HX93.out.1⟩)
                have HL5 := Lib.hid (show s5 = 0 → j5 + 1 ≤ B.length by rw [← hs5, ← hj5]; exact fun _ => HXL.out)
                have hjj : i1 + 1 ≤ j5 ∧ j5 ≤ B.length := by omega
                have HS5 := Lib.hid hS5
                have HG5 := Lib.hid (HG4.out.trans hG45)
                have HE5 := Lib.hid (HE4.out.gr hG45 (Nat.lt_succ_self _))
                have HB5 := Lib.hid (HB4.out.gr hG45 (by omega))
                have HO5 := Lib.hid (HO4.out.gr hG45 (by omega))
                rw [hw5]
                clear hG45 hS5 hw5 hs5 hj5 hst4 hat4 hf4
                have at5 := HS5.out.at'
                have f5 := HS5.out.f1
                have hsz5 : wz.heap.size < w5.heap.size := HB5.out.lt
                have e0 := HB5.out.cell 0
                have e1 := HB5.out.cell 1
                have e2 := HB5.out.cell 2
                have e3 := HB5.out.cell 3
                have e4 := HB5.out.cell 4
                have e5 := HB5.out.cell 5
                go_wp2_with (at_builtin; (refine wpList_append_lies _ rfl (.tmp 75) (.tmp 77) 23 rfl (w.heap.size + 1) 40 i0 (.agg #[.int .i64 0, .slice none 0 0, .int .i64 0, .string ⟨#[]⟩, .slice none 0 0, .slice none 0 0]) 6 104 Tryz.u23 hi0 hz0 hz10 hz20 rfl (by decide) (.slice p n c) n cs (by simp [Act.eval]) ((HE5.out.gr ((Gr.refl w5 w.heap.size).setCell 1 _) (Nat.lt_succ_self _)).own.alloc _) ⟨w5.heap.size, 0, none⟩ 1 1 [.int .i64 1, .slice p5 n5 c5, .int .i64 0, .string ⟨#[]⟩, .slice none 0 0, .slice none 0 0] (by simp [Act.eval]) rfl (lit_cell40 _ _ (World.size_setCell ..) _ _ _ _ _ _) (ex_one _ _ _ _ _ _ _ _ _ _ _ _) (by decide) (by unfold maxLen; omega) (by omega) (by simp; omega) _ rfl ?_); intro g cap w7 hown7 hgrow7 hgl hgh)
                go_meet
                have hE6 := HE5.out.gr ((Gr.refl w5 w.heap.size).setCell 1 (.int .i64 ((j5 + 1 : Nat) : Int))) (Nat.lt_succ_self _)
                exact DcBe.mk rfl (((HS5.out.setAt (j5 + 1) (by omega)).alloc _).grown hgrow7 (base := w.heap.size + 1) (fun k hk => hE6.owns k hk) hin.1 hin.2)
                  (((HG5.out.setCell 1 _).alloc _).grown hgrow7 (fun k hk => by have := hE6.owns k hk; omega)) (by omega) HL5.out
                  (hE6.app (Q' := DcMid B (j5 + 1)) (s' := s5) g cap rfl hown7 hgrow7 hgl rfl fun h => ⟨rfl, ⟨1, ks, Nd.none⟩, ex_head (by decide) (HO5.out.setCell _ (by show w.heap.size < wx.heap.size; omega) _) (Nat.le_of_lt hszx) (by omega) (fun b hb => (World.ownsRow.lt HEa.out.own b hb).2) _ _ _ _, fun es hq => by
                    have hQ := HQ5.out h
                    exact hq.head hlt (by rw [HI1.out]; exact H91.out) (by rw [HI1.out]; exact H92.out) (by rw [HI1.out]; exact hQ.1) hQ.2 (by omega)⟩)
              | false =>
                go_wp2_with fail
                with_reducible refine HX.out.mono ?_
                rintro e w' ⟨rfl, m4, rfl⟩
                go_wp2_with fail
                with_reducible refine (fail_any (HS4.out.drewN m4)).mono ?_
                rintro e w8 ⟨rfl, hS8, hG8⟩
                obtain ⟨w5, hw5⟩ : ∃ w5 : World, w8 = w5 := ⟨_, rfl⟩
                obtain ⟨s5, hs5⟩ : ∃ s5 : Int, (if (0 : Int) = 0 then 1 else (0 : Int)) = s5 := ⟨_, rfl⟩
                obtain ⟨j5, hj5⟩ : ∃ j5 : Nat, B.length = j5 := ⟨_, rfl⟩
                have hG45 : Gr w4 w5 w.heap.size := by rw [← hw5]; exact ((Gr.refl w4 _).drewN m4).trans hG8
                have hS5 : SP w5 w.heap.size a C B j5 s5 := by rw [← hw5, ← hs5, ← hj5]; exact hS8
                have HQ5 := Lib.hid (show s5 = 0 → KyR B (i1 + 1) j5 ks ∧ pk B j5 = 93 by rw [← hs5, ← hj5]; exact fun h => absurd h (bad_fail 0))
                have HL5 := Lib.hid (show s5 = 0 → j5 + 1 ≤ B.length by rw [← hs5, ← hj5]; exact fun h => absurd h (bad_fail 0))
                have hjj : i1 + 1 ≤ j5 ∧ j5 ≤ B.length := by omega
                have HS5 := Lib.hid hS5
                have HG5 := Lib.hid (HG4.out.trans hG45)
                have HE5 := Lib.hid (HE4.out.gr hG45 (Nat.lt_succ_self _))
                have HB5 := Lib.hid (HB4.out.gr hG45 (by omega))
                have HO5 := Lib.hid (HO4.out.gr hG45 (by omega))
                rw [hw5]
                clear hS8 hG8 hG45 hS5 hw5 hs5 hj5 hst4 hat4 hf4
                have at5 := HS5.out.at'
                have f5 := HS5.out.f1
                have hsz5 : wz.heap.size < w5.heap.size := HB5.out.lt
                have e0 := HB5.out.cell 0
                have e1 := HB5.out.cell 1
                have e2 := HB5.out.cell 2
                have e3 := HB5.out.cell 3
                have e4 := HB5.out.cell 4
                have e5 := HB5.out.cell 5
                go_wp2_with (at_builtin; (refine wpList_append_lies _ rfl (.tmp 75) (.tmp 77) 23 rfl (w.heap.size + 1) 40 i0 (.agg #[.int .i64 0, .slice none 0 0, .int .i64 0, .string ⟨#[]⟩, .slice none 0 0, .slice none 0 0]) 6 104 Tryz.u23 hi0 hz0 hz10 hz20 rfl (by decide) (.slice p n c) n cs (by simp [Act.eval]) ((HE5.out.gr ((Gr.refl w5 w.heap.size).setCell 1 _) (Nat.lt_succ_self _)).own.alloc _) ⟨w5.heap.size, 0, none⟩ 1 1 [.int .i64 1, .slice p5 n5 c5, .int .i64 0, .string ⟨#[]⟩, .slice none 0 0, .slice none 0 0] (by simp [Act.eval]) rfl (lit_cell40 _ _ (World.size_setCell ..) _ _ _ _ _ _) (ex_one _ _ _ _ _ _ _ _ _ _ _ _) (by decide) (by unfold maxLen; omega) (by omega) (by simp; omega) _ rfl ?_); intro g cap w7 hown7 hgrow7 hgl hgh)
                go_meet
                have hE6 := HE5.out.gr ((Gr.refl w5 w.heap.size).setCell 1 (.int .i64 ((j5 + 1 : Nat) : Int))) (Nat.lt_succ_self _)
                exact DcBe.mk rfl (((HS5.out.setAt (j5 + 1) (by omega)).alloc _).grown hgrow7 (base := w.heap.size + 1) (fun k hk => hE6.owns k hk) hin.1 hin.2)
                  (((HG5.out.setCell 1 _).alloc _).grown hgrow7 (fun k hk => by have := hE6.owns k hk; omega)) (by omega) HL5.out
                  (hE6.app (Q' := DcMid B (j5 + 1)) (s' := s5) g cap rfl hown7 hgrow7 hgl rfl fun h => ⟨rfl, ⟨1, ks, Nd.none⟩, ex_head (by decide) (HO5.out.setCell _ (by show w.heap.size < wx.heap.size; omega) _) (Nat.le_of_lt hszx) (by omega) (fun b hb => (World.ownsRow.lt HEa.out.own b hb).2) _ _ _ _, fun es hq => by
                    have hQ := HQ5.out h
                    exact hq.head hlt (by rw [HI1.out]; exact H91.out) (by rw [HI1.out]; exact H92.out) (by rw [HI1.out]; exact hQ.1) hQ.2 (by omega)⟩)
            · have t0 : (s3 == 0) = false := by simpa using hs3
              go_upto_region 16 with fail
              obtain ⟨w5, hw5⟩ : ∃ w5 : World, w4 = w5 := ⟨_, rfl⟩
              obtain ⟨s5, hs5⟩ : ∃ s5 : Int, s3 = s5 := ⟨_, rfl⟩
              obtain ⟨j5, hj5⟩ : ∃ j5 : Nat, i3 = j5 := ⟨_, rfl⟩
              have hG45 : Gr w4 w5 w.heap.size := by rw [← hw5]; exact Gr.refl w4 _
              have hS5 : SP w5 w.heap.size a C B j5 s5 := by rw [← hw5, ← hs5, ← hj5]; exact HS4.out
              have HQ5 := Lib.hid (show s5 = 0 → KyR B (i1 + 1) j5 ks ∧ pk B j5 = 93 by rw [← hs5, ← hj5]; exact fun h => absurd h hs3)
              have HL5 := Lib.hid (show s5 = 0 → j5 + 1 ≤ B.length by rw [← hs5, ← hj5]; exact fun h => absurd h hs3)
              have hjj : i1 + 1 ≤ j5 ∧ j5 ≤ B.length := by omega
              have HS5 := Lib.hid hS5
              have HG5 := Lib.hid (HG4.out.trans hG45)
              have HE5 := Lib.hid (HE4.out.gr hG45 (Nat.lt_succ_self _))
              have HB5 := Lib.hid (HB4.out.gr hG45 (by omega))
              have HO5 := Lib.hid (HO4.out.gr hG45 (by omega))
              rw [hw5]
              clear hG45 hS5 hw5 hs5 hj5 hst4 hat4 hf4
              have at5 := HS5.out.at'
              have f5 := HS5.out.f1
              have hsz5 : wz.heap.size < w5.heap.size := HB5.out.lt
              have e0 := HB5.out.cell 0
              have e1 := HB5.out.cell 1
              have e2 := HB5.out.cell 2
              have e3 := HB5.out.cell 3
              have e4 := HB5.out.cell 4
              have e5 := HB5.out.cell 5
              go_wp2_with (at_builtin; (refine wpList_append_lies _ rfl (.tmp 75) (.tmp 77) 23 rfl (w.heap.size + 1) 40 i0 (.agg #[.int .i64 0, .slice none 0 0, .int .i64 0, .string ⟨#[]⟩, .slice none 0 0, .slice none 0 0]) 6 104 Tryz.u23 hi0 hz0 hz10 hz20 rfl (by decide) (.slice p n c) n cs (by simp [Act.eval]) ((HE5.out.gr ((Gr.refl w5 w.heap.size).setCell 1 _) (Nat.lt_succ_self _)).own.alloc _) ⟨w5.heap.size, 0, none⟩ 1 1 [.int .i64 1, .slice p5 n5 c5, .int .i64 0, .string ⟨#[]⟩, .slice none 0 0, .slice none 0 0] (by simp [Act.eval]) rfl (lit_cell40 _ _ (World.size_setCell ..) _ _ _ _ _ _) (ex_one _ _ _ _ _ _ _ _ _ _ _ _) (by decide) (by unfold maxLen; omega) (by omega) (by simp; omega) _ rfl ?_); intro g cap w7 hown7 hgrow7 hgl hgh)
              go_meet
              have hE6 := HE5.out.gr ((Gr.refl w5 w.heap.size).setCell 1 (.int .i64 ((j5 + 1 : Nat) : Int))) (Nat.lt_succ_self _)
              exact DcBe.mk rfl (((HS5.out.setAt (j5 + 1) (by omega)).alloc _).grown hgrow7 (base := w.heap.size + 1) (fun k hk => hE6.owns k hk) hin.1 hin.2)
                (((HG5.out.setCell 1 _).alloc _).grown hgrow7 (fun k hk => by have := hE6.owns k hk; omega)) (by omega) HL5.out
                (hE6.app (Q' := DcMid B (j5 + 1)) (s' := s5) g cap rfl hown7 hgrow7 hgl rfl fun h => ⟨rfl, ⟨1, ks, Nd.none⟩, ex_head (by decide) (HO5.out.setCell _ (by show w.heap.size < wx.heap.size; omega) _) (Nat.le_of_lt hszx) (by omega) (fun b hb => (World.ownsRow.lt HEa.out.own b hb).2) _ _ _ _, fun es hq => by
                  have hQ := HQ5.out h
                  exact hq.head hlt (by rw [HI1.out]; exact H91.out) (by rw [HI1.out]; exact H92.out) (by rw [HI1.out]; exact hQ.1) hQ.2 (by omega)⟩)
        · have t91 := byte_ne h91 (n := 91) rfl
          have H91 := Lib.hid (show pk B (skp B i) ≠ 91 by rw [HI1.out, HC.out]; exact h91)
          clear h91
          by_cases hl1 : i1 < B.length
          · have tl1 : decide (i1 < B.length) = true := decide_eq_true hl1
            by_cases h35 : cc = 35
            · have t35 := byte_eq' h35 (n := 35) rfl
              have HW := Lib.hid (HC.out.trans h35)
              clear h35
              go_wp2_with fail
              go_quiet (fail)
              go_wp2_with fail
              go_meet
              exact DcBe.mk rfl (HSa.out.drewN _) (HGa.out.drewN _) hki1 (fun _ => hil1) ((HEa.out.gr ((Gr.refl wz w.heap.size).drewN _) (Nat.lt_succ_self _)).next fun h => ⟨rfl, fun es hq => by
                  have hx := hq.empty hlt (.inr (.inl (by rw [HI1.out]; exact HW.out))) H91.out
                  rwa [HI1.out] at hx⟩)
            · have t35 := byte_ne' h35 (n := 35) rfl
              by_cases h10 : cc = 10
              · have t10 := byte_eq' h10 (n := 10) rfl
                have HW := Lib.hid (HC.out.trans h10)
                clear h10 h35
                go_wp2_with fail
                go_quiet (fail)
                go_wp2_with fail
                go_meet
                exact DcBe.mk rfl (HSa.out.drewN _) (HGa.out.drewN _) hki1 (fun _ => hil1) ((HEa.out.gr ((Gr.refl wz w.heap.size).drewN _) (Nat.lt_succ_self _)).next fun h => ⟨rfl, fun es hq => by
                    have hx := hq.empty hlt (.inr (.inr (.inl (by rw [HI1.out]; exact HW.out)))) H91.out
                    rwa [HI1.out] at hx⟩)
              · have t10 := byte_ne' h10 (n := 10) rfl
                by_cases h13 : cc = 13
                · have t13 := byte_eq' h13 (n := 13) rfl
                  have HW := Lib.hid (HC.out.trans h13)
                  clear h13 h10 h35
                  go_wp2_with fail
                  go_quiet (fail)
                  go_wp2_with fail
                  go_meet
                  exact DcBe.mk rfl (HSa.out.drewN _) (HGa.out.drewN _) hki1 (fun _ => hil1) ((HEa.out.gr ((Gr.refl wz w.heap.size).drewN _) (Nat.lt_succ_self _)).next fun h => ⟨rfl, fun es hq => by
                      have hx := hq.empty hlt (.inr (.inr (.inr (by rw [HI1.out]; exact HW.out)))) H91.out
                      rwa [HI1.out] at hx⟩)
                · have H13 := Lib.hid h13
                  have H10 := Lib.hid h10
                  have H35 := Lib.hid h35
                  have t13 := byte_ne' h13 (n := 13) rfl
                  clear h13 h10 h35
                  go_wp2_with fail
                  go_quiet (fail)
                  go_wp2_with fail
                  obtain ⟨wk, hwk⟩ : ∃ wk : World, wz.drewN nq = wk := ⟨_, rfl⟩
                  rw [hwk]
                  have hgk : Gr wz wk w.heap.size := hwk ▸ (Gr.refl wz _).drewN nq
                  have HSk := Lib.hid (hwk ▸ HSa.out.drewN nq : SP wk w.heap.size a C B i1 0)
                  have hszk : wk.heap.size = wz.heap.size := by rw [← hwk]; rfl
                  clear hwk hata hfa hba hsa
                  with_reducible refine (keys_any HSk.out hil1).mono ?_
                  rintro e w3 ⟨kv, ks, rfl, hown3, i3, s3, hS3, hG3, hi3, hi3', hr3⟩
                  obtain ⟨p5, n5, c5, rfl⟩ := hown3.form
                  have HS3 := Lib.hid hS3
                  have HGz3 := Lib.hid (hgk.trans hG3)
                  have HR3 := Lib.hid hr3
                  have HO3 := Lib.hid hown3
                  have hsz3 := hG3.size
                  clear hS3 hG3 hr3 hown3 hgk
                  go_upto_region 20 with fail
                  obtain ⟨w4, hw4⟩ : ∃ w4 : World, w3.alloc (.cells #[.int .i64 0, .slice p5 n5 c5, .int .i64 0, .string ⟨#[]⟩, .slice none 0 0, .slice none 0 0] 40) = w4 := ⟨_, rfl⟩
                  have hG34 : Gr w3 w4 w.heap.size := by rw [← hw4]; exact (Gr.refl w3 _).alloc _
                  have hS4 : SP w4 w.heap.size a C B i3 s3 := by rw [← hw4]; exact HS3.out.alloc _
                  have hB4 : EB w4 w3.heap.size #[.int .i64 0, .slice p5 n5 c5, .int .i64 0, .string ⟨#[]⟩, .slice none 0 0, .slice none 0 0] := by rw [← hw4]; exact EB.fresh _ _ rfl _
                  have HG34 := Lib.hid hG34
                  have HE4 := Lib.hid (HEa.out.gr (HGz3.out.trans hG34) (Nat.lt_succ_self _))
                  have HG4 := Lib.hid (HGa.out.trans (HGz3.out.trans hG34))
                  have HS4 := Lib.hid hS4
                  have HB4 := Lib.hid hB4
                  have HO4 := Lib.hid (HO3.out.gr hG34 (by omega))
                  have hst4 := hS4.st'
                  have hat4 := hS4.at'
                  have hf4 := hS4.f1
                  rw [hw4]
                  clear hG34 hS4 hB4 hw4
                  by_cases hs3 : s3 = 0
                  · subst hs3
                    have HKR := Lib.hid (HR3.out rfl).2
                    clear HR3
                    obtain ⟨c4, hc4⟩ : ∃ c4, pk B i3 = c4 := ⟨_, rfl⟩
                    have hp4 := peek_any HS4.out 0 i3 (by omega) (by omega)
                    rw [hc4] at hp4
                    have HP4 := Lib.hid hp4
                    have HC4 := Lib.hid hc4
                    clear hp4 hc4
                    by_cases h61 : c4 = 61
                    · have H61 := Lib.hid (HC4.out.trans h61)
                      have hlt3 : i3 < B.length := pk_in (by rw [HC4.out, h61]; decide)
                      have t61 := byte_eq' h61 (n := 61) rfl
                      clear h61
                      go_wp2_with fail
                      with_reducible refine HP4.out.mono ?_
                      rintro e w' ⟨rfl, m4, rfl⟩
                      go_wp2_with fail
                      refine (blanks_any ((HS4.out.drewN m4).setAt (i3 + 1) (by omega))).mono ?_
                      rintro e w5 ⟨rfl, hS5, hG5⟩
                      obtain ⟨j5, hj5⟩ : ∃ j5 : Nat, skp B (i3 + 1) = j5 := ⟨_, rfl⟩
                      have hjg5 := skp_ge B (i3 + 1)
                      have hjl5 := skp_le (B := B) (i := i3 + 1) hlt3
                      rw [hj5] at hS5 hjg5 hjl5
                      have hg5 := (((Gr.refl w4 w.heap.size).drewN m4).setCell 1 (.int .i64 ((i3 + 1 : Nat) : Int))).trans hG5
                      have HJ5 := Lib.hid hj5
                      have HS5 := Lib.hid hS5
                      have HE5 := Lib.hid (HE4.out.gr hg5 (Nat.lt_succ_self _))
                      have HG5 := Lib.hid (HG4.out.trans hg5)
                      have HG35 := Lib.hid (HG34.out.trans hg5)
                      have HB5 := Lib.hid (HB4.out.gr hg5 (by omega))
                      have HO5 := Lib.hid (HO4.out.gr hg5 (by omega))
                      have st5 := hS5.st'
                      have hlt5 := HB5.out.lt
                      clear hg5 hS5 hG5 hst4 hat4 hf4 hj5
                      go_wp2_with fail
                      with_reducible refine (HV.out _ _ HS5.out hjl5).mono ?_
                      rintro e w6 ⟨kd, s, p1, n1, q1, p2, n2, q2, rfl, j6, s6, hS6, hG6, hj6, hj6', hr6⟩
                      have HS6 := Lib.hid hS6
                      have HE6 := Lib.hid (HE5.out.gr hG6 (Nat.lt_succ_self _))
                      have HG6 := Lib.hid (HG5.out.trans hG6)
                      have HB6 := Lib.hid (HB5.out.gr hG6 (by omega))
                      have HO6 := Lib.hid (HO5.out.gr hG6 (by omega))
                      have HR6 := Lib.hid hr6
                      have hsz6 := hG6.size
                      have HGz36 := Lib.hid (HG35.out.trans hG6)
                      have e2 := HB6.out.cell 2
                      have g2 := HB6.out.frozen 2
                      have e3 := HB6.out.cell 3
                      have g3 := HB6.out.frozen 3
                      have e4 := HB6.out.cell 4
                      have g4 := HB6.out.frozen 4
                      have e5 := HB6.out.cell 5
                      have g5 := HB6.out.frozen 5
                      clear hS6 hG6 hr6 st5
                      go_upto_region 26 with fail
                      obtain ⟨wv, hwv⟩ : ∃ wv : World, (((w6.setCell ⟨w3.heap.size, 2, none⟩ (.int .i64 kd)).setCell ⟨w3.heap.size, 3, none⟩ (.string s)).setCell ⟨w3.heap.size, 4, none⟩ (.slice p1 n1 q1)).setCell ⟨w3.heap.size, 5, none⟩ (.slice p2 n2 q2) = wv := ⟨_, rfl⟩
                      have hSv : SP wv w.heap.size a C B j6 s6 := by rw [← hwv]; exact (((HS6.out.setNew (base := w.heap.size + 1) _ (by show w.heap.size + 1 ≤ w3.heap.size; omega) hin.1 hin.2 _).setNew (base := w.heap.size + 1) _ (by show w.heap.size + 1 ≤ w3.heap.size; omega) hin.1 hin.2 _).setNew (base := w.heap.size + 1) _ (by show w.heap.size + 1 ≤ w3.heap.size; omega) hin.1 hin.2 _).setNew (base := w.heap.size + 1) _ (by show w.heap.size + 1 ≤ w3.heap.size; omega) hin.1 hin.2 _
                      have hGzv : Gr w3 wv w.heap.size := by rw [← hwv]; exact ((((HGz36.out).setNew _ (Nat.le_refl _) _).setNew _ (Nat.le_refl _) _).setNew _ (Nat.le_refl _) _).setNew _ (Nat.le_refl _) _
                      have hBv : EB wv w3.heap.size #[.int .i64 0, .slice p5 n5 c5, .int .i64 kd, .string s, .slice p1 n1 q1, .slice p2 n2 q2] := by rw [← hwv]; exact (((HB6.out.put 2 _).put 3 _).put 4 _).put 5 _
                      have hszv : wv.heap.size = w6.heap.size := by rw [← hwv]; simp
                      have hblv : ∀ b, b ≠ w3.heap.size → wv.heap[b]? = w6.heap[b]? := fun b hb => by
                        rw [← hwv, Below.heap_setCell _ _ _ _ hb, Below.heap_setCell _ _ _ _ hb, Below.heap_setCell _ _ _ _ hb, Below.heap_setCell _ _ _ _ hb]
                      have HSv := Lib.hid hSv
                      have HGv := Lib.hid (HGa.out.trans (HGz3.out.trans hGzv))
                      have HEv := Lib.hid (HEa.out.gr (HGz3.out.trans hGzv) (Nat.lt_succ_self _))
                      have HOv := Lib.hid (HO3.out.gr hGzv (by omega))
                      have HBLv := Lib.hid hblv
                      rw [hwv]
                      clear e2 e3 e4 e5 g2 g3 g4 g5 hSv hGzv hwv hblv
                      have e0 := hBv.cell 0
                      have e1 := hBv.cell 1
                      have e2 := hBv.cell 2
                      have e3 := hBv.cell 3
                      have e4 := hBv.cell 4
                      have e5 := hBv.cell 5
                      clear hBv
                      go_wp2_with (at_builtin; (refine wpList_append_lies _ rfl (.tmp 134) (.tmp 136) 23 rfl (w.heap.size + 1) 40 i0 (.agg #[.int .i64 0, .slice none 0 0, .int .i64 0, .string ⟨#[]⟩, .slice none 0 0, .slice none 0 0]) 6 104 Tryz.u23 hi0 hz0 hz10 hz20 rfl (by decide) (.slice p n c) n cs (by simp [Act.eval]) (HEv.out.own.alloc _) ⟨wv.heap.size, 0, none⟩ 1 1 [.int .i64 0, .slice p5 n5 c5, .int .i64 kd, .string s, .slice p1 n1 q1, .slice p2 n2 q2] (by simp [Act.eval]) rfl (lit_cell40 _ _ rfl _ _ _ _ _ _) (ex_one _ _ _ _ _ _ _ _ _ _ _ _) (by decide) (by unfold maxLen; omega) (by omega) (by simp; omega) _ rfl ?_); intro g cap w7 hown7 hgrow7 hgl hgh)
                      go_meet
                      exact DcBe.mk rfl ((HSv.out.alloc _).grown hgrow7 (base := w.heap.size + 1) (fun k hk => HEv.out.owns k hk) hin.1 hin.2) ((HGv.out.alloc _).grown hgrow7 (fun k hk => by have := HEv.out.owns k hk; omega)) (by omega) (fun _ => hj6')
                        (HEv.out.app (Q' := DcMid B j6) (s' := s6) g cap rfl hown7 hgrow7 hgl rfl fun h => ⟨rfl, by
                          obtain ⟨_, x, hx, hP⟩ := HR6.out h
                          exact ⟨⟨0, ks, x⟩, ex_pair (n0 := wz.heap.size) HOv.out (by omega) (by omega) (fun b hb => (World.ownsRow.lt HEa.out.own b hb).2) hP hlt5 (by omega) HBLv.out hszv, fun es hq =>
                            hq.pair hlt (by rw [HI1.out]; exact hl1) (by rw [HI1.out, HC.out]; exact H35.out) (by rw [HI1.out, HC.out]; exact H10.out) (by rw [HI1.out, HC.out]; exact H13.out) H91.out (by rw [HI1.out]; exact HKR.out) H61.out (by rw [HJ5.out]; exact hx) (by omega)⟩⟩)
                    · have t61 := byte_ne' h61 (n := 61) rfl
                      clear h61
                      go_wp2_with fail
                      with_reducible refine HP4.out.mono ?_
                      rintro e w' ⟨rfl, m4, rfl⟩
                      go_wp2_with fail
                      with_reducible refine (fail_any (HS4.out.drewN m4)).mono ?_
                      rintro e w9 ⟨rfl, hS9, hG9⟩
                      obtain ⟨w8, hw8⟩ : ∃ w8' : World, w9 = w8' := ⟨_, rfl⟩
                      obtain ⟨s8, hs8⟩ : ∃ s8 : Int, (if (0 : Int) = 0 then 1 else (0 : Int)) = s8 := ⟨_, rfl⟩
                      obtain ⟨j8, hj8⟩ : ∃ j8 : Nat, B.length = j8 := ⟨_, rfl⟩
                      have hS8' : SP w8 w.heap.size a C B j8 s8 := by rw [← hw8, ← hs8, ← hj8]; exact hS9
                      have hG48 : Gr w4 w8 w.heap.size := by rw [← hw8]; exact ((Gr.refl w4 _).drewN m4).trans hG9
                      have hne8 : s8 ≠ 0 := by rw [← hs8]; exact bad_fail 0
                      have hjj : i1 ≤ j8 ∧ j8 ≤ B.length := by omega
                      have HS8 := Lib.hid hS8'
                      have HE8 := Lib.hid (HE4.out.gr hG48 (Nat.lt_succ_self _))
                      have HG8 := Lib.hid (HG4.out.trans hG48)
                      have HB8 := Lib.hid (HB4.out.gr hG48 (by omega))
                      have at8 := hS8'.at'
                      have st8 := hS8'.st'
                      have f8 := hS8'.f1
                      have t8 : (s8 == 0) = false := by simpa using hne8
                      have HNE8 := Lib.hid hne8
                      rw [hw8]
                      clear hS8' hG48 hw8 hs8 hj8 hst4 hat4 hf4 hne8 hS9 hG9
                      go_wp2_with fail
                      refine (blanks_any (HS8.out.setAt (j8 + 1) (by omega))).mono ?_
                      rintro e w5 ⟨rfl, hS5, hG5⟩
                      have hg5 := ((Gr.refl w8 w.heap.size).setCell 1 (.int .i64 ((j8 + 1 : Nat) : Int))).trans hG5
                      have HS5 := Lib.hid hS5
                      have HE5 := Lib.hid (HE8.out.gr hg5 (Nat.lt_succ_self _))
                      have HG5 := Lib.hid (HG8.out.trans hg5)
                      have hB5 := HB8.out.gr hg5 (by omega)
                      have st5 := hS5.st'
                      have hlt5 := hB5.lt
                      have e0 := hB5.cell 0
                      have e1 := hB5.cell 1
                      have e2 := hB5.cell 2
                      have e3 := hB5.cell 3
                      have e4 := hB5.cell 4
                      have e5 := hB5.cell 5
                      clear hB5 hg5 hS5 hG5 at8 f8 st8
                      go_wp2_with (at_builtin; (refine wpList_append_lies _ rfl (.tmp 134) (.tmp 136) 23 rfl (w.heap.size + 1) 40 i0 (.agg #[.int .i64 0, .slice none 0 0, .int .i64 0, .string ⟨#[]⟩, .slice none 0 0, .slice none 0 0]) 6 104 Tryz.u23 hi0 hz0 hz10 hz20 rfl (by decide) (.slice p n c) n cs (by simp [Act.eval]) (HE5.out.own.alloc _) ⟨w5.heap.size, 0, none⟩ 1 1 [.int .i64 0, .slice p5 n5 c5, .int .i64 0, .string ⟨#[]⟩, .slice none 0 0, .slice none 0 0] (by simp [Act.eval]) rfl (lit_cell40 _ _ rfl _ _ _ _ _ _) (ex_one _ _ _ _ _ _ _ _ _ _ _ _) (by decide) (by unfold maxLen; omega) (by omega) (by simp; omega) _ rfl ?_); intro g cap w7 hown7 hgrow7 hgl hgh)
                      go_meet
                      exact DcBe.mk rfl ((HS5.out.alloc _).grown hgrow7 (base := w.heap.size + 1) (fun k hk => HE5.out.owns k hk) hin.1 hin.2) ((HG5.out.alloc _).grown hgrow7 (fun k hk => by have := HE5.out.owns k hk; omega)) (by have := skp_ge B (j8 + 1); omega) (fun h => absurd h HNE8.out)
                        (HE5.out.app (s' := s8) g cap rfl hown7 hgrow7 hgl rfl fun h => absurd h HNE8.out)
                  · have t0 : (s3 == 0) = false := by simpa using hs3
                    obtain ⟨w8, hw8⟩ : ∃ w8' : World, w4 = w8' := ⟨_, rfl⟩
                    obtain ⟨s8, hs8⟩ : ∃ s8 : Int, s3 = s8 := ⟨_, rfl⟩
                    obtain ⟨j8, hj8⟩ : ∃ j8 : Nat, i3 = j8 := ⟨_, rfl⟩
                    have hS8' : SP w8 w.heap.size a C B j8 s8 := by rw [← hw8, ← hs8, ← hj8]; exact HS4.out
                    have hG48 : Gr w4 w8 w.heap.size := by rw [← hw8]; exact Gr.refl w4 _
                    have hne8 : s8 ≠ 0 := by rw [← hs8]; exact hs3
                    have hjj : i1 ≤ j8 ∧ j8 ≤ B.length := by omega
                    have HS8 := Lib.hid hS8'
                    have HE8 := Lib.hid (HE4.out.gr hG48 (Nat.lt_succ_self _))
                    have HG8 := Lib.hid (HG4.out.trans hG48)
                    have HB8 := Lib.hid (HB4.out.gr hG48 (by omega))
                    have at8 := hS8'.at'
                    have st8 := hS8'.st'
                    have f8 := hS8'.f1
                    have t8 : (s8 == 0) = false := by simpa using hne8
                    have HNE8 := Lib.hid hne8
                    rw [hw8]
                    clear hS8' hG48 hw8 hs8 hj8 hst4 hat4 hf4 hne8
                    go_wp2_with fail
                    refine (blanks_any (HS8.out.setAt (j8 + 1) (by omega))).mono ?_
                    rintro e w5 ⟨rfl, hS5, hG5⟩
                    have hg5 := ((Gr.refl w8 w.heap.size).setCell 1 (.int .i64 ((j8 + 1 : Nat) : Int))).trans hG5
                    have HS5 := Lib.hid hS5
                    have HE5 := Lib.hid (HE8.out.gr hg5 (Nat.lt_succ_self _))
                    have HG5 := Lib.hid (HG8.out.trans hg5)
                    have hB5 := HB8.out.gr hg5 (by omega)
                    have st5 := hS5.st'
                    have hlt5 := hB5.lt
                    have e0 := hB5.cell 0
                    have e1 := hB5.cell 1
                    have e2 := hB5.cell 2
                    have e3 := hB5.cell 3
                    have e4 := hB5.cell 4
                    have e5 := hB5.cell 5
                    clear hB5 hg5 hS5 hG5 at8 f8 st8
                    go_wp2_with (at_builtin; (refine wpList_append_lies _ rfl (.tmp 134) (.tmp 136) 23 rfl (w.heap.size + 1) 40 i0 (.agg #[.int .i64 0, .slice none 0 0, .int .i64 0, .string ⟨#[]⟩, .slice none 0 0, .slice none 0 0]) 6 104 Tryz.u23 hi0 hz0 hz10 hz20 rfl (by decide) (.slice p n c) n cs (by simp [Act.eval]) (HE5.out.own.alloc _) ⟨w5.heap.size, 0, none⟩ 1 1 [.int .i64 0, .slice p5 n5 c5, .int .i64 0, .string ⟨#[]⟩, .slice none 0 0, .slice none 0 0] (by simp [Act.eval]) rfl (lit_cell40 _ _ rfl _ _ _ _ _ _) (ex_one _ _ _ _ _ _ _ _ _ _ _ _) (by decide) (by unfold maxLen; omega) (by omega) (by simp; omega) _ rfl ?_); intro g cap w7 hown7 hgrow7 hgl hgh)
                    go_meet
                    exact DcBe.mk rfl ((HS5.out.alloc _).grown hgrow7 (base := w.heap.size + 1) (fun k hk => HE5.out.owns k hk) hin.1 hin.2) ((HG5.out.alloc _).grown hgrow7 (fun k hk => by have := HE5.out.owns k hk; omega)) (by have := skp_ge B (j8 + 1); omega) (fun h => absurd h HNE8.out)
                      (HE5.out.app (s' := s8) g cap rfl hown7 hgrow7 hgl rfl fun h => absurd h HNE8.out)
          · have tl1 : decide (i1 < B.length) = false := decide_eq_false hl1
            have HW := Lib.hid (Nat.le_of_not_lt hl1)
            go_wp2_with fail
            go_quiet (fail)
            go_wp2_with fail
            go_meet
            exact DcBe.mk rfl (HSa.out.drewN _) (HGa.out.drewN _) hki1 (fun _ => hil1) ((HEa.out.gr ((Gr.refl wz w.heap.size).drewN _) (Nat.lt_succ_self _)).next fun h => ⟨rfl, fun es hq => by
                have hx := hq.empty hlt (.inl (by rw [HI1.out]; exact HW.out)) H91.out
                rwa [HI1.out] at hx⟩)
      case rest =>
       as_aux_lemma =>
        obtain ⟨j, n2, s, p2, c2, cs2, rfl, hSj, hGj, hij, hjl, hEj⟩ := hcut
        obtain ⟨wo, rfl⟩ : ∃ wo : World, wo = wc := ⟨_, rfl⟩
        have HSj := Lib.hid hSj
        have HGj := Lib.hid hGj
        have HEj := Lib.hid hEj
        have stj := hSj.st'
        clear hSj hGj hEj hata hfa hba hsa HSa HGa HEa
        by_cases hs : s = 0
        · subst hs
          have hjL : j ≤ B.length := hjl rfl
          clear hjl
          go_wp2_with fail
          refine (blanks_any HSj.out).mono ?_
          rintro e w5 ⟨rfl, hS5, hG5⟩
          obtain ⟨j5, hj5⟩ : ∃ j5 : Nat, skp B j = j5 := ⟨_, rfl⟩
          have hjg5 := skp_ge B j
          have hjl5 := skp_le (B := B) (i := j) hjL
          rw [hj5] at hS5 hjg5 hjl5
          have HJ5 := Lib.hid hj5
          have HS5 := Lib.hid hS5
          have HE5 := Lib.hid (HEj.out.gr hG5 (Nat.lt_succ_self _))
          have HG5 := Lib.hid (HGj.out.trans hG5)
          clear hS5 hG5 hj5 stj
          go_wp2_with fail
          with_reducible refine (comment_any HS5.out hjl5).mono ?_
          rintro e w6 ⟨rfl, m, s6, hS6, hG6, hm6, hm6', hr6⟩
          have HS6 := Lib.hid hS6
          have HE6 := Lib.hid (HE5.out.gr hG6 (Nat.lt_succ_self _))
          have HG6 := Lib.hid (HG5.out.trans hG6)
          have HR6 := Lib.hid hr6
          have st6 := hS6.st'
          have at6 := hS6.at'
          have b6 := hS6.b
          clear hS6 hG6 hr6
          by_cases hs6 : s6 = 0
          · subst hs6
            have HM := Lib.hid (HR6.out rfl).2
            clear HR6
            by_cases hmL : m < B.length
            · have tm : decide (m < B.length) = true := decide_eq_true hmL
              obtain ⟨q, hq⟩ : ∃ q, lnN B m = q := ⟨_, rfl⟩
              have hmle := lnN_le (B := B) (i := m) hm6'
              have hln := line_any (show SP w6.drew w.heap.size a C B m 0 from HS6.out.drewN 1)
              rw [hq] at hln hmle
              have HL := Lib.hid hln
              have HQ := Lib.hid hq
              clear hln hq
              by_cases hq0 : q = 0
              · have tq : (q != 0) = false := by simp [hq0]
                rw [tq] at HL
                clear tq
                go_upto_region 31 with fail
                have b6d : World.cell? { w6 with drawn := w6.drawn + 1 } ⟨w.heap.size, 0, none⟩ = some (.slice (some a) B.length C) := b6
                have at6d : World.cell? { w6 with drawn := w6.drawn + 1 } ⟨w.heap.size, 1, none⟩ = some (.int .i64 m) := at6
                have st6d : World.cell? { w6 with drawn := w6.drawn + 1 } ⟨w.heap.size, 2, none⟩ = some (.int .i64 0) := st6
                go_still_tail 18, (by kernel_rfl)
                change wpList _ _ _ _ _ w6.drew
                go_wp2_with fail
                with_reducible refine HL.out.mono ?_
                rintro e w7 ⟨rfl, hS7, hG7⟩
                have HS7 := Lib.hid hS7
                have HG7 := Lib.hid (HG6.out.trans (((Gr.refl w6 w.heap.size).drewN 1).trans hG7))
                clear hS7 hG7 b6d at6d st6d
                go_wp2_with fail
                with_reducible refine (fail_any HS7.out).mono ?_
                rintro e w8 ⟨rfl, hS8, hG8⟩
                have st8 := hS8.st'
                have HG8 := Lib.hid (HG7.out.trans hG8)
                clear hS8 hG8
                go_wp2_with fail
                go_region
                all_goals
                  go_wp2_with fail
                  refine bodyPost_ret (v := .tuple #[.slice none 0 0, .int .i64 1]) (by simp [results, Tryz.results4, go_sem]) rfl ?_
                  exact DPost.mk _ _ rfl (HG8.out.drewN _).none fun h => absurd h (by decide)
              · have tq : (q != 0) = true := by simp [hq0]
                rw [tq] at HL
                clear tq
                go_upto_region 31 with fail
                have b6d : World.cell? { w6 with drawn := w6.drawn + 1 } ⟨w.heap.size, 0, none⟩ = some (.slice (some a) B.length C) := b6
                have at6d : World.cell? { w6 with drawn := w6.drawn + 1 } ⟨w.heap.size, 1, none⟩ = some (.int .i64 m) := at6
                have st6d : World.cell? { w6 with drawn := w6.drawn + 1 } ⟨w.heap.size, 2, none⟩ = some (.int .i64 0) := st6
                go_still_tail 18, (by kernel_rfl)
                change wpList _ _ _ _ _ w6.drew
                go_wp2_with fail
                with_reducible refine HL.out.mono ?_
                rintro e w7 ⟨rfl, hS7, hG7⟩
                have hg7 : Gr w6 w7 w.heap.size := ((Gr.refl w6 w.heap.size).drewN 1).trans hG7
                have HS7 := Lib.hid hS7
                have HG7 := Lib.hid (HG6.out.trans hg7)
                have HE7 := Lib.hid (HE6.out.gr hg7 (Nat.lt_succ_self _))
                have st7 := hS7.st'
                clear hS7 hG7 hg7 b6d at6d st6d
                go_wp2_with fail
                go_roundw
                case rel =>
                  exact ⟨m + q, n2, p2, c2, cs2, rfl, HS7.out, HG7.out, hmle, HE7.out.next fun h => ⟨rfl, fun es he => he.next ⟨m, by rw [HJ5.out]; exact HM.out, .inr ⟨hmL, by rw [HQ.out]; exact hq0, by rw [HQ.out]⟩⟩ (by omega)⟩⟩
                case measure =>
                  rw [HS7.out.msr, HS1.out.msr]
                  simp
                  omega
            · have tm : decide (m < B.length) = false := decide_eq_false hmL
              go_upto_region 31 with fail
              go_quiet (fail)
              go_wp2_with fail
              go_roundw
              case rel =>
                exact ⟨m, n2, p2, c2, cs2, rfl, HS6.out.drewN _, HG6.out.drewN _, hm6', (HE6.out.gr ((Gr.refl w6 w.heap.size).drewN _) (Nat.lt_succ_self _)).next fun h => ⟨rfl, fun es he => he.next ⟨m, by rw [HJ5.out]; exact HM.out, .inl ⟨by omega, rfl⟩⟩ (by omega)⟩⟩
              case measure =>
                rw [(HS6.out.drewN _).msr, HS1.out.msr]
                simp
                omega
          · have t6 : (s6 == 0) = false := by simpa using hs6
            have t6b : (s6 != 0) = true := by simpa using hs6
            go_upto_region 31 with fail
            go_quiet (fail)
            go_wp2_with fail
            go_region
            all_goals
              go_wp2_with fail
              refine bodyPost_ret (v := .tuple #[.slice none 0 0, .int .i64 s6]) (by simp [results, Tryz.results4, go_sem]) rfl ?_
              exact DPost.mk _ _ rfl (HG6.out.drewN _).none fun h => absurd h hs6
        · have tj : (s != 0) = true := by simpa using hs
          go_wp2_with fail
          go_region
          all_goals
            go_wp2_with fail
            refine bodyPost_ret (v := .tuple #[.slice none 0 0, .int .i64 s]) (by simp [results, Tryz.results4, go_sem]) rfl ?_
            exact DPost.mk _ _ rfl (HGj.out.drewN _).none fun h => absurd h hs
    · have tl : decide (i < B.length) = false := decide_eq_false hlt
      go_wp2_with fail
      go_quiet (fail)
      go_wp2_with fail
      go_quiet (fail)
      go_wp2_with fail
      refine bodyPost_ret (v := .tuple #[.slice p n c, .int .i64 0]) (by simp [results, Tryz.results4, go_sem]) rfl ?_
      refine DPost.mk _ _ rfl ((HG1.out.drewN _).drewN _).none fun _ => ?_
      obtain ⟨es, hq, P, hP, hx⟩ := ((HE1.out.gr ((Gr.refl wr w.heap.size).drewN _) (Nat.lt_succ_self _)).gr ((Gr.refl _ w.heap.size).drewN _) (Nat.lt_succ_self _)).reads
      exact ⟨es, hq.done (by omega), P, fun b hb => ⟨by have := (hP b hb).1; omega, (hP b hb).2⟩, hx⟩
end Go.Proofs.YtalmpddmhakdmaaGreat
