/-
  Rows of bytes that a call has made and fills, beside the spec's parser in memory. Conditions: as each lemma states.
-/
import Derived.Test.YtalmpddmhakdmaaGreatCEsc
import Derived.Lib.AppendStr
import Derived.StillTailTactics
namespace Go.Proofs.YtalmpddmhakdmaaGreat
open Go.RowKit

theorem Tryz.info5 : (Tryz.prog.info? 5).map (fun i => (i.zero, i.size, i.bytes)) = some (some (.int .u8 0), 1, 1) := by kernel_rfl

/-- A byte as a cell. -/
def byt (c : UInt8) : Value := .int .u8 (c.toNat : Int)
/-- A value that owns a row of bytes, in a block from a base on. -/
def Own (w : World) (base : Nat) (v : Value) (l : List UInt8) : Prop := w.ownsRow base 5 1 v l.length (l.map byt) ∧ v ≠ .slice none 0 0

theorem Own.lt {w : World} {base : Nat} {v : Value} {l : List UInt8} (h : Own w base v l) : ∀ k, v.ownBlock = some k → base ≤ k := fun k hk => (h.1.lt k hk).1
theorem Own.grown {w w' : World} {base : Nat} {v : Value} {l : List UInt8} {row : Option Nat} (h : Own w base v l) (hg : w.grownBy w' row) (hne : ∀ k, row = some k → k < base) : Own w' base v l :=
  ⟨h.1.kept hg (by
    rcases hv : v.ownBlock with _ | k
    · exact .inl rfl
    · refine .inr fun e => ?_
      have h1 := h.lt k hv
      have h2 := hne k e.symm
      omega), h.2⟩
theorem Own.drewN {w : World} {base : Nat} {v : Value} {l : List UInt8} (h : Own w base v l) (n : Nat) : Own (w.drewN n) base v l := h.grown (row := none) ⟨rfl, rfl, rfl, Nat.le_refl _, fun _ _ _ => rfl⟩ fun k hk => by cases hk
theorem Own.drew {w : World} {base : Nat} {v : Value} {l : List UInt8} (h : Own w base v l) : Own w.drew base v l := h.grown (row := none) ⟨rfl, rfl, rfl, Nat.le_refl _, fun _ _ _ => rfl⟩ fun k hk => by cases hk
theorem Own.setCell {w : World} {base : Nat} {v : Value} {l : List UInt8} (h : Own w base v l) (p : Addr) (hp : p.block < base) (u : Value) : Own (w.setCell p u) base v l :=
  h.grown (row := some p.block) ⟨rfl, rfl, rfl, by simp [World.setCell], fun k _ hne => Below.heap_setCell w p u k (fun e => hne (by rw [e]))⟩ fun k hk => by cases hk; exact hp
theorem Own.alloc {w : World} {base : Nat} {v : Value} {l : List UInt8} (h : Own w base v l) (o : Obj) : Own (w.alloc o) base v l :=
  h.grown (row := none) (World.grownBy_alloc _ _ _) fun k hk => by cases hk
theorem Own.gr {w w' : World} {base pb : Nat} {v : Value} {l : List UInt8} (h : Own w base v l) (hg : Gr w w' pb) (hp : pb < base) : Own w' base v l :=
  h.grown hg fun k hk => by cases hk; exact hp
theorem Own.made {w : World} {base : Nat} (hb : base ≤ w.heap.size) : Own (w.alloc (.cells #[] 5)) base (.slice (some ⟨w.heap.size, 0, none⟩) 0 0) [] :=
  ⟨World.ownsRow_made w #[] 0 hb (by decide) rfl, by simp⟩
theorem Own.made' {w : World} {base : Nat} (hb : w.heap.size = base) : Own (w.alloc (.cells #[] 5)) base (.slice (some ⟨base, 0, none⟩) 0 0) [] := by
  have h := Own.made (w := w) (base := base) (by omega)
  rw [hb] at h
  exact h
theorem Own.conv {w : World} {base : Nat} {v : Value} {l : List UInt8} (h : Own w base v l) : (convert 22 9 v).run Tryz.prog w = .ok (.string ⟨l.toArray⟩) w := by
  rcases h.1.2 with ⟨h1, _⟩ | ⟨g, cap, cur, rfl, _⟩
  · exact absurd h1 h.2
  · refine run_conv _ _ _ _ rfl fun j x hj => ?_
    exact h.1.cells (g := g) rfl j _ (by rw [List.getElem?_map, hj]; rfl)

theorem Own.app {w w' : World} {base : Nat} {v v' : Value} {l : List UInt8} {s : ByteArray} (h : Own w base v l) (h2 : w'.ownsRow base 5 1 v' (l.length + s.size) (l.map byt ++ Lib.strCells s)) (hn : v' = .slice none 0 0 ↔ v = .slice none 0 0 ∧ s.size = 0) : Own w' base v' (l ++ s.toList) := by
  refine ⟨?_, fun e => h.2 (hn.1 e).1⟩
  have e1 : (l ++ s.toList).length = l.length + s.size := by rw [List.length_append, ByteArray.toList_eq]; rfl
  have e2 : (l ++ s.toList).map byt = l.map byt ++ Lib.strCells s := by rw [List.map_append, ByteArray.toList_eq]; rfl
  rw [e1, e2]
  exact h2
theorem Own.app2 {w w' : World} {base : Nat} {v v' : Value} {l t : List UInt8} {n : Nat} (h : Own w base v l) (ht : t.length = n) (h2 : w'.ownsRow base 5 1 v' (l.length + n) (l.map byt ++ t.map byt)) (hn : v' = .slice none 0 0 ↔ v = .slice none 0 0 ∧ n = 0) : Own w' base v' (l ++ t) := by
  refine ⟨?_, fun e => h.2 (hn.1 e).1⟩
  rw [List.length_append, List.map_append, ht]
  exact h2
theorem byt_one (l : List UInt8) : ∀ u ∈ l.map byt, u.oneCell' = true := by
  intro u hu
  obtain ⟨x, _, rfl⟩ := List.mem_map.1 hu
  rfl
theorem byt_cells {w : World} {a : Addr} {l : List UInt8} (h : ∀ j x, l[j]? = some x → w.cell? (a.add j) = some (.int .u8 (x.toNat : Int))) : ∀ j u, (l.map byt)[j]? = some u → w.cell? (a.add j) = some u := by
  intro j u hu
  rw [List.getElem?_map] at hu
  cases hx : l[j]? with
  | none => rw [hx] at hu; cases hu
  | some x =>
    rw [hx] at hu
    cases hu
    exact h j x hx
theorem Gr.grown {w w1 w2 : World} {pb : Nat} {row : Option Nat} (h : Gr w w1 pb) (g : w1.grownBy w2 row) (hr : ∀ k, row = some k → w.heap.size ≤ k) : Gr w w2 pb :=
  ⟨g.os.trans h.os, g.tape.trans h.tape, g.output.trans h.output, Nat.le_trans h.size g.size, fun k hk hne =>
    (g.block k (Nat.lt_of_lt_of_le hk h.size) (fun e => by have := hr k e.symm; omega)).trans (h.block k hk hne)⟩
theorem SP.in_heap {w : World} {pb : Nat} {a : Addr} {C : Nat} {B : List UInt8} {k : Nat} {st : Int} (h : SP w pb a C B k st) : pb < w.heap.size ∧ (B ≠ [] → a.block < w.heap.size) :=
  ⟨cell_lt h.b, fun hne => by
    obtain ⟨c, l, rfl⟩ := List.exists_cons_of_ne_nil hne
    have := cell_lt (h.data 0 c rfl)
    rwa [add_block] at this⟩
theorem SP.grown {w w' : World} {pb base : Nat} {a : Addr} {C : Nat} {B : List UInt8} {k : Nat} {st : Int} {row : Option Nat} (h : SP w pb a C B k st) (hg : w.grownBy w' row) (hr : ∀ k, row = some k → base ≤ k) (hp : pb < base) (ha : B ≠ [] → a.block < base) : SP w' pb a C B k st :=
  h.blocks (hg.block pb h.in_heap.1 fun e => by have := hr pb e.symm; omega) fun hne => hg.block a.block (h.in_heap.2 hne) fun e => by have := hr _ e.symm; have := ha hne; omega

/-- What a loop over the parser lowers. -/
def msr (B : List UInt8) (pb : Nat) (w : World) : Nat := 2 * (B.length - (intOf ((w.cell? ⟨pb, 1, none⟩).getD undef)).toNat) + (if intOf ((w.cell? ⟨pb, 2, none⟩).getD undef) = 0 then 1 else 0)
theorem SP.msr {w : World} {pb : Nat} {a : Addr} {C : Nat} {B : List UInt8} {k : Nat} {st : Int} (h : SP w pb a C B k st) : msr B pb w = 2 * (B.length - k) + (if st = 0 then 1 else 0) := by
  unfold YtalmpddmhakdmaaGreat.msr
  rw [h.at', h.st']
  rfl
end Go.Proofs.YtalmpddmhakdmaaGreat

/-
  The walk of a function of the spec's parser: a text of one line between quotes. Conditions: the parser lies in memory as stated.
-/
namespace Go.Proofs.YtalmpddmhakdmaaGreat
open Go.RowKit

/-- A text of one line, behind its first quote: where it ends, what it tells. -/
inductive TxR (q : UInt8) (B : List UInt8) : Nat → Nat → List UInt8 → Prop
  | stop {i : Nat} : i < B.length → pk B i = q → TxR q B i (i + 1) []
  | esc {i m j : Nat} {t u : List UInt8} : i < B.length → pk B i ≠ q → pk B i = 92 → q = 34 → EscR B (i + 1) m t → TxR q B m j u → TxR q B i j (t ++ u)
  | sgn {i j : Nat} {u : List UInt8} : i < B.length → pk B i ≠ q → ¬ (pk B i = 92 ∧ q = 34) → 0 < sgN B i → TxR q B (i + sgN B i) j u → TxR q B i j ((B.drop i).take (sgN B i) ++ u)

/-- What holds at the head of the loop. -/
def TxInv (pb : Nat) (a : Addr) (C : Nat) (B : List UInt8) (k : Nat) (st : Int) (w : World) (R : Nat → Nat → List UInt8 → Prop) (v : Value) (wr : World) : Prop :=
  ∃ (i : Nat) (s1 : Int) (acc : List UInt8), SP wr pb a C B i s1 ∧ Gr w wr pb ∧ k ≤ i ∧ i ≤ B.length ∧ Own wr w.heap.size v acc ∧ acc.length ≤ 4 * i ∧ (s1 = 0 → st = 0 ∧ ∀ j t, R i j t → R k j (acc ++ t))

theorem enc_len (r : Int) : (Utf8.encode r).toList.length ≤ 4 := by
  have h := (enc_size r).2
  rw [ByteArray.toList_eq]
  exact h
theorem esc_len {B : List UInt8} {i j : Nat} {t : List UInt8} (h : EscR B i j t) : t.length ≤ 4 ∧ i < j := by
  cases h with
  | one _ _ => exact ⟨by simp, Nat.lt_succ_self _⟩
  | uni _ _ _ _ => exact ⟨enc_len _, Nat.lt_of_lt_of_le (Nat.lt_succ_self i) (Nat.le_add_right _ _)⟩

set_option maxRecDepth 100000 in
set_option maxHeartbeats 1000000 in
theorem text_any {w : World} {pb : Nat} {a : Addr} {C : Nat} {B : List UInt8} {k : Nat} {st : Int} (hS : SP w pb a C B k st) (hk : k < B.length) (q : UInt8) :
    Calls Tryz.prog 25 #[.pointer (some ⟨pb, 0, none⟩), .int .u8 (q.toNat : Int)] w (TPost pb a C B k st w (TxR q B (k + 1))) := by
  obtain ⟨i0, hi, hz0, hz1, hz2⟩ := info_parts Tryz.info5
  have hin := hS.in_heap
  have HS := Lib.hid hS
  have h2 := hS.at'
  have f1 := hS.f1
  have hl := hS.len
  clear hS
  go_enter Tryz.func25, Tryz.ntmps25
  go_wp2_with fail
  go_loopw [5] (fun v wr => TxInv pb a C B (k + 1) st w (TxR q B) v wr) (fun _ wr => msr B pb wr)
  case atStart => exact ⟨k + 1, st, [], (HS.out.setAt (k + 1) (by omega)).alloc _, ((Gr.refl _ _).setCell _ _).alloc _, Nat.le_refl _, hk, Own.made' (by simp [World.setCell]), Nat.zero_le _, fun h => ⟨h, fun _ _ h => h⟩⟩
  case round =>
    obtain ⟨i, s1, acc, hS, hG, hki, hi', hown, hacc, hrel⟩ := hrel
    have HS1 := Lib.hid hS
    have HG := Lib.hid hG
    have HR := Lib.hid hrel
    have HOWN := Lib.hid hown
    have hat := hS.at'
    have hst := hS.st'
    have hf1 := hS.f1
    have hb := hS.b
    clear hS hG hrel hown h2 f1
    by_cases h0 : s1 = 0
    · subst h0
      have hst0 : st = 0 := (HR.out rfl).1
      have hrel := (HR.out rfl).2
      have HREL := Lib.hid hrel
      have HP := Lib.hid (peek_any HS1.out 0 i (by omega) (by omega))
      clear hrel
      obtain ⟨c, hc⟩ : ∃ c, pk B i = c := ⟨_, rfl⟩
      rw [hc] at HP
      have HC := Lib.hid hc
      clear hc
      by_cases hend : B.length ≤ i
      · have hd : decide (B.length ≤ i) = true := by simp; omega
        go_wp2_with fail
        refine (HP.out).mono ?_
        rintro e w' ⟨rfl, m, rfl⟩
        go_wp2_with fail
        go_quiet (fail)
        go_wp2_with fail
        refine (fail_any (HS1.out.drewN _)).mono ?_
        rintro e w' ⟨rfl, hS3, hG3⟩
        have HS3 := Lib.hid hS3
        have HG3 := Lib.hid hG3
        clear hS3 hG3
        go_wp2_with fail
        go_roundw
        case rel => exact ⟨_, _, acc, HS3.out, (HG.out.drewN _).trans HG3.out, by omega, Nat.le_refl _, (HOWN.out.drewN _).gr HG3.out hin.1, by omega, fun h => absurd h (by decide)⟩
        case measure =>
          rw [HS3.out.msr, HS1.out.msr]
          simp
      · have hd : decide (B.length ≤ i) = false := by simp; omega
        have HCV := Lib.hid (fun (n : Nat) => (HOWN.out.drewN n).conv)
        by_cases hq : c = q
        · have t1 : ((c.toNat : Int) == (q.toNat : Int)) = true := by rw [hq]; exact beq_self_eq_true _
          have hres : TxR q B i (i + 1) [] := .stop (by omega) (by rw [HC.out]; exact hq)
          have HRES := Lib.hid hres
          have hcv := fun (n : Nat) => ((HOWN.out.drewN n).setCell ⟨pb, 1, none⟩ hin.1 (.int .i64 ((i : Int) + 1))).conv
          clear hres hq
          go_wp2_with fail
          refine (HP.out).mono ?_
          rintro e w' ⟨rfl, m, rfl⟩
          go_wp2_with fail
          go_quiet (fail)
          go_wp2_with fail
          go_ret
          refine TPost.mk _ rfl (SPost.mk ((HS1.out.drewN _).setAt (i + 1) (by omega)) ((HG.out.drewN _).setCell _ _) (by omega) (by omega) fun h => ⟨hst0, ?_⟩)
          rw [ByteArray.toList_mk]
          have := HREL.out _ _ HRES.out
          rwa [List.append_nil] at this
        · have t1 : ((c.toNat : Int) == (q.toNat : Int)) = false := byte_ne hq rfl
          have HQ := Lib.hid hq
          clear hq
          by_cases h92 : c = 92 ∧ q = 34
          · have t2 := byte_eq h92.1 (n := 92) rfl
            have t3 := byte_eq h92.2 (n := 34) rfl
            have H92 := Lib.hid h92
            clear h92
            go_wp2_with fail
            refine (HP.out).mono ?_
            rintro e w' ⟨rfl, m, rfl⟩
            go_wp2_with fail
            go_quiet (fail)
            go_wp2_with fail
            refine (escape_any ((HS1.out.drewN _).setAt (i + 1) (by omega)) (by omega)).mono ?_
            rintro e w2 ⟨s, rfl, hs4, j2, s2, hS2, hG2, hj2, hj2', hr2⟩
            have HS2 := Lib.hid hS2
            have HG2 := Lib.hid hG2
            have HR2 := Lib.hid hr2
            have hown2 := (((HOWN.out.drewN (m + nq)).setCell ⟨pb, 1, none⟩ hin.1 (.int .i64 ((i + 1 : Nat) : Int))).gr hG2 hin.1)
            have HO2 := Lib.hid hown2
            have hsz : w.heap.size ≤ w2.heap.size := by
              have h1 := HG.out.size
              have h2 := hG2.size
              simp [World.setCell] at h2
              omega
            clear hS2 hG2 hr2 hown2
            go_wp2_with (at_builtin; refine Lib.wpList_append_own_string _ rfl _ _ 22 9 rfl w.heap.size 5 i0 Tryz.underlying22 Tryz.underlying9 hi hz0 hz1 hz2 u5 acc.length (acc.map byt) rfl HO2.out.1 s rfl (by unfold maxLen; omega) (by omega) hsz ?_; intro v' w3 hown3 hgrow3 hnil3)
            have HS3 := Lib.hid (HS2.out.grown hgrow3 HO2.out.lt hin.1 hin.2)
            have HO3 := Lib.hid (HO2.out.app hown3 hnil3)
            have HG3 := Lib.hid (((((HG.out.drewN (m + nq)).setCell 1 _).trans HG2.out)).grown hgrow3 HO2.out.lt)
            clear hown3 hgrow3 hnil3
            go_roundw
            case rel => exact ⟨j2, s2, acc ++ s.toList, HS3.out, HG3.out, by omega, hj2', HO3.out, by rw [List.length_append, ByteArray.toList_eq, Array.length_toList]; show acc.length + s.size ≤ _; omega, fun h => ⟨hst0, fun j t ht => by
              have h2 := HREL.out j (s.toList ++ t) (.esc (by omega) (by rw [HC.out]; exact HQ.out) (by rw [HC.out]; exact H92.out.1) H92.out.2 (HR2.out h).2 ht)
              rwa [← List.append_assoc] at h2⟩⟩
            case measure =>
              rw [HS3.out.msr, HS1.out.msr]
              split <;> simp <;> omega
          · have hcase : c ≠ 92 ∨ (c = 92 ∧ q ≠ 34) := by
              by_cases h : c = 92
              · exact .inr ⟨h, fun e => h92 ⟨h, e⟩⟩
              · exact .inl h
            have H92 := Lib.hid h92
            clear h92
            rcases hcase with hx | ⟨hx, hy⟩
            · have t2 := byte_ne hx (n := 92) rfl
              clear hx
              go_wp2_with fail
              refine (HP.out).mono ?_
              rintro e w' ⟨rfl, m, rfl⟩
              go_wp2_with fail
              go_quiet (fail)
              go_wp2_with fail
              refine (sign_any (HS1.out.drewN _)).mono ?_
              rintro e w2 ⟨n, b, rfl, hb2, hn4, hS2, hG2⟩
              have HS2 := Lib.hid hS2
              have HB2 := Lib.hid hb2
              have HO2 := Lib.hid ((HOWN.out.drewN _).gr hG2 hin.1)
              have HG2 := Lib.hid ((HG.out.drewN _).trans hG2)
              have hsz : w.heap.size ≤ w2.heap.size := HG2.out.size
              have hb' := hS2.b
              have hat' := hS2.at'
              have hf1' := hS2.f1
              have hCC := hS2.cap
              clear hS2 hG2 hb2
              cases b with
              | false =>
                go_wp2_with fail
                refine (fail_any HS2.out).mono ?_
                rintro e w' ⟨rfl, hS3, hG3⟩
                have HS3 := Lib.hid hS3
                have HG3 := Lib.hid hG3
                clear hS3 hG3
                go_wp2_with fail
                go_ret
                exact TPost.mk _ rfl (SPost.mk HS3.out (HG2.out.trans HG3.out) (by omega) (Nat.le_refl _) fun h => absurd h (by decide))
              | true =>
                have hsg := HB2.out rfl
                have hle := sgN_in (hsg.1 ▸ hsg.2)
                rw [← hsg.1] at hle
                have hlt : 0 < n := hsg.2
                have HSG2 := Lib.hid hsg
                have hCk : ¬ C = i := by omega
                have htl : ((B.drop i).take n).length = n := by rw [List.length_take, List.length_drop]; omega
                have HPART := Lib.hid (fun (m : Nat) => (HS2.out.drewN m).part i n)
                have HTL := Lib.hid htl
                clear hsg htl
                go_wp2_with fail
                have hb3 : World.cell? { w2 with drawn := w2.drawn + 1 } ⟨pb, 0, none⟩ = some (.slice (some a) B.length C) := hb'
                have hat3 : World.cell? { w2 with drawn := w2.drawn + 1 } ⟨pb, 1, none⟩ = some (.int .i64 i) := hat'
                have hw1 : IntKind.i64.wrap ((i : Int) + (n : Int)) = (i : Int) + (n : Int) := IntWalk.i64_in _ (by omega)
                have hw2 : ((i : Int) + (n : Int)).toNat = i + n := by omega
                have hw3 : (0 : Int) ≤ (i : Int) + (n : Int) := by omega
                have hw4 : (i : Int) ≤ (i : Int) + (n : Int) := by omega
                have hw5 : (i : Int) + (n : Int) ≤ (C : Int) := by omega
                have hw6 : i ≤ i + n := by omega
                have hw7 : i + n ≤ C := by omega
                go_still_tail 16, (by kernel_rfl)
                change wpList _ _ _ _ _ w2.drew
                obtain ⟨w4, hw4e⟩ : ∃ w4, w4 = w2.drew := ⟨_, rfl⟩
                rw [← hw4e]
                have HS4 := Lib.hid (hw4e ▸ HS2.out.drewN 1 : SP w4 pb a C B i 0)
                have HO4 := Lib.hid (hw4e ▸ HO2.out.drew : Own w4 w.heap.size u5 acc)
                have HG4 := Lib.hid (hw4e ▸ HG2.out.drewN 1 : Gr w w4 pb)
                have hsz4 : w.heap.size ≤ w4.heap.size := HG4.out.size
                have HNW := Lib.hid (byt_cells (HS4.out.part i n))
                clear hw4e hb3 hat3 hb' hat' hf1' hw1 hw2 hw3 hw4 hw5 hw6 hw7
                go_wp2_with (at_builtin; (refine wpList_append_own _ rfl _ _ 22 rfl w.heap.size 5 i0 (.int .u8 0) 1 1 Tryz.underlying22 hi hz0 hz1 hz2 rfl (by decide) u5 acc.length (acc.map byt) rfl HO4.out.1 (a.add i) n _ (((B.drop i).take n).map byt) rfl (by rw [List.length_map, HTL.out, Nat.mul_one]) HNW.out (byt_one _) (by unfold maxLen; omega) (by omega) hsz4 ?_); intro v' w3 hown3 hgrow3 hnil3; have hS3 := HS4.out.grown hgrow3 HO4.out.lt hin.1 hin.2; have hat3 := hS3.at'; have hf3 := hS3.f1; have HS3 := Lib.hid hS3; clear hS3; have HO3 := Lib.hid (HO4.out.app2 HTL.out hown3 hnil3); have HG3 := Lib.hid (HG4.out.grown hgrow3 HO4.out.lt); clear hown3 hgrow3 hnil3)
                go_roundw
                case rel => exact ⟨i + n, 0, acc ++ (B.drop i).take n, HS3.out.setAt (i + n) (by omega), HG3.out.setCell _ _, by omega, by omega, HO3.out.setCell _ hin.1 _, by rw [List.length_append, HTL.out]; omega, fun h => ⟨hst0, fun j t ht => by
                  have h2 := HREL.out j ((B.drop i).take (sgN B i) ++ t) (.sgn (by omega) (by rw [HC.out]; exact HQ.out) (by rw [HC.out]; exact H92.out) (HSG2.out.1 ▸ HSG2.out.2) (HSG2.out.1 ▸ ht))
                  rw [← HSG2.out.1, ← List.append_assoc] at h2
                  exact h2⟩⟩
                case measure =>
                  show msr B pb (w3.setCell ⟨pb, 1, none⟩ (.int .i64 ((i + n : Nat) : Int))) < msr B pb wr
                  rw [(HS3.out.setAt (i + n) (by omega)).msr, HS1.out.msr]
                  simp
                  omega
            · have t2 := byte_eq hx (n := 92) rfl
              have t3 := byte_ne hy (n := 34) rfl
              clear hx hy
              go_wp2_with fail
              refine (HP.out).mono ?_
              rintro e w' ⟨rfl, m, rfl⟩
              go_wp2_with fail
              go_quiet (fail)
              go_wp2_with fail
              refine (sign_any (HS1.out.drewN _)).mono ?_
              rintro e w2 ⟨n, b, rfl, hb2, hn4, hS2, hG2⟩
              have HS2 := Lib.hid hS2
              have HB2 := Lib.hid hb2
              have HO2 := Lib.hid ((HOWN.out.drewN _).gr hG2 hin.1)
              have HG2 := Lib.hid ((HG.out.drewN _).trans hG2)
              have hsz : w.heap.size ≤ w2.heap.size := HG2.out.size
              have hb' := hS2.b
              have hat' := hS2.at'
              have hf1' := hS2.f1
              have hCC := hS2.cap
              clear hS2 hG2 hb2
              cases b with
              | false =>
                go_wp2_with fail
                refine (fail_any HS2.out).mono ?_
                rintro e w' ⟨rfl, hS3, hG3⟩
                have HS3 := Lib.hid hS3
                have HG3 := Lib.hid hG3
                clear hS3 hG3
                go_wp2_with fail
                go_ret
                exact TPost.mk _ rfl (SPost.mk HS3.out (HG2.out.trans HG3.out) (by omega) (Nat.le_refl _) fun h => absurd h (by decide))
              | true =>
                have hsg := HB2.out rfl
                have hle := sgN_in (hsg.1 ▸ hsg.2)
                rw [← hsg.1] at hle
                have hlt : 0 < n := hsg.2
                have HSG2 := Lib.hid hsg
                have hCk : ¬ C = i := by omega
                have htl : ((B.drop i).take n).length = n := by rw [List.length_take, List.length_drop]; omega
                have HPART := Lib.hid (fun (m : Nat) => (HS2.out.drewN m).part i n)
                have HTL := Lib.hid htl
                clear hsg htl
                go_wp2_with fail
                have hb3 : World.cell? { w2 with drawn := w2.drawn + 1 } ⟨pb, 0, none⟩ = some (.slice (some a) B.length C) := hb'
                have hat3 : World.cell? { w2 with drawn := w2.drawn + 1 } ⟨pb, 1, none⟩ = some (.int .i64 i) := hat'
                have hw1 : IntKind.i64.wrap ((i : Int) + (n : Int)) = (i : Int) + (n : Int) := IntWalk.i64_in _ (by omega)
                have hw2 : ((i : Int) + (n : Int)).toNat = i + n := by omega
                have hw3 : (0 : Int) ≤ (i : Int) + (n : Int) := by omega
                have hw4 : (i : Int) ≤ (i : Int) + (n : Int) := by omega
                have hw5 : (i : Int) + (n : Int) ≤ (C : Int) := by omega
                have hw6 : i ≤ i + n := by omega
                have hw7 : i + n ≤ C := by omega
                go_still_tail 16, (by kernel_rfl)
                change wpList _ _ _ _ _ w2.drew
                obtain ⟨w4, hw4e⟩ : ∃ w4, w4 = w2.drew := ⟨_, rfl⟩
                rw [← hw4e]
                have HS4 := Lib.hid (hw4e ▸ HS2.out.drewN 1 : SP w4 pb a C B i 0)
                have HO4 := Lib.hid (hw4e ▸ HO2.out.drew : Own w4 w.heap.size u5 acc)
                have HG4 := Lib.hid (hw4e ▸ HG2.out.drewN 1 : Gr w w4 pb)
                have hsz4 : w.heap.size ≤ w4.heap.size := HG4.out.size
                have HNW := Lib.hid (byt_cells (HS4.out.part i n))
                clear hw4e hb3 hat3 hb' hat' hf1' hw1 hw2 hw3 hw4 hw5 hw6 hw7
                go_wp2_with (at_builtin; (refine wpList_append_own _ rfl _ _ 22 rfl w.heap.size 5 i0 (.int .u8 0) 1 1 Tryz.underlying22 hi hz0 hz1 hz2 rfl (by decide) u5 acc.length (acc.map byt) rfl HO4.out.1 (a.add i) n _ (((B.drop i).take n).map byt) rfl (by rw [List.length_map, HTL.out, Nat.mul_one]) HNW.out (byt_one _) (by unfold maxLen; omega) (by omega) hsz4 ?_); intro v' w3 hown3 hgrow3 hnil3; have hS3 := HS4.out.grown hgrow3 HO4.out.lt hin.1 hin.2; have hat3 := hS3.at'; have hf3 := hS3.f1; have HS3 := Lib.hid hS3; clear hS3; have HO3 := Lib.hid (HO4.out.app2 HTL.out hown3 hnil3); have HG3 := Lib.hid (HG4.out.grown hgrow3 HO4.out.lt); clear hown3 hgrow3 hnil3)
                go_roundw
                case rel => exact ⟨i + n, 0, acc ++ (B.drop i).take n, HS3.out.setAt (i + n) (by omega), HG3.out.setCell _ _, by omega, by omega, HO3.out.setCell _ hin.1 _, by rw [List.length_append, HTL.out]; omega, fun h => ⟨hst0, fun j t ht => by
                  have h2 := HREL.out j ((B.drop i).take (sgN B i) ++ t) (.sgn (by omega) (by rw [HC.out]; exact HQ.out) (by rw [HC.out]; exact H92.out) (HSG2.out.1 ▸ HSG2.out.2) (HSG2.out.1 ▸ ht))
                  rw [← HSG2.out.1, ← List.append_assoc] at h2
                  exact h2⟩⟩
                case measure =>
                  show msr B pb (w3.setCell ⟨pb, 1, none⟩ (.int .i64 ((i + n : Nat) : Int))) < msr B pb wr
                  rw [(HS3.out.setAt (i + n) (by omega)).msr, HS1.out.msr]
                  simp
                  omega
    · have t0 : (s1 == 0) = false := by simpa using h0
      go_wp2_with fail
      go_ret
      exact ⟨_, rfl, SPost.mk HS1.out HG.out (by omega) hi' fun h => absurd h h0⟩
end Go.Proofs.YtalmpddmhakdmaaGreat
