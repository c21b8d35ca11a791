/-
  The spec's parser in memory, and the walks of its smallest functions: a byte at a place; that a text is wrong; that a text is not spoken of. Conditions: the parser lies in memory as stated.
-/
import Derived.Test.YtalmpddmhakdmaaGreatRows
import Derived.WalkKit
import Derived.WalkSpells
import Derived.WalkLawsBesides
import Derived.Lib.Hide
import Derived.BigQuiet
import Derived.Deep.DeepCutAuto
import Derived.Deep.CutBlock
import Derived.WalkMore
namespace Go.Proofs.YtalmpddmhakdmaaGreat
open Go.RowKit

/-- The byte at a place; 0 where there is none. -/
def pk (B : List UInt8) (i : Nat) : UInt8 := B.getD i 0

/-- The spec's parser in memory. -/
structure SP (w : World) (pb : Nat) (a : Addr) (C : Nat) (B : List UInt8) (k : Nat) (st : Int) : Prop where
  b : w.cell? ⟨pb, 0, none⟩ = some (.slice (some a) B.length C)
  at' : w.cell? ⟨pb, 1, none⟩ = some (.int .i64 k)
  st' : w.cell? ⟨pb, 2, none⟩ = some (.int .i64 st)
  f1 : w.frozen? ⟨pb, 1, none⟩ = false
  f2 : w.frozen? ⟨pb, 2, none⟩ = false
  ne : a.block ≠ pb
  len : B.length ≤ 65536
  far : k ≤ 70000
  cap : B.length ≤ C
  data : ∀ i c, B[i]? = some c → w.cell? (a.add i) = some (.int .u8 (c.toNat : Int))

/-- What a function of the spec's parser leaves as it was: all old blocks but the parser's. -/
abbrev Gr (w w' : World) (pb : Nat) : Prop := w.grownBy w' (some pb)

theorem Gr.refl (w : World) (pb : Nat) : Gr w w pb := ⟨rfl, rfl, rfl, Nat.le_refl _, fun _ _ _ => rfl⟩
theorem Gr.trans {w1 w2 w3 : World} {pb : Nat} (h : Gr w1 w2 pb) (g : Gr w2 w3 pb) : Gr w1 w3 pb :=
  ⟨g.os.trans h.os, g.tape.trans h.tape, g.output.trans h.output, Nat.le_trans h.size g.size,
    fun k hk hne => (g.block k (Nat.lt_of_lt_of_le hk h.size) hne).trans (h.block k hk hne)⟩
theorem Gr.drewN {w w' : World} {pb : Nat} (h : Gr w w' pb) (n : Nat) : Gr w (w'.drewN n) pb := ⟨h.os, h.tape, h.output, h.size, h.block⟩
theorem Gr.ofDrewN {w w' : World} {pb : Nat} {n : Nat} (h : Gr (w.drewN n) w' pb) : Gr w w' pb := ⟨h.os, h.tape, h.output, h.size, h.block⟩
theorem Gr.setCell {w w' : World} {pb : Nat} (h : Gr w w' pb) (off : Nat) (v : Value) : Gr w (w'.setCell ⟨pb, off, none⟩ v) pb :=
  h.trans ⟨rfl, rfl, rfl, by simp [World.setCell], fun k _ hne => Below.heap_setCell w' ⟨pb, off, none⟩ v k (fun e => hne (by rw [e]))⟩
theorem Gr.alloc {w w' : World} {pb : Nat} (h : Gr w w' pb) (o : Obj) : Gr w (w'.alloc o) pb := h.trans (World.grownBy_alloc _ _ _)

theorem cell_far (w : World) (p a : Addr) (v : Value) (h : p.block ≠ a.block) : (w.setCell p v).cell? a = w.cell? a := World.cell?_of_block (Below.heap_setCell w p v a.block (Ne.symm h))

theorem SP.drewN {w : World} {pb : Nat} {a : Addr} {C : Nat} {B : List UInt8} {k : Nat} {st : Int} (h : SP w pb a C B k st) (n : Nat) : SP (w.drewN n) pb a C B k st := ⟨h.b, h.at', h.st', h.f1, h.f2, h.ne, h.len, h.far, h.cap, h.data⟩

theorem SP.setAt {w : World} {pb : Nat} {a : Addr} {C : Nat} {B : List UInt8} {k : Nat} {st : Int} (h : SP w pb a C B k st) (k' : Nat) (hk : k' ≤ 70000) : SP (w.setCell ⟨pb, 1, none⟩ (.int .i64 k')) pb a C B k' st where
  b := (World.cell?_setCell_other w _ _ _ (by simp)).trans h.b
  at' := World.cell?_setCell_same w _ _ h.at'
  st' := (World.cell?_setCell_other w _ _ _ (by simp)).trans h.st'
  f1 := by rw [World.frozen?_setCell]; exact h.f1
  f2 := by rw [World.frozen?_setCell]; exact h.f2
  ne := h.ne
  len := h.len
  far := hk
  cap := h.cap
  data := fun i c hi => (cell_far w _ _ _ (by
    have hb : (a.add i).block = a.block := by unfold Addr.add; split <;> rfl
    rw [hb]; exact fun e => h.ne e.symm)).trans (h.data i c hi)

theorem SP.setSt {w : World} {pb : Nat} {a : Addr} {C : Nat} {B : List UInt8} {k : Nat} {st : Int} (h : SP w pb a C B k st) (st' : Int) : SP (w.setCell ⟨pb, 2, none⟩ (.int .i64 st')) pb a C B k st' where
  b := (World.cell?_setCell_other w _ _ _ (by simp)).trans h.b
  at' := (World.cell?_setCell_other w _ _ _ (by simp)).trans h.at'
  st' := World.cell?_setCell_same w _ _ h.st'
  f1 := by rw [World.frozen?_setCell]; exact h.f1
  f2 := by rw [World.frozen?_setCell]; exact h.f2
  ne := h.ne
  len := h.len
  far := h.far
  cap := h.cap
  data := fun i c hi => (cell_far w _ _ _ (by
    have hb : (a.add i).block = a.block := by unfold Addr.add; split <;> rfl
    rw [hb]; exact fun e => h.ne e.symm)).trans (h.data i c hi)

set_option maxHeartbeats 400000 in
theorem peek_any {w : World} {pb : Nat} {a : Addr} {C : Nat} {B : List UInt8} {k : Nat} {st : Int} (hS : SP w pb a C B k st) (n : Int) (i : Nat) (hi : (k : Int) + n = i) (hn : -1000000 ≤ n ∧ n ≤ 1000000) :
    Calls Tryz.prog 8 #[.pointer (some ⟨pb, 0, none⟩), .int .i64 n] w fun e w' => e = .returned (.int .u8 ((pk B i).toNat : Int)) ∧ ∃ m, w' = w.drewN m := by
  have h1 := hS.b
  have h2 := hS.at'
  have hl := hS.len
  have hf := hS.far
  have hC := hS.cap
  by_cases hlt : i < B.length
  · have hd := hS.data i B[i] (List.getElem?_eq_getElem hlt)
    have hp : pk B i = B[i] := by simp [pk, List.getD, hlt]
    rw [hp]
    generalize B[i] = c at hd
    clear hp hS
    go_enter Tryz.func8, Tryz.ntmps8
    go_wp2_with fail
    go_quiet (fail)
    go_wp2_with fail
    go_quiet (fail)
    go_wp2_with fail
    go_ret
    exact ⟨rfl, _, World.drewN_drewN _ _ _⟩
  · have hp : pk B i = 0 := by simp [pk, List.getD, hlt]
    rw [hp]
    clear hp hS
    go_enter Tryz.func8, Tryz.ntmps8
    go_wp2_with fail
    go_quiet (fail)
    go_wp2_with fail
    go_ret
    exact ⟨rfl, _, rfl⟩

set_option maxHeartbeats 400000 in
theorem fail_any {w : World} {pb : Nat} {a : Addr} {C : Nat} {B : List UInt8} {k : Nat} {st : Int} (hS : SP w pb a C B k st) :
    Calls Tryz.prog 11 #[.pointer (some ⟨pb, 0, none⟩)] w fun e w' => e = .returned (.tuple #[]) ∧ SP w' pb a C B B.length (if st = 0 then 1 else st) ∧ Gr w w' pb := by
  have h1 := hS.b
  have h2 := hS.at'
  have h3 := hS.st'
  have f1 := hS.f1
  have f2 := hS.f2
  have HS := Lib.hid hS
  have hl := hS.len
  clear hS
  by_cases h0 : st = 0
  · subst h0
    rw [if_pos rfl]
    go_enter Tryz.func11, Tryz.ntmps11
    go_wp2_with fail
    go_end0
    exact ⟨rfl, (HS.out.setSt 1).setAt _ (by omega), ((Gr.refl w pb).setCell _ _).setCell _ _⟩
  · rw [if_neg h0]
    go_enter Tryz.func11, Tryz.ntmps11
    go_wp2_with fail
    go_end0
    exact ⟨rfl, HS.out.setAt _ (by omega), (Gr.refl w pb).setCell _ _⟩

set_option maxHeartbeats 400000 in
theorem open_any {w : World} {pb : Nat} {a : Addr} {C : Nat} {B : List UInt8} {k : Nat} {st : Int} (hS : SP w pb a C B k st) :
    Calls Tryz.prog 27 #[.pointer (some ⟨pb, 0, none⟩)] w fun e w' => e = .returned (.tuple #[]) ∧ SP w' pb a C B B.length 2 ∧ Gr w w' pb := by
  have h1 := hS.b
  have h2 := hS.at'
  have h3 := hS.st'
  have f1 := hS.f1
  have f2 := hS.f2
  have HS := Lib.hid hS
  have hl := hS.len
  clear hS
  go_enter Tryz.func27, Tryz.ntmps27
  go_wp2_with fail
  go_end0
  exact ⟨rfl, (HS.out.setSt 2).setAt _ (by omega), ((Gr.refl w pb).setCell _ _).setCell _ _⟩
end Go.Proofs.YtalmpddmhakdmaaGreat

/-
  The walks of small functions of the spec's parser: whether a text stands at a place; over blanks. Conditions: the parser lies in memory as stated.
-/
namespace Go.Proofs.YtalmpddmhakdmaaGreat
open Go.RowKit

theorem run_conv {w : World} (a : Addr) (c : Nat) (l : List UInt8) (n : Nat) (hn : l.length = n) (h : ∀ j x, l[j]? = some x → w.cell? (a.add j) = some (.int .u8 (x.toNat : Int))) :
    (convert 22 9 (.slice (some a) n c)).run Tryz.prog w = .ok (.string ⟨l.toArray⟩) w := by
  have hl : (loadCells a n).run Tryz.prog w = .ok ((l.map (fun x => (x.toNat : Int))).map (Value.int .u8)).toArray w := by
    have := run_loadCells_list (P := Tryz.prog) w a ((l.map (fun x => (x.toNat : Int))).map (Value.int .u8)) (fun j v hj => by
      rw [List.getElem?_map, List.getElem?_map] at hj
      cases hx : l[j]? with
      | none => rw [hx] at hj; cases hj
      | some x =>
        rw [hx] at hj
        cases hj
        exact h j x hx)
    simpa [hn] using this
  rw [run_convert_bytes_string w 22 9 5 _ n c Tryz.underlying22 Tryz.underlying5 Tryz.underlying9, run_bytesToString w a n c _ hl, foldl_push_bytes]
  have e1 : (l.map (fun x => (x.toNat : Int))).map (fun n => UInt8.ofNat n.toNat) = l := by
    rw [List.map_map]
    conv => rhs; rw [← List.map_id l]
    refine List.map_congr_left fun x _ => ?_
    simp
  rw [e1]
  simp [ByteArray.empty, ByteArray.emptyWithCapacity]
  rfl

/-- Whether a text stands at a place. -/
def hasB (B : List UInt8) (k : Nat) (s : ByteArray) : Bool := decide (k + s.size ≤ B.length) && ((⟨((B.drop k).take s.size).toArray⟩ : ByteArray).toList == s.toList)

theorem SP.part {w : World} {pb : Nat} {a : Addr} {C : Nat} {B : List UInt8} {k : Nat} {st : Int} (hS : SP w pb a C B k st) (i n : Nat) : ∀ j x, ((B.drop i).take n)[j]? = some x → w.cell? ((a.add i).add j) = some (.int .u8 (x.toNat : Int)) := by
  intro j x hj
  rw [Addr.add_add]
  refine hS.data (i + j) x ?_
  rw [List.getElem?_take] at hj
  split at hj
  · rwa [List.getElem?_drop] at hj
  · cases hj

theorem SP.conv {w : World} {pb : Nat} {a : Addr} {C : Nat} {B : List UInt8} {k : Nat} {st : Int} (hS : SP w pb a C B k st) (i n : Nat) (hi : i + n ≤ B.length) (q c : Nat) :
    (convert 22 9 (.slice (some (a.add i)) n c)).run Tryz.prog (w.drewN q) = .ok (.string ⟨((B.drop i).take n).toArray⟩) (w.drewN q) :=
  run_conv _ _ _ _ (by rw [List.length_take, List.length_drop]; omega) ((hS.drewN q).part i n)

set_option maxHeartbeats 400000 in
theorem has_in {w : World} {pb : Nat} {a : Addr} {C : Nat} {B : List UInt8} {k : Nat} {st : Int} (hS : SP w pb a C B k st) (s : ByteArray) (hs : s.size ≤ 100) (h0 : 0 < s.size) :
    Calls Tryz.prog 10 #[.pointer (some ⟨pb, 0, none⟩), .string s] w fun e w' => e = .returned (.bool (hasB B k s)) ∧ ∃ m, w' = w.drewN m := by
  have h1 := hS.b
  have h2 := hS.at'
  have hl := hS.len
  have hf := hS.far
  have hC := hS.cap
  unfold hasB
  by_cases hlt : k + s.size ≤ B.length
  · have hd : decide ((k : Int) + (s.size : Int) ≤ (B.length : Int)) = true := by simp; omega
    have hcv := fun (q c : Nat) => hS.conv k s.size hlt q c
    have hCk : ¬ C = k := by omega
    rw [decide_eq_true hlt, Bool.true_and]
    generalize (⟨((B.drop k).take s.size).toArray⟩ : ByteArray) = T at *
    clear hS
    go_enter Tryz.func10, Tryz.ntmps10
    go_wp2_with fail
    go_quiet (fail)
    go_wp2_with fail
    go_ret
    exact ⟨rfl, _, rfl⟩
  · have hd : decide ((k : Int) + (s.size : Int) ≤ (B.length : Int)) = false := by simp; omega
    rw [decide_eq_false hlt, Bool.false_and]
    clear hS
    go_enter Tryz.func10, Tryz.ntmps10
    go_wp2_with fail
    go_quiet (fail)
    go_wp2_with fail
    go_ret
    exact ⟨rfl, _, rfl⟩

theorem pk_in {B : List UInt8} {k : Nat} (h : pk B k ≠ 0) : k < B.length := by
  rcases Nat.lt_or_ge k B.length with h1 | h1
  · exact h1
  · exact absurd (by simp [pk, List.getD, List.getElem?_eq_none h1]) h
theorem drop_pk {B : List UInt8} {k : Nat} (h : k < B.length) : B.drop k = pk B k :: B.drop (k + 1) := by
  rw [List.drop_eq_getElem_cons h]
  simp [pk, List.getD, h]

/-- A blank or a tab. -/
def bl (c : UInt8) : Bool := c == 32 || c == 9
/-- Behind the blanks. -/
def skp (B : List UInt8) (k : Nat) : Nat := k + ((B.drop k).takeWhile bl).length

theorem skp_more {B : List UInt8} {k : Nat} (h : bl (pk B k) = true) : skp B k = skp B (k + 1) := by
  have hk : k < B.length := pk_in (by intro e; rw [e] at h; revert h; decide)
  unfold skp
  rw [drop_pk hk, List.takeWhile_cons_of_pos h, List.length_cons]
  omega
theorem skp_stop {B : List UInt8} {k : Nat} (h : bl (pk B k) = false) : skp B k = k := by
  unfold skp
  rcases Nat.lt_or_ge k B.length with hk | hk
  · rw [drop_pk hk, List.takeWhile_cons_of_neg (by simp [h])]
    rfl
  · rw [List.drop_eq_nil_of_le hk]
    rfl
theorem skp_len {B : List UInt8} {k : Nat} (hk : k ≤ 70000) (hB : B.length ≤ 65536) : skp B k ≤ 70000 := by
  unfold skp
  have h1 : ((B.drop k).takeWhile bl).length ≤ (B.drop k).length := (List.takeWhile_prefix _).length_le
  rw [List.length_drop] at h1
  omega

set_option maxHeartbeats 400000 in
theorem blanks_any {w : World} {pb : Nat} {a : Addr} {C : Nat} {B : List UInt8} {k : Nat} {st : Int} (hS : SP w pb a C B k st) :
    Calls Tryz.prog 7 #[.pointer (some ⟨pb, 0, none⟩)] w fun e w' => e = .returned (.tuple #[]) ∧ SP w' pb a C B (skp B k) st ∧ Gr w w' pb := by
  have HS := Lib.hid hS
  have hl := hS.len
  have hf := hS.far
  clear hS
  go_enter Tryz.func7, Tryz.ntmps7
  go_wp2_with fail
  go_loopw [] (fun wr => ∃ i : Nat, SP wr pb a C B i st ∧ Gr w wr pb ∧ skp B i = skp B k ∧ wr.cell? ⟨pb, 1, none⟩ = some (.int .i64 i)) (fun wr => B.length - (intOf ((wr.cell? ⟨pb, 1, none⟩).getD undef)).toNat)
  case atStart => exact ⟨k, HS.out, Gr.refl _ _, rfl, HS.out.at'⟩
  case round =>
    obtain ⟨i, hS, hG, hi, hat⟩ := hrel
    have HP := Lib.hid (peek_any hS 0 i (by omega) (by omega))
    have HP2 := Lib.hid (fun n => peek_any (hS.drewN n) 0 i (by omega) (by omega))
    have f1 := hS.f1
    have HS' := Lib.hid hS
    have hfi := hS.far
    clear hS
    obtain ⟨c, hc⟩ : ∃ c, pk B i = c := ⟨_, rfl⟩
    rw [hc] at HP HP2
    by_cases h32 : c = 32
    · have hlt : i < B.length := pk_in (by rw [hc, h32]; decide)
      have hstep : skp B i = skp B (i + 1) := skp_more (by rw [hc, h32]; decide)
      have t1 : ((c.toNat : Int) == 32) = true := by rw [h32]; rfl
      clear h32 hc
      go_wp2_with (go_at_call 8; refine (HP.out).mono ?_; rintro e w' ⟨rfl, m, rfl⟩)
      go_roundw
      case rel => exact ⟨i + 1, (HS'.out.drewN m).setAt (i + 1) (by omega), (hG.drewN m).setCell _ _, hstep ▸ hi, World.cell?_setCell_same _ _ _ (HS'.out.drewN m).at'⟩
      case measure =>
        rw [World.cell?_setCell_same _ _ _ (HS'.out.drewN _).at', hat]
        simp [intOf]
        omega
    · have t1 : ((c.toNat : Int) == 32) = false := by
        simp only [beq_eq_false_iff_ne, ne_eq]
        intro h
        exact h32 (UInt8.toNat_inj.1 (by have : (32 : UInt8).toNat = 32 := rfl; omega))
      by_cases h9 : c = 9
      · have hlt : i < B.length := pk_in (by rw [hc, h9]; decide)
        have hstep : skp B i = skp B (i + 1) := skp_more (by rw [hc, h9]; decide)
        have t2 : ((c.toNat : Int) == 9) = true := by rw [h9]; rfl
        clear h9 h32 hc
        go_wp2_with first
          | (go_at_call 8; refine (HP.out).mono ?_; rintro e w' ⟨rfl, m, rfl⟩)
          | (go_at_call 8; refine (HP2.out _).mono ?_; rintro e w' ⟨rfl, m2, rfl⟩)
        go_roundw
        case rel => exact ⟨i + 1, (HS'.out.drewN _).setAt (i + 1) (by omega), (hG.drewN _).setCell _ _, hstep ▸ hi, World.cell?_setCell_same _ _ _ (HS'.out.drewN _).at'⟩
        case measure =>
          rw [World.cell?_setCell_same _ _ _ (HS'.out.drewN _).at', hat]
          simp [intOf]
          omega
      · have t2 : ((c.toNat : Int) == 9) = false := by
          simp only [beq_eq_false_iff_ne, ne_eq]
          intro h
          exact h9 (UInt8.toNat_inj.1 (by have : (9 : UInt8).toNat = 9 := rfl; omega))
        have hstop : skp B i = i := skp_stop (by rw [hc]; simp [bl, h32, h9])
        clear h9 h32 hc
        go_wp2_with first
          | (go_at_call 8; refine (HP.out).mono ?_; rintro e w' ⟨rfl, m, rfl⟩)
          | (go_at_call 8; refine (HP2.out _).mono ?_; rintro e w' ⟨rfl, m2, rfl⟩)
        go_end0
        rw [← hi, hstop]
        exact ⟨rfl, HS'.out.drewN _, hG.drewN _⟩
end Go.Proofs.YtalmpddmhakdmaaGreat

/-
  The walks of functions of the spec's parser: over the end of a line; how many figures stand at a place. Conditions: the parser lies in memory as stated.
-/
namespace Go.Proofs.YtalmpddmhakdmaaGreat
open Go.RowKit

theorem hasB_one {B : List UInt8} {k : Nat} (c : UInt8) (hc : c ≠ 0) : hasB B k ⟨#[c]⟩ = (pk B k == c) := by
  unfold hasB
  have e2 : (⟨#[c]⟩ : ByteArray).size = 1 := rfl
  have e3 : (⟨#[c]⟩ : ByteArray).toList = [c] := ByteArray.toList_mk [c]
  rw [ByteArray.toList_mk, e2, e3]
  rcases Nat.lt_or_ge k B.length with h | h
  · rw [decide_eq_true (by omega), Bool.true_and, drop_pk h]
    simp
  · rw [decide_eq_false (by omega), Bool.false_and]
    have : pk B k = 0 := by simp [pk, List.getD, List.getElem?_eq_none h]
    rw [this]
    exact (beq_eq_false_iff_ne.2 (Ne.symm hc)).symm

theorem hasB_two {B : List UInt8} {k : Nat} (c d : UInt8) (hd : d ≠ 0) : hasB B k ⟨#[c, d]⟩ = (pk B k == c && pk B (k + 1) == d) := by
  unfold hasB
  have e2 : (⟨#[c, d]⟩ : ByteArray).size = 2 := rfl
  have e3 : (⟨#[c, d]⟩ : ByteArray).toList = [c, d] := ByteArray.toList_mk [c, d]
  rw [ByteArray.toList_mk, e2, e3]
  rcases Nat.lt_or_ge (k + 1) B.length with h | h
  · rw [decide_eq_true (by omega), Bool.true_and, drop_pk (by omega : k < B.length), drop_pk h]
    simp
  · rw [decide_eq_false (by omega), Bool.false_and]
    have : pk B (k + 1) = 0 := by simp [pk, List.getD, List.getElem?_eq_none h]
    rw [this, beq_eq_false_iff_ne.2 (Ne.symm hd), Bool.and_false]

/-- How many bytes the end of a line has; 0 where none stands. -/
def lnN (B : List UInt8) (k : Nat) : Nat := if pk B k = 10 then 1 else if pk B k = 13 ∧ pk B (k + 1) = 10 then 2 else 0

set_option maxHeartbeats 400000 in
theorem line_any {w : World} {pb : Nat} {a : Addr} {C : Nat} {B : List UInt8} {k : Nat} {st : Int} (hS : SP w pb a C B k st) :
    Calls Tryz.prog 14 #[.pointer (some ⟨pb, 0, none⟩)] w fun e w' => e = .returned (.bool (lnN B k != 0)) ∧ SP w' pb a C B (k + lnN B k) st ∧ Gr w w' pb := by
  have H1 := Lib.hid (has_in hS ⟨#[10]⟩ (by decide) (by decide))
  have H2 := Lib.hid (fun n => has_in (hS.drewN n) ⟨#[13, 10]⟩ (by decide) (by decide))
  rw [hasB_one 10 (by decide)] at H1
  rw [hasB_two 13 10 (by decide)] at H2
  have HS := Lib.hid hS
  have h2 := hS.at'
  have f1 := hS.f1
  have hf := hS.far
  have hl := hS.len
  clear hS
  by_cases h10 : pk B k = 10
  · have hlt : k < B.length := pk_in (by rw [h10]; decide)
    have e : lnN B k = 1 := by rw [lnN, if_pos h10]
    rw [h10] at H1
    rw [e]
    clear e h10 H2
    go_enter Tryz.func14, Tryz.ntmps14
    go_wp2_with (go_at_call 10; refine (H1.out).mono ?_; rintro e w' ⟨rfl, m, rfl⟩)
    go_ret
    exact ⟨rfl, (HS.out.drewN _).setAt (k + 1) (by omega), ((Gr.refl w pb).drewN _).setCell _ _⟩
  · have t1 : (pk B k == 10) = false := beq_eq_false_iff_ne.2 h10
    rw [t1] at H1
    by_cases h13 : pk B k = 13 ∧ pk B (k + 1) = 10
    · have hlt : k + 1 < B.length := pk_in (by rw [h13.2]; decide)
      have e : lnN B k = 2 := by rw [lnN, if_neg h10, if_pos h13]
      have t2 : (pk B k == 13 && pk B (k + 1) == 10) = true := by rw [h13.1, h13.2]; rfl
      rw [t2] at H2
      rw [e]
      clear e h10 h13 t1 t2
      go_enter Tryz.func14, Tryz.ntmps14
      go_upto_region 4 with (go_at_call 10; refine (H1.out).mono ?_; rintro e w' ⟨rfl, m, rfl⟩)
      go_wp2_with (go_at_call 10; refine (H2.out _).mono ?_; rintro e w' ⟨rfl, m2, rfl⟩)
      go_ret
      exact ⟨rfl, (HS.out.drewN _).setAt (k + 2) (by omega), ((Gr.refl w pb).drewN _).setCell _ _⟩
    · have e : lnN B k = 0 := by rw [lnN, if_neg h10, if_neg h13]
      have t2 : (pk B k == 13 && pk B (k + 1) == 10) = false := by
        simp only [Bool.and_eq_false_iff, beq_eq_false_iff_ne, ne_eq]
        by_cases h : pk B k = 13
        · exact .inr fun h' => h13 ⟨h, h'⟩
        · exact .inl h
      rw [t2] at H2
      rw [e]
      clear e h10 h13 t1 t2
      go_enter Tryz.func14, Tryz.ntmps14
      go_upto_region 4 with (go_at_call 10; refine (H1.out).mono ?_; rintro e w' ⟨rfl, m, rfl⟩)
      go_wp2_with (go_at_call 10; refine (H2.out _).mono ?_; rintro e w' ⟨rfl, m2, rfl⟩)
      go_ret
      exact ⟨rfl, HS.out.drewN _, (Gr.refl w pb).drewN _⟩

/-- What a figure tells; 99 of others. -/
def vD (c : UInt8) : Nat := if 48 ≤ c.toNat ∧ c.toNat ≤ 57 then c.toNat - 48 else if 97 ≤ c.toNat ∧ c.toNat ≤ 102 then c.toNat - 87 else if 65 ≤ c.toNat ∧ c.toNat ≤ 70 then c.toNat - 55 else 99
/-- How many figures below a base stand at a place. -/
def dgN (B : List UInt8) (i base : Nat) : Nat := ((B.drop i).takeWhile fun c => decide (vD c < base)).length

theorem dgN_more {B : List UInt8} {i base : Nat} (hb : base ≤ 99) (h : vD (pk B i) < base) : dgN B i base = dgN B (i + 1) base + 1 := by
  have hk : i < B.length := pk_in (by intro e; rw [e] at h; have : vD 0 = 99 := by decide
                                      omega)
  unfold dgN
  rw [drop_pk hk, List.takeWhile_cons_of_pos (by simpa using h), List.length_cons]
theorem dgN_stop {B : List UInt8} {i base : Nat} (h : ¬ vD (pk B i) < base) : dgN B i base = 0 := by
  unfold dgN
  rcases Nat.lt_or_ge i B.length with hk | hk
  · rw [drop_pk hk, List.takeWhile_cons_of_neg (by simpa using h)]
    rfl
  · rw [List.drop_eq_nil_of_le hk]
    rfl

set_option maxRecDepth 100000 in
set_option maxHeartbeats 1000000 in
theorem digits_any {w : World} {pb : Nat} {a : Addr} {C : Nat} {B : List UInt8} {k : Nat} {st : Int} (hS : SP w pb a C B k st) (n : Int) (i base : Nat) (hi : (k : Int) + n = i) (hn : 0 ≤ n ∧ n ≤ 80000) (hb : base ≤ 16) :
    Calls Tryz.prog 65 #[.pointer (some ⟨pb, 0, none⟩), .int .i64 n, .int .i64 base] w fun e w' => e = .returned (.int .i64 (dgN B i base)) ∧ ∃ m, w' = w.drewN m := by
  have HP := Lib.hid (fun (q : Nat) (j : Nat) (hj : j ≤ 66000) => peek_any (hS.drewN q) (n + j) (i + j) (by omega) (by omega))
  have hl := hS.len
  have hf := hS.far
  have n0 := hn.1
  have n1 := hn.2
  clear hS hn
  go_enter Tryz.func65, Tryz.ntmps65
  go_wp2_with fail
  go_loopw [7] (fun v wr => ∃ (j q : Nat), wr = w.drewN q ∧ v = .int .i64 j ∧ j ≤ B.length ∧ dgN B i base = j + dgN B (i + j) base) (fun v _ => B.length - (intOf v).toNat)
  case atStart => exact ⟨0, 0, rfl, rfl, Nat.zero_le _, by rw [Nat.zero_add, Nat.add_zero]⟩
  case round =>
    obtain ⟨j, q, rfl, rfl, hj, hd⟩ := hrel
    have HD := Lib.hid hd
    clear hd
    have HP' := Lib.hid (HP.out q j (by omega))
    obtain ⟨c, hc⟩ : ∃ c, pk B (i + j) = c := ⟨_, rfl⟩
    rw [hc] at HP'
    have hc' := Lib.hid hc
    clear hc
    have hc := hc'
    clear hc'
    by_cases g48 : c.toNat < 48
    · have HV : Hid (vD c = 99) := by unfold vD; rw [if_neg (by omega), if_neg (by omega), if_neg (by omega)]; rfl
      have hv99 : 99 = vD c := HV.out.symm
      clear hv99
      go_wp2_with (go_at_call 8; refine (HP'.out).mono ?_; rintro e w' ⟨rfl, m, rfl⟩)
      go_ret
      have hd := HD.out
      rw [dgN_stop (i := i + j) (by rw [hc.out, HV.out]; omega)] at hd
      exact ⟨by rw [hd]; rfl, _, rfl⟩
    by_cases g58 : c.toNat < 58
    · have HV : Hid (vD c = c.toNat - 48) := by unfold vD; rw [if_pos (by omega)]; exact rfl
      by_cases hlt : c.toNat < base + 48
      · have hin : i + j < B.length := pk_in (by rw [hc.out]; intro e; have e2 := congrArg UInt8.toNat e; have h0 : (0 : UInt8).toNat = 0 := rfl; omega)
        go_wp2_with (go_at_call 8; refine (HP'.out).mono ?_; rintro e w' ⟨rfl, m, rfl⟩)
        go_roundw
        case rel => exact ⟨j + 1, _, rfl, by go_num, by omega, by have hd := HD.out; rw [dgN_more (i := i + j) (by omega) (by rw [hc.out, HV.out]; omega)] at hd; rw [← Nat.add_assoc]; omega⟩
        case measure => simp [intOf]; omega
      · go_wp2_with (go_at_call 8; refine (HP'.out).mono ?_; rintro e w' ⟨rfl, m, rfl⟩)
        go_ret
        have hd := HD.out
        rw [dgN_stop (i := i + j) (by rw [hc.out, HV.out]; omega)] at hd
        exact ⟨by rw [hd]; rfl, _, rfl⟩
    by_cases g65 : c.toNat < 65
    · have HV : Hid (vD c = 99) := by unfold vD; rw [if_neg (by omega), if_neg (by omega), if_neg (by omega)]; rfl
      have hv99 : 99 = vD c := HV.out.symm
      clear hv99
      go_wp2_with (go_at_call 8; refine (HP'.out).mono ?_; rintro e w' ⟨rfl, m, rfl⟩)
      go_ret
      have hd := HD.out
      rw [dgN_stop (i := i + j) (by rw [hc.out, HV.out]; omega)] at hd
      exact ⟨by rw [hd]; rfl, _, rfl⟩
    by_cases g71 : c.toNat < 71
    · have HV : Hid (vD c = c.toNat - 55) := by unfold vD; rw [if_neg (by omega), if_neg (by omega), if_pos (by omega)]; exact rfl
      by_cases hlt : c.toNat < base + 55
      · have hin : i + j < B.length := pk_in (by rw [hc.out]; intro e; have e2 := congrArg UInt8.toNat e; have h0 : (0 : UInt8).toNat = 0 := rfl; omega)
        go_wp2_with (go_at_call 8; refine (HP'.out).mono ?_; rintro e w' ⟨rfl, m, rfl⟩)
        go_roundw
        case rel => exact ⟨j + 1, _, rfl, by go_num, by omega, by have hd := HD.out; rw [dgN_more (i := i + j) (by omega) (by rw [hc.out, HV.out]; omega)] at hd; rw [← Nat.add_assoc]; omega⟩
        case measure => simp [intOf]; omega
      · go_wp2_with (go_at_call 8; refine (HP'.out).mono ?_; rintro e w' ⟨rfl, m, rfl⟩)
        go_ret
        have hd := HD.out
        rw [dgN_stop (i := i + j) (by rw [hc.out, HV.out]; omega)] at hd
        exact ⟨by rw [hd]; rfl, _, rfl⟩
    by_cases g97 : c.toNat < 97
    · have HV : Hid (vD c = 99) := by unfold vD; rw [if_neg (by omega), if_neg (by omega), if_neg (by omega)]; rfl
      have hv99 : 99 = vD c := HV.out.symm
      clear hv99
      go_wp2_with (go_at_call 8; refine (HP'.out).mono ?_; rintro e w' ⟨rfl, m, rfl⟩)
      go_ret
      have hd := HD.out
      rw [dgN_stop (i := i + j) (by rw [hc.out, HV.out]; omega)] at hd
      exact ⟨by rw [hd]; rfl, _, rfl⟩
    by_cases g103 : c.toNat < 103
    · have HV : Hid (vD c = c.toNat - 87) := by unfold vD; rw [if_neg (by omega), if_pos (by omega)]; exact rfl
      by_cases hlt : c.toNat < base + 87
      · have hin : i + j < B.length := pk_in (by rw [hc.out]; intro e; have e2 := congrArg UInt8.toNat e; have h0 : (0 : UInt8).toNat = 0 := rfl; omega)
        go_wp2_with (go_at_call 8; refine (HP'.out).mono ?_; rintro e w' ⟨rfl, m, rfl⟩)
        go_roundw
        case rel => exact ⟨j + 1, _, rfl, by go_num, by omega, by have hd := HD.out; rw [dgN_more (i := i + j) (by omega) (by rw [hc.out, HV.out]; omega)] at hd; rw [← Nat.add_assoc]; omega⟩
        case measure => simp [intOf]; omega
      · go_wp2_with (go_at_call 8; refine (HP'.out).mono ?_; rintro e w' ⟨rfl, m, rfl⟩)
        go_ret
        have hd := HD.out
        rw [dgN_stop (i := i + j) (by rw [hc.out, HV.out]; omega)] at hd
        exact ⟨by rw [hd]; rfl, _, rfl⟩
    have HV : Hid (vD c = 99) := by unfold vD; rw [if_neg (by omega), if_neg (by omega), if_neg (by omega)]; rfl
    have hv99 : 99 = vD c := HV.out.symm
    clear hv99
    go_wp2_with (go_at_call 8; refine (HP'.out).mono ?_; rintro e w' ⟨rfl, m, rfl⟩)
    go_ret
    have hd := HD.out
    rw [dgN_stop (i := i + j) (by rw [hc.out, HV.out]; omega)] at hd
    exact ⟨by rw [hd]; rfl, _, rfl⟩
end Go.Proofs.YtalmpddmhakdmaaGreat

/-
  The walks of functions of the spec's parser: the number in some figures; how many days a month has. Conditions: the parser lies in memory as stated.
-/
namespace Go.Proofs.YtalmpddmhakdmaaGreat
open Go.RowKit

/-- A figure. -/
def fig (c : UInt8) : Bool := decide (48 ≤ c.toNat) && decide (c.toNat ≤ 57)
theorem fig_iff {c : UInt8} : fig c = true ↔ 48 ≤ c.toNat ∧ c.toNat ≤ 57 := by simp [fig]
theorem fig_vD {c : UInt8} : (vD c < 10) ↔ fig c = true := by
  rw [fig_iff]
  unfold vD
  split
  · omega
  · split
    · omega
    · split <;> omega

/-- So many figures stand at a place. -/
def figsAt (B : List UInt8) (i n : Nat) : Prop := ∀ j, j < n → fig (pk B (i + j)) = true

set_option maxRecDepth 100000 in
set_option maxHeartbeats 1000000 in
theorem two_any {w : World} {pb : Nat} {a : Addr} {C : Nat} {B : List UInt8} {k : Nat} {st : Int} (hS : SP w pb a C B k st) (n : Int) (i f : Nat) (hi : (k : Int) + n = i) (hn : 0 ≤ n ∧ n ≤ 80000) (hf : f ≤ 4) :
    Calls Tryz.prog 51 #[.pointer (some ⟨pb, 0, none⟩), .int .i64 n, .int .i64 f] w fun e w' => ∃ v : Int, e = .returned (.int .i64 v) ∧ -1 ≤ v ∧ v ≤ 10000 ∧ (0 ≤ v ↔ figsAt B i f) ∧ ∃ m, w' = w.drewN m := by
  have HP := Lib.hid (fun (q : Nat) (j : Nat) (hj : j ≤ 66000) => peek_any (hS.drewN q) (n + j) (i + j) (by omega) (by omega))
  have n0 := hn.1
  have n1 := hn.2
  clear hS hn
  go_enter Tryz.func51, Tryz.ntmps51
  go_wp2_with fail
  go_loopw [7, 11] (fun v s wr => ∃ (x j q : Nat), wr = w.drewN q ∧ v = .int .i64 x ∧ s = .int .i64 j ∧ j ≤ f ∧ x < 10 ^ j ∧ figsAt B i j) (fun _ s _ => f - (intOf s).toNat)
  case atStart => exact ⟨0, 0, 0, rfl, rfl, rfl, Nat.zero_le _, by decide, fun j hj => absurd hj (by omega)⟩
  case round =>
    obtain ⟨x, j, q, rfl, rfl, rfl, hj, hx, hfg⟩ := hrel
    have hpow : 10 ^ j ≤ 10 ^ 4 := Nat.pow_le_pow_right (by decide) (by omega)
    have hx4 : x < 10000 := by omega
    have HX := Lib.hid hx
    have HF := Lib.hid hfg
    clear hx hfg hpow
    have HP' := Lib.hid (HP.out q j (by omega))
    obtain ⟨c, hc⟩ : ∃ c, pk B (i + j) = c := ⟨_, rfl⟩
    rw [hc] at HP'
    have HC := Lib.hid hc
    clear hc
    by_cases hlt : j < f
    · by_cases h48 : c.toNat < 48
      · go_wp2_with (go_at_call 8; refine (HP'.out).mono ?_; rintro e w' ⟨rfl, m, rfl⟩)
        go_ret
        refine ⟨-1, rfl, by omega, by omega, ⟨fun h => by omega, fun h => ?_⟩, _, rfl⟩
        have := fig_iff.1 (h j hlt)
        rw [HC.out] at this
        omega
      · by_cases h57 : 57 < c.toNat
        · go_wp2_with (go_at_call 8; refine (HP'.out).mono ?_; rintro e w' ⟨rfl, m, rfl⟩)
          go_ret
          refine ⟨-1, rfl, by omega, by omega, ⟨fun h => by omega, fun h => ?_⟩, _, rfl⟩
          have := fig_iff.1 (h j hlt)
          rw [HC.out] at this
          omega
        · go_wp2_with (go_at_call 8; refine (HP'.out).mono ?_; rintro e w' ⟨rfl, m, rfl⟩)
          go_roundw
          case rel => exact ⟨10 * x + (c.toNat - 48), j + 1, _, rfl, by go_num, by go_num, by omega, by have := HX.out; rw [Nat.pow_succ]; omega, fun t ht => by
            rcases Nat.lt_or_ge t j with h | h
            · exact HF.out t h
            · obtain rfl : t = j := by omega
              rw [HC.out]
              exact fig_iff.2 ⟨by omega, by omega⟩⟩
          case measure => simp [intOf]; omega
    · obtain rfl : j = f := by omega
      go_wp2_with fail
      go_ret
      exact ⟨x, rfl, by omega, by omega, ⟨fun _ => HF.out, fun _ => by omega⟩, _, rfl⟩

set_option maxHeartbeats 1000000 in
theorem month_any (y m : Int) (w : World) : Calls Tryz.prog 66 #[.int .i64 y, .int .i64 m] w fun e w' => (∃ v : Int, e = .returned (.int .i64 v)) ∧ w = w' := by
  go_enter Tryz.func66, Tryz.ntmps66
  go_wp2_with fail
  all_goals
    go_ret
    exact ⟨⟨_, rfl⟩, rfl⟩
end Go.Proofs.YtalmpddmhakdmaaGreat

/-
  The walk of a function of the spec's parser: how many signs a number of figures with strokes has. Conditions: the parser lies in memory as stated.
-/
namespace Go.Proofs.YtalmpddmhakdmaaGreat
open Go.RowKit

/-- A number of figures below a base with strokes between them: from one place to another. -/
inductive GrpR (B : List UInt8) (base : Nat) : Nat → Nat → Prop
  | stop {i : Nat} : 0 < dgN B i base → pk B (i + dgN B i base) ≠ 95 → GrpR B base i (i + dgN B i base)
  | more {i e : Nat} : 0 < dgN B i base → pk B (i + dgN B i base) = 95 → GrpR B base (i + dgN B i base + 1) e → GrpR B base i e

theorem dgN_le (B : List UInt8) (i base : Nat) : i + dgN B i base ≤ max i B.length := by
  have h : ((B.drop i).takeWhile fun c => decide (vD c < base)).length ≤ (B.drop i).length := (List.takeWhile_prefix _).length_le
  rw [List.length_drop] at h
  unfold dgN
  omega

set_option maxRecDepth 100000 in
set_option maxHeartbeats 1000000 in
theorem grouped_any {w : World} {pb : Nat} {a : Addr} {C : Nat} {B : List UInt8} {k : Nat} {st : Int} (hS : SP w pb a C B k st) (n : Int) (i base : Nat) (hi : (k : Int) + n = i) (hn : 0 ≤ n ∧ n ≤ 70000) (hi2 : i ≤ 70000) (hb : base ≤ 16) :
    Calls Tryz.prog 54 #[.pointer (some ⟨pb, 0, none⟩), .int .i64 n, .int .i64 base] w fun e w' => ∃ g : Nat, e = .returned (.int .i64 g) ∧ g ≤ 70000 ∧ (g ≠ 0 → GrpR B base i (i + g)) ∧ ∃ m, w' = w.drewN m := by
  have HP := Lib.hid (fun (q : Nat) (z : Int) (j : Nat) (hz : (k : Int) + z = j) (hz2 : -1000000 ≤ z ∧ z ≤ 1000000) => peek_any (hS.drewN q) z j hz hz2)
  have HG := Lib.hid (fun (q : Nat) (z : Int) (j : Nat) (hz : (k : Int) + z = j) (hz2 : 0 ≤ z ∧ z ≤ 80000) => digits_any (hS.drewN q) z j base hz hz2 hb)
  have hl := hS.len
  have hfar := hS.far
  have n0 := hn.1
  have n1 := hn.2
  clear hS hn
  go_enter Tryz.func54, Tryz.ntmps54
  go_wp2_with fail
  go_loopw [1] (fun v wr => ∃ (z : Int) (j q : Nat), wr = w.drewN q ∧ v = .int .i64 z ∧ (k : Int) + z = j ∧ n ≤ z ∧ z ≤ 75000 ∧ i ≤ j ∧ j ≤ max i (B.length + 1) ∧ (∀ e, GrpR B base j e → GrpR B base i e)) (fun v _ => 200000 - (intOf v).toNat)
  case atStart => exact ⟨n, i, 0, rfl, rfl, hi, Int.le_refl _, by omega, Nat.le_refl _, by omega, fun _ h => h⟩
  case round =>
    obtain ⟨z, j, q, rfl, rfl, hkz, hnz, hz7, hij, hj, hrel⟩ := hrel
    have HREL := Lib.hid hrel
    clear hrel
    have HG' := Lib.hid (HG.out q z j hkz ⟨by omega, by omega⟩)
    have hle := dgN_le B j base
    have hd1 : 0 < dgN B j base → j + dgN B j base ≤ B.length := by
      intro h
      unfold dgN at h ⊢
      have h2 : ((B.drop j).takeWhile fun c => decide (vD c < base)).length ≤ (B.drop j).length := (List.takeWhile_prefix _).length_le
      rw [List.length_drop] at h2
      omega
    obtain ⟨d, hd⟩ : ∃ d, dgN B j base = d := ⟨_, rfl⟩
    rw [hd] at HG' hle hd1
    have HD := Lib.hid hd
    clear hd
    by_cases h0 : d = 0
    · subst h0
      go_wp2_with (go_at_call 65; refine (HG'.out).mono ?_; rintro e w' ⟨rfl, m, rfl⟩)
      go_ret
      exact ⟨0, rfl, by omega, fun h => absurd rfl h, _, rfl⟩
    · have hd2 := hd1 (by omega)
      have HP' := Lib.hid (fun (q : Nat) => HP.out q (z + d) (j + d) (by omega) ⟨by omega, by omega⟩)
      clear hd1 hle
      have hd0 : ((d : Int) == 0) = false := by simp; omega
      by_cases h95 : pk B (j + d) = 95
      · have hin : j + d < B.length := pk_in (by rw [h95]; decide)
        rw [h95] at HP'
        go_wp2_with first
          | (go_at_call 65; refine (HG'.out).mono ?_; rintro e w' ⟨rfl, m, rfl⟩)
          | (go_at_call 8; refine (HP'.out _).mono ?_; rintro e w' ⟨rfl, m2, rfl⟩)
        go_roundw
        case rel => exact ⟨z + d + 1, j + d + 1, _, rfl, rfl, by omega, by omega, by omega, by omega, by omega, fun e he => HREL.out e (.more (by rw [HD.out]; omega) (by rw [HD.out]; exact h95) (by rw [HD.out]; exact he))⟩
        case measure => simp [intOf]; omega
      · have t1 : (((pk B (j + d)).toNat : Int) != 95) = true := by
          simp only [bne_iff_ne, ne_eq]
          intro h
          exact h95 (UInt8.toNat_inj.1 (by have : (95 : UInt8).toNat = 95 := rfl; omega))
        obtain ⟨c, hc⟩ : ∃ c, pk B (j + d) = c := ⟨_, rfl⟩
        rw [hc] at HP' t1 h95
        have HC := Lib.hid hc
        have H95 := Lib.hid h95
        clear hc h95
        have hres := HREL.out (j + d) (by
          have h := GrpR.stop (B := B) (base := base) (i := j) (by rw [HD.out]; omega) (by rw [HD.out, HC.out]; exact H95.out)
          rw [HD.out] at h
          exact h)
        have HRES := Lib.hid hres
        clear hres
        go_wp2_with first
          | (go_at_call 65; refine (HG'.out).mono ?_; rintro e w' ⟨rfl, m, rfl⟩)
          | (go_at_call 8; refine (HP'.out _).mono ?_; rintro e w' ⟨rfl, m2, rfl⟩)
        go_ret
        refine ⟨j + d - i, ?_, by omega, fun _ => ?_, _, rfl⟩
        · show Ending.returned (Value.int .i64 (z + d - n)) = _
          congr 2
          omega
        · rw [Nat.add_sub_cancel' (by omega)]
          exact HRES.out
end Go.Proofs.YtalmpddmhakdmaaGreat

/-
  The walk of a function of the spec's parser: how many signs a time of a day has. Conditions: the parser lies in memory as stated.
-/
namespace Go.Proofs.YtalmpddmhakdmaaGreat
open Go.RowKit

section
variable {w : World} {pb : Nat} {a : Addr} {C : Nat} {B : List UInt8} {k : Nat} {st : Int}
theorem two_yes (hS : SP w pb a C B k st) (n : Int) (i f : Nat) (hi : (k : Int) + n = i) (hn : 0 ≤ n ∧ n ≤ 80000) (hf : f ≤ 4) (h : figsAt B i f) :
    Calls Tryz.prog 51 #[.pointer (some ⟨pb, 0, none⟩), .int .i64 n, .int .i64 f] w fun e w' => ∃ v : Int, e = .returned (.int .i64 v) ∧ 0 ≤ v ∧ v ≤ 10000 ∧ ∃ m, w' = w.drewN m :=
  (two_any hS n i f hi hn hf).mono fun _ _ ⟨v, h1, _, h3, h4, h5⟩ => ⟨v, h1, h4.2 h, h3, h5⟩
theorem two_no (hS : SP w pb a C B k st) (n : Int) (i f : Nat) (hi : (k : Int) + n = i) (hn : 0 ≤ n ∧ n ≤ 80000) (hf : f ≤ 4) (h : ¬ figsAt B i f) :
    Calls Tryz.prog 51 #[.pointer (some ⟨pb, 0, none⟩), .int .i64 n, .int .i64 f] w fun e w' => ∃ v : Int, e = .returned (.int .i64 v) ∧ v = -1 ∧ v ≤ 10000 ∧ ∃ m, w' = w.drewN m :=
  (two_any hS n i f hi hn hf).mono fun _ _ ⟨v, h1, h2, h3, h4, h5⟩ => ⟨v, h1, by
    have : ¬ 0 ≤ v := fun e => h (h4.1 e)
    omega, h3, h5⟩
end

/-- A time of a day of so many signs. -/
def ClockR (B : List UInt8) (i n : Nat) : Prop :=
  figsAt B i 2 ∧ pk B (i + 2) = 58 ∧ figsAt B (i + 3) 2 ∧ pk B (i + 5) = 58 ∧ figsAt B (i + 6) 2 ∧
    ((pk B (i + 8) ≠ 46 ∧ n = 8) ∨ (pk B (i + 8) = 46 ∧ 0 < dgN B (i + 9) 10 ∧ n = 9 + dgN B (i + 9) 10))

theorem byte_ne {c d : UInt8} {n : Int} (h : c ≠ d) (hd : (d.toNat : Int) = n) : ((c.toNat : Int) == n) = false := by
  simp only [beq_eq_false_iff_ne, ne_eq]
  intro e
  exact h (UInt8.toNat_inj.1 (by omega))
theorem byte_eq {c d : UInt8} {n : Int} (h : c = d) (hd : (d.toNat : Int) = n) : ((c.toNat : Int) == n) = true := by
  rw [h, hd]
  exact beq_self_eq_true n

/-- What the walk over a time of a day ends with. -/
def ClockPost (B : List UInt8) (i : Nat) (w : World) (e : Ending) (w' : World) : Prop := ∃ (g : Nat) (b : Bool), e = .returned (.tuple #[.int .i64 g, .bool b]) ∧ g ≤ 70000 ∧ (g ≠ 0 → ClockR B i g) ∧ ∃ m, w' = w.drewN m
theorem ClockPost.mk {B : List UInt8} {i : Nat} {w : World} {e : Ending} {w' : World} (h : ∃ (g : Nat) (b : Bool), e = .returned (.tuple #[.int .i64 g, .bool b]) ∧ g ≤ 70000 ∧ (g ≠ 0 → ClockR B i g) ∧ ∃ m, w' = w.drewN m) : ClockPost B i w e w' := h

set_option maxRecDepth 100000 in
set_option maxHeartbeats 1000000 in
theorem clock_any {w : World} {pb : Nat} {a : Addr} {C : Nat} {B : List UInt8} {k : Nat} {st : Int} (hS : SP w pb a C B k st) (n : Int) (i : Nat) (hi : (k : Int) + n = i) (hn : 0 ≤ n ∧ n ≤ 100) :
    Calls Tryz.prog 53 #[.pointer (some ⟨pb, 0, none⟩), .int .i64 n] w fun e w' => ClockPost B i w e w' := by
  have n0 := hn.1
  have n1 := hn.2
  have P2 := Lib.hid (fun (q : Nat) => peek_any (hS.drewN q) (n + 2) (i + 2) (by omega) (by omega))
  have P5 := Lib.hid (fun (q : Nat) => peek_any (hS.drewN q) (n + 5) (i + 5) (by omega) (by omega))
  have P8 := Lib.hid (fun (q : Nat) => peek_any (hS.drewN q) (n + 8) (i + 8) (by omega) (by omega))
  have D9 := Lib.hid (fun (q : Nat) => digits_any (hS.drewN q) (n + 9) (i + 9) 10 (by omega) (by omega) (by decide))
  have TY0 := Lib.hid (two_yes hS n i 2 (by omega) (by omega) (by decide))
  have TY3 := Lib.hid (fun (q : Nat) => two_yes (hS.drewN q) (n + 3) (i + 3) 2 (by omega) (by omega) (by decide))
  have TY6 := Lib.hid (fun (q : Nat) => two_yes (hS.drewN q) (n + 6) (i + 6) 2 (by omega) (by omega) (by decide))
  have TN0 := Lib.hid (two_no hS n i 2 (by omega) (by omega) (by decide))
  have TN3 := Lib.hid (fun (q : Nat) => two_no (hS.drewN q) (n + 3) (i + 3) 2 (by omega) (by omega) (by decide))
  have TN6 := Lib.hid (fun (q : Nat) => two_no (hS.drewN q) (n + 6) (i + 6) 2 (by omega) (by omega) (by decide))
  have hl := hS.len
  have hfar := hS.far
  have hle : dgN B (i + 9) 10 ≤ 65536 := by
    have h2 : ((B.drop (i + 9)).takeWhile fun c => decide (vD c < 10)).length ≤ (B.drop (i + 9)).length := (List.takeWhile_prefix _).length_le
    rw [List.length_drop] at h2
    unfold dgN
    omega
  clear hS hn
  by_cases h0 : figsAt B i 2
  all_goals by_cases h3 : figsAt B (i + 3) 2
  all_goals by_cases h6 : figsAt B (i + 6) 2
  all_goals
    have H0 := Lib.hid h0
    have H3 := Lib.hid h3
    have H6 := Lib.hid h6
    clear h0 h3 h6
  · by_cases h2 : pk B (i + 2) = 58
    · by_cases h5 : pk B (i + 5) = 58
      · by_cases h8 : pk B (i + 8) = 46
        · have t2 := byte_eq h2 (n := 58) rfl
          have t5 := byte_eq h5 (n := 58) rfl
          have t8 := byte_eq h8 (n := 46) rfl
          have q2 : (((pk B (i + 2)).toNat : Int) != 58) = false := by simp [bne, t2]
          have q5 : (((pk B (i + 5)).toNat : Int) != 58) = false := by simp [bne, t5]
          by_cases hd : dgN B (i + 9) 10 = 0
          · have td : (((dgN B (i + 9) 10 : Nat) : Int) == 0) = true := by simp [hd]
            have HH := Lib.hid (And.intro h2 (And.intro h5 h8))
            clear h2 h5 h8 hd
            go_enter Tryz.func53, Tryz.ntmps53
            go_wp2_with fail
            refine (TY0.out H0.out).mono ?_
            rintro e w' ⟨v1, rfl, l1, u1, m1, rfl⟩
            go_wp2_with fail
            refine (TY3.out _ H3.out).mono ?_
            rintro e w' ⟨v2, rfl, l2, u2, m2, rfl⟩
            go_wp2_with fail
            refine (TY6.out _ H6.out).mono ?_
            rintro e w' ⟨v3, rfl, l3, u3, m3, rfl⟩
            go_wp2_with fail
            refine (P2.out _).mono ?_
            rintro e w' ⟨rfl, m4, rfl⟩
            go_wp2_with fail
            refine (P5.out _).mono ?_
            rintro e w' ⟨rfl, m5, rfl⟩
            go_wp2_with fail
            refine (P8.out _).mono ?_
            rintro e w' ⟨rfl, m6, rfl⟩
            go_wp2_with fail
            refine (D9.out _).mono ?_
            rintro e w' ⟨rfl, m7, rfl⟩
            go_wp2_with fail
            all_goals
              go_ret2
              exact ClockPost.mk ⟨0, _, rfl, by omega, fun h => absurd rfl h, _, rfl⟩
          · have td : (((dgN B (i + 9) 10 : Nat) : Int) == 0) = false := by simp; omega
            have hcl : ClockR B i (9 + dgN B (i + 9) 10) := ⟨H0.out, h2, H3.out, h5, H6.out, .inr ⟨h8, by omega, rfl⟩⟩
            have HCL := Lib.hid hcl
            clear h2 h5 h8 hd hcl
            go_enter Tryz.func53, Tryz.ntmps53
            go_wp2_with fail
            refine (TY0.out H0.out).mono ?_
            rintro e w' ⟨v1, rfl, l1, u1, m1, rfl⟩
            go_wp2_with fail
            refine (TY3.out _ H3.out).mono ?_
            rintro e w' ⟨v2, rfl, l2, u2, m2, rfl⟩
            go_wp2_with fail
            refine (TY6.out _ H6.out).mono ?_
            rintro e w' ⟨v3, rfl, l3, u3, m3, rfl⟩
            go_wp2_with fail
            refine (P2.out _).mono ?_
            rintro e w' ⟨rfl, m4, rfl⟩
            go_wp2_with fail
            refine (P5.out _).mono ?_
            rintro e w' ⟨rfl, m5, rfl⟩
            go_wp2_with fail
            refine (P8.out _).mono ?_
            rintro e w' ⟨rfl, m6, rfl⟩
            go_wp2_with fail
            refine (D9.out _).mono ?_
            rintro e w' ⟨rfl, m7, rfl⟩
            go_wp2_with fail
            all_goals
              go_ret2
              exact ClockPost.mk ⟨9 + dgN B (i + 9) 10, _, rfl, by omega, fun _ => HCL.out, _, rfl⟩
        · have t2 := byte_eq h2 (n := 58) rfl
          have t5 := byte_eq h5 (n := 58) rfl
          have t8 := byte_ne h8 (n := 46) rfl
          have q2 : (((pk B (i + 2)).toNat : Int) != 58) = false := by simp [bne, t2]
          have q5 : (((pk B (i + 5)).toNat : Int) != 58) = false := by simp [bne, t5]
          have hcl : ClockR B i 8 := ⟨H0.out, h2, H3.out, h5, H6.out, .inl ⟨h8, rfl⟩⟩
          have HCL := Lib.hid hcl
          clear h2 h5 h8 hcl
          go_enter Tryz.func53, Tryz.ntmps53
          go_wp2_with fail
          refine (TY0.out H0.out).mono ?_
          rintro e w' ⟨v1, rfl, l1, u1, m1, rfl⟩
          go_wp2_with fail
          refine (TY3.out _ H3.out).mono ?_
          rintro e w' ⟨v2, rfl, l2, u2, m2, rfl⟩
          go_wp2_with fail
          refine (TY6.out _ H6.out).mono ?_
          rintro e w' ⟨v3, rfl, l3, u3, m3, rfl⟩
          go_wp2_with fail
          refine (P2.out _).mono ?_
          rintro e w' ⟨rfl, m4, rfl⟩
          go_wp2_with fail
          refine (P5.out _).mono ?_
          rintro e w' ⟨rfl, m5, rfl⟩
          go_wp2_with fail
          refine (P8.out _).mono ?_
          rintro e w' ⟨rfl, m6, rfl⟩
          go_wp2_with fail
          all_goals
            go_ret2
            exact ClockPost.mk ⟨8, _, rfl, by omega, fun _ => HCL.out, _, rfl⟩
      · have t2 := byte_eq h2 (n := 58) rfl
        have t5 := byte_ne h5 (n := 58) rfl
        have q2 : (((pk B (i + 2)).toNat : Int) != 58) = false := by simp [bne, t2]
        have q5 : (((pk B (i + 5)).toNat : Int) != 58) = true := by simp only [bne, t5]; rfl
        clear h2 h5
        go_enter Tryz.func53, Tryz.ntmps53
        go_wp2_with fail
        refine (TY0.out H0.out).mono ?_
        rintro e w' ⟨v1, rfl, l1, u1, m1, rfl⟩
        go_wp2_with fail
        refine (TY3.out _ H3.out).mono ?_
        rintro e w' ⟨v2, rfl, l2, u2, m2, rfl⟩
        go_wp2_with fail
        refine (TY6.out _ H6.out).mono ?_
        rintro e w' ⟨v3, rfl, l3, u3, m3, rfl⟩
        go_wp2_with fail
        refine (P2.out _).mono ?_
        rintro e w' ⟨rfl, m4, rfl⟩
        go_wp2_with fail
        refine (P5.out _).mono ?_
        rintro e w' ⟨rfl, m5, rfl⟩
        go_wp2_with fail
        all_goals
          go_ret2
          exact ClockPost.mk ⟨0, _, rfl, by omega, fun h => absurd rfl h, _, rfl⟩
    · have t2 := byte_ne h2 (n := 58) rfl
      have q2 : (((pk B (i + 2)).toNat : Int) != 58) = true := by simp only [bne, t2]; rfl
      clear h2
      go_enter Tryz.func53, Tryz.ntmps53
      go_wp2_with fail
      refine (TY0.out H0.out).mono ?_
      rintro e w' ⟨v1, rfl, l1, u1, m1, rfl⟩
      go_wp2_with fail
      refine (TY3.out _ H3.out).mono ?_
      rintro e w' ⟨v2, rfl, l2, u2, m2, rfl⟩
      go_wp2_with fail
      refine (TY6.out _ H6.out).mono ?_
      rintro e w' ⟨v3, rfl, l3, u3, m3, rfl⟩
      go_wp2_with fail
      refine (P2.out _).mono ?_
      rintro e w' ⟨rfl, m4, rfl⟩
      go_wp2_with fail
      all_goals
        go_ret2
        exact ClockPost.mk ⟨0, _, rfl, by omega, fun h => absurd rfl h, _, rfl⟩
  · go_enter Tryz.func53, Tryz.ntmps53
    go_wp2_with fail
    refine (TY0.out H0.out).mono ?_
    rintro e w' ⟨v1, rfl, l1, u1, m1, rfl⟩
    go_wp2_with fail
    refine (TY3.out _ H3.out).mono ?_
    rintro e w' ⟨v2, rfl, l2, u2, m2, rfl⟩
    go_wp2_with fail
    refine (TN6.out _ H6.out).mono ?_
    rintro e w' ⟨v3, rfl, l3, u3, m3, rfl⟩
    go_wp2_with fail
    refine (P2.out _).mono ?_
    rintro e w' ⟨rfl, m4, rfl⟩
    go_wp2_with fail
    refine (P5.out _).mono ?_
    rintro e w' ⟨rfl, m5, rfl⟩
    go_wp2_with fail
    all_goals
      go_ret2
      exact ClockPost.mk ⟨0, _, rfl, by omega, fun h => absurd rfl h, _, rfl⟩
  · go_enter Tryz.func53, Tryz.ntmps53
    go_wp2_with fail
    refine (TY0.out H0.out).mono ?_
    rintro e w' ⟨v1, rfl, l1, u1, m1, rfl⟩
    go_wp2_with fail
    refine (TN3.out _ H3.out).mono ?_
    rintro e w' ⟨v2, rfl, l2, u2, m2, rfl⟩
    go_wp2_with fail
    refine (TY6.out _ H6.out).mono ?_
    rintro e w' ⟨v3, rfl, l3, u3, m3, rfl⟩
    go_wp2_with fail
    refine (P2.out _).mono ?_
    rintro e w' ⟨rfl, m4, rfl⟩
    go_wp2_with fail
    all_goals
      go_ret2
      exact ClockPost.mk ⟨0, _, rfl, by omega, fun h => absurd rfl h, _, rfl⟩
  · go_enter Tryz.func53, Tryz.ntmps53
    go_wp2_with fail
    refine (TY0.out H0.out).mono ?_
    rintro e w' ⟨v1, rfl, l1, u1, m1, rfl⟩
    go_wp2_with fail
    refine (TN3.out _ H3.out).mono ?_
    rintro e w' ⟨v2, rfl, l2, u2, m2, rfl⟩
    go_wp2_with fail
    refine (TN6.out _ H6.out).mono ?_
    rintro e w' ⟨v3, rfl, l3, u3, m3, rfl⟩
    go_wp2_with fail
    refine (P2.out _).mono ?_
    rintro e w' ⟨rfl, m4, rfl⟩
    go_wp2_with fail
    all_goals
      go_ret2
      exact ClockPost.mk ⟨0, _, rfl, by omega, fun h => absurd rfl h, _, rfl⟩
  · go_enter Tryz.func53, Tryz.ntmps53
    go_wp2_with fail
    refine (TN0.out H0.out).mono ?_
    rintro e w' ⟨v1, rfl, l1, u1, m1, rfl⟩
    go_wp2_with fail
    refine (TY3.out _ H3.out).mono ?_
    rintro e w' ⟨v2, rfl, l2, u2, m2, rfl⟩
    go_wp2_with fail
    refine (TY6.out _ H6.out).mono ?_
    rintro e w' ⟨v3, rfl, l3, u3, m3, rfl⟩
    go_wp2_with fail
    all_goals
      go_ret2
      exact ClockPost.mk ⟨0, _, rfl, by omega, fun h => absurd rfl h, _, rfl⟩
  · go_enter Tryz.func53, Tryz.ntmps53
    go_wp2_with fail
    refine (TN0.out H0.out).mono ?_
    rintro e w' ⟨v1, rfl, l1, u1, m1, rfl⟩
    go_wp2_with fail
    refine (TY3.out _ H3.out).mono ?_
    rintro e w' ⟨v2, rfl, l2, u2, m2, rfl⟩
    go_wp2_with fail
    refine (TN6.out _ H6.out).mono ?_
    rintro e w' ⟨v3, rfl, l3, u3, m3, rfl⟩
    go_wp2_with fail
    all_goals
      go_ret2
      exact ClockPost.mk ⟨0, _, rfl, by omega, fun h => absurd rfl h, _, rfl⟩
  · go_enter Tryz.func53, Tryz.ntmps53
    go_wp2_with fail
    refine (TN0.out H0.out).mono ?_
    rintro e w' ⟨v1, rfl, l1, u1, m1, rfl⟩
    go_wp2_with fail
    refine (TN3.out _ H3.out).mono ?_
    rintro e w' ⟨v2, rfl, l2, u2, m2, rfl⟩
    go_wp2_with fail
    refine (TY6.out _ H6.out).mono ?_
    rintro e w' ⟨v3, rfl, l3, u3, m3, rfl⟩
    go_wp2_with fail
    all_goals
      go_ret2
      exact ClockPost.mk ⟨0, _, rfl, by omega, fun h => absurd rfl h, _, rfl⟩
  · go_enter Tryz.func53, Tryz.ntmps53
    go_wp2_with fail
    refine (TN0.out H0.out).mono ?_
    rintro e w' ⟨v1, rfl, l1, u1, m1, rfl⟩
    go_wp2_with fail
    refine (TN3.out _ H3.out).mono ?_
    rintro e w' ⟨v2, rfl, l2, u2, m2, rfl⟩
    go_wp2_with fail
    refine (TN6.out _ H6.out).mono ?_
    rintro e w' ⟨v3, rfl, l3, u3, m3, rfl⟩
    go_wp2_with fail
    all_goals
      go_ret2
      exact ClockPost.mk ⟨0, _, rfl, by omega, fun h => absurd rfl h, _, rfl⟩
end Go.Proofs.YtalmpddmhakdmaaGreat
