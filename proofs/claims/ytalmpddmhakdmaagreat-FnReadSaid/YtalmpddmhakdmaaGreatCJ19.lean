/-
  The kit's contract of a library function, at this program: a rune is appended as UTF-8. Conditions: as stated.
-/
import Derived.Test.YtalmpddmhakdmaaGreatCPlace
import Derived.Test.YtalmpddmhakdmaaGreatCJ18
import Derived.Shelf.Lay
import Derived.Shelf.Utf8.AppendRunePlain
import Derived.Lib.EndianBits
namespace Go.Proofs.YtalmpddmhakdmaaGreat
open Go.RowKit
open Go.Shelf

/-- The numbers of the library's functions and types in this program. -/
def ren242 : Ren where
  f := fun x => match x with
    | 242 => 103
    | 278 => 104
    | n => n
  t := fun x => match x with
    | 37 => 22
    | 21 => 21
    | 51 => 55
    | 4 => 4
    | 5 => 5
    | 46 => 105
    | n => n
  g := fun x => x
theorem lays242 : Lays.n242 Tryz.prog ren242 where
  mixed := rfl
  f242 := Tryz.func103.trans (congrArg some (Eq.refl (Body.n242 ren242)))
  f278 := Tryz.func104.trans (congrArg some (Eq.refl (Body.n278 ren242)))
  t4 := Tryz.underlying4
  a4 := Tryz.isAgg4
  z4 := Tryz.sizeOf4
  v4 := Tryz.zeroValue4
  t5 := Tryz.underlying5
  a5 := Tryz.isAgg5
  z5 := Tryz.sizeOf5
  v5 := Tryz.zeroValue5
  t21 := Tryz.underlying21
  a21 := Tryz.isAgg21
  z21 := Tryz.sizeOf21
  v21 := Tryz.zeroValue21
  t37 := Tryz.underlying22
  a37 := Tryz.isAgg22
  z37 := Tryz.sizeOf22
  v37 := Tryz.zeroValue22
  t46 := Tryz.underlying105
  a46 := Tryz.isAgg105
  z46 := Tryz.sizeOf105
  v46 := Tryz.zeroValue105
  t51 := Tryz.underlying55
  a51 := Tryz.isAgg55
  z51 := Tryz.sizeOf55
  v51 := Tryz.zeroValue55
theorem byt_ofNat (n : Nat) (h : n < 256) : byt (UInt8.ofNat n) = .int .u8 (n : Int) := by
  unfold byt
  rw [ofNat_toNat n h]
theorem rune_cells (c : Nat) (h1 : c ≤ 1114111) (h2 : c < 55296 ∨ 57344 ≤ c) : Lib.runeCells (c : Int) = (Utf8.encode (c : Int)).toList.map byt := by
  have hv : (if Utf8.valid (c : Int) then (c : Int).toNat else Utf8.runeError) = c := by
    rw [if_pos]
    · exact Int.toNat_natCast c
    · unfold Utf8.valid
      simp only [Bool.or_eq_true, Bool.and_eq_true, decide_eq_true_eq]
      omega
  unfold Utf8.encode Lib.runeCells
  rw [hv]
  by_cases g1 : c < 128
  · rw [Lib.encodeRuneZ_one (by omega) (by omega)]
    simp only [if_pos g1]
    rw [ByteArray.toList_mk]
    simp only [List.map_cons, List.map_nil]
    rw [byt_ofNat _ (by omega)]
  by_cases g2 : c < 2048
  · rw [Lib.encodeRuneZ_two (by omega) (by omega)]
    simp only [if_neg g1, if_pos g2]
    rw [ByteArray.toList_mk]
    simp only [List.map_cons, List.map_nil]
    rw [byt_ofNat _ (by omega), byt_ofNat _ (by omega)]
    rfl
  by_cases g3 : c < 65536
  · rw [Lib.encodeRuneZ_three (by omega)]
    simp only [if_neg g1, if_neg g2, if_pos g3]
    rw [ByteArray.toList_mk]
    simp only [List.map_cons, List.map_nil]
    rw [byt_ofNat _ (by omega), byt_ofNat _ (by omega), byt_ofNat _ (by omega)]
    rfl
  · rw [Lib.encodeRuneZ_four (by omega) (by omega)]
    simp only [if_neg g1, if_neg g2, if_neg g3]
    rw [ByteArray.toList_mk]
    simp only [List.map_cons, List.map_nil]
    rw [byt_ofNat _ (by omega), byt_ofNat _ (by omega), byt_ofNat _ (by omega), byt_ofNat _ (by omega)]
    rfl
theorem size_pos (E : ByteArray) (h : 0 < E.size) : 0 < E.toList.length := by
  rw [ByteArray.toList_eq, Array.length_toList]
  exact h
theorem Own.app3 {w w' : World} {base : Nat} {v v' : Value} {l L : List UInt8} (_ : Own w base v l) (h6 : 0 < L.length) (h3 : w'.ownsRow base 5 1 v' (l.length + (L.map byt).length) (l.map byt ++ L.map byt)) : Own w' base v' (l ++ L) := by
  rw [List.length_map] at h3
  refine ⟨by rw [List.length_append, List.map_append]; exact h3, ?_⟩
  rintro rfl
  obtain ⟨g, cap, e1, _⟩ := World.ownsRow.form h3 (by omega)
  cases e1
theorem append_rune {w : World} {base : Nat} {v : Value} {l : List UInt8} (r : Nat) (h1 : r ≤ 1114111) (h2 : r < 55296 ∨ 57344 ≤ r) (hown : Own w base v l) (hlen : l.length ≤ 1000000) (hb : base ≤ w.heap.size) :
    Calls Tryz.prog 103 #[v, .int .i32 r] w fun e w' => ∃ v', e = .returned v' ∧ Own w' base v' (l ++ (Utf8.encode r).toList) ∧ ∃ o, (w.alloc o).grownBy w' v.ownBlock := by
  refine (Any.utf8_AppendRune_plain lays242 (by kernel_rfl) base v l.length (l.map byt) r (by omega) (by omega) w hown.1 (by omega) hb).mono ?_
  rintro e w' ⟨v', rfl, h3, h4⟩
  have h5 : Lib.runeCells (r : Int) = (Utf8.encode (r : Int)).toList.map byt := rune_cells r h1 h2
  have h6 := size_pos _ (enc_size (r : Int)).1
  generalize (Utf8.encode (r : Int)).toList = L at h5 h6 ⊢
  rw [h5] at h3
  exact ⟨v', rfl, Own.app3 hown h6 h3, h4⟩
end Go.Proofs.YtalmpddmhakdmaaGreat

/-
  The walks of functions of the parser: what stands behind a stroke in a text. Conditions: the text lies in memory as stated.
-/
namespace Go.Proofs.YtalmpddmhakdmaaGreat
open Go.RowKit

theorem fig_at {B : List UInt8} {b k : Nat} (hb : b ≤ 99) : ∀ {i : Nat}, k < dgN B i b → vD (pk B (i + k)) < b := by
  induction k with
  | zero =>
    intro i h
    refine Classical.byContradiction fun h2 => ?_
    rw [Nat.add_zero] at h2
    rw [dgN_stop h2] at h
    omega
  | succ k ih =>
    intro i h
    by_cases h2 : vD (pk B i) < b
    · rw [dgN_more hb h2] at h
      have := ih (i := i + 1) (by omega)
      rwa [show i + 1 + k = i + (k + 1) by omega] at this
    · rw [dgN_stop h2] at h
      omega
theorem vD_cases {c : UInt8} (h : vD c < 16) : (48 ≤ c.toNat ∧ c.toNat ≤ 57 ∧ vD c = c.toNat - 48) ∨ (97 ≤ c.toNat ∧ c.toNat ≤ 102 ∧ vD c = c.toNat - 87) ∨ (65 ≤ c.toNat ∧ c.toNat ≤ 70 ∧ vD c = c.toNat - 55) := by
  unfold vD at h ⊢
  by_cases h1 : 48 ≤ c.toNat ∧ c.toNat ≤ 57
  · rw [if_pos h1]
    exact .inl ⟨h1.1, h1.2, rfl⟩
  · rw [if_neg h1] at h ⊢
    by_cases h2 : 97 ≤ c.toNat ∧ c.toNat ≤ 102
    · rw [if_pos h2]
      exact .inr (.inl ⟨h2.1, h2.2, rfl⟩)
    · rw [if_neg h2] at h ⊢
      by_cases h3 : 65 ≤ c.toNat ∧ c.toNat ≤ 70
      · rw [if_pos h3]
        exact .inr (.inr ⟨h3.1, h3.2, rfl⟩)
      · rw [if_neg h3] at h
        omega
theorem hexV_lt {B : List UInt8} {i n : Nat} (h : n ≤ dgN B i 16) : hexV B i n < 16 ^ n := by
  induction n with
  | zero => exact Nat.one_pos
  | succ n ih =>
    have h1 := ih (by omega)
    have h2 := fig_at (B := B) (i := i) (b := 16) (k := n) (by decide) (by omega)
    unfold hexV
    rw [Nat.pow_succ]
    omega
theorem or_low (r d : Nat) (hr : r < 268435456) (hd : d < 16) : bits BinOp.or IntKind.u32 ((r : Int) * 16) (d : Int) = ((r * 16 + d : Nat) : Int) := by
  have h := bits_join .u32 32 (by decide) wraps_u32 4 ((r : Int) * 16) (d : Int) (by omega) (by omega) (by omega) (by omega) (by omega) (by omega)
  rw [h]
  omega

set_option maxRecDepth 100000 in
set_option maxHeartbeats 4000000 in
theorem uni_any {w : World} {db : Nat} {B : List UInt8} {o n m x k base : Nat} {v : Value} {l T : List UInt8} (hT : (Utf8.encode ((hexV B (o + x) k : Nat) : Int)).toList = T) (hD : Dt w db B) (h1 : o + n = B.length) (hk : k = 4 ∨ k = 8) (hg : k ≤ dgN B (o + x) 16) (h2 : hexV B (o + x) k ≤ 1114111) (h3 : hexV B (o + x) k < 55296 ∨ 57344 ≤ hexV B (o + x) k)
    (hown : Own w base v l) (hlen : l.length ≤ 1000000) (hb : base ≤ w.heap.size) (hin : o + x + k ≤ B.length) :
    Calls Tryz.prog 102 #[v, .slice (some ⟨db, o, none⟩) n m, .int .i64 x, .int .i64 k] w fun e w' => ∃ v', e = .returned (.tuple #[v', .int .i64 ((x + k : Nat) : Int), .nilIface]) ∧ Own w' base v' (l ++ T) ∧ ∃ o', (w.alloc o').grownBy w' v.ownBlock := by
  have HD := Lib.hid hD
  have ho := append_rune _ h2 h3 hown hlen hb
  rw [hT] at ho
  have HO := Lib.hid ho
  clear ho hT
  have HG := Lib.hid hg
  have HV := Lib.hid (And.intro h2 h3)
  have hl := hD.len
  have hk8 : k ≤ 8 := by omega
  clear hD hown h2 h3 hg hk
  go_enter Tryz.func102, Tryz.ntmps102
  go_wp2_with fail
  go_loopw [11, 12] (fun r y wr => ∃ j : Nat, r = .int .u32 (hexV B (o + x) j) ∧ y = .int .i64 j ∧ wr = w ∧ j ≤ k) (fun _ y _ => 8 - (intOf y).toNat)
  case atStart => exact ⟨0, rfl, rfl, rfl, Nat.zero_le _⟩
  case round =>
    obtain ⟨j, rfl, rfl, rfl, hj⟩ := hrel
    by_cases hjk : j < k
    · have hdg := fig_at (B := B) (i := o + x) (b := 16) (k := j) (by decide) (by have := HG.out; omega)
      have hpl := hexV_lt (B := B) (i := o + x) (n := j) (by have := HG.out; omega)
      have hpw : 16 ^ j ≤ 16 ^ 7 := Nat.pow_le_pow_right (by decide) (by omega)
      have hr28 : hexV B (o + x) j < 268435456 := by have : 16 ^ 7 = 268435456 := by decide
                                                     omega
      have hc := HD.out.pk (i := o + (x + j)) (by omega)
      rw [show pk B (o + (x + j)) = pk B (o + x + j) by rw [Nat.add_assoc]] at hc
      have hor := or_low (hexV B (o + x) j) (vD (pk B (o + x + j))) hr28 hdg
      have HN := Lib.hid (show hexV B (o + x) (j + 1) = hexV B (o + x) j * 16 + vD (pk B (o + x + j)) from rfl)
      have hxj : x + j < n := by omega
      have hvc := vD_cases hdg
      clear hdg hpl hpw
      generalize vD (pk B (o + x + j)) = d at *
      generalize pk B (o + x + j) = c at *
      generalize hexV B (o + x) j = r at *
      rcases hvc with ⟨c1, c2, rfl⟩ | ⟨c1, c2, rfl⟩ | ⟨c1, c2, rfl⟩
      · have e1 : ((c.toNat - 48 : Nat) : Int) = (c.toNat : Int) - 48 := by omega
        rw [e1] at hor
        have HOR := Lib.hid hor
        clear hor e1
        go_wp2_with fail
        exact ⟨⟨j + 1, by rw [HOR.out, HN.out], rfl, trivial, by omega⟩, by show 8 - (intOf (.int .i64 ((j : Int) + 1))).toNat < 8 - (intOf (.int .i64 (j : Int))).toNat; simp only [intOf]; omega⟩
      · have e1 : ((c.toNat - 87 : Nat) : Int) = (c.toNat : Int) - 97 + 10 := by omega
        rw [e1] at hor
        have HOR := Lib.hid hor
        clear hor e1
        go_wp2_with fail
        exact ⟨⟨j + 1, by rw [HOR.out, HN.out], rfl, trivial, by omega⟩, by show 8 - (intOf (.int .i64 ((j : Int) + 1))).toNat < 8 - (intOf (.int .i64 (j : Int))).toNat; simp only [intOf]; omega⟩
      · have e1 : ((c.toNat - 55 : Nat) : Int) = (c.toNat : Int) - 65 + 10 := by omega
        rw [e1] at hor
        have HOR := Lib.hid hor
        clear hor e1
        go_wp2_with fail
        exact ⟨⟨j + 1, by rw [HOR.out, HN.out], rfl, trivial, by omega⟩, by show 8 - (intOf (.int .i64 ((j : Int) + 1))).toNat < 8 - (intOf (.int .i64 (j : Int))).toNat; simp only [intOf]; omega⟩
    · have hjk' : j = k := by omega
      subst hjk'
      obtain ⟨h2, h3⟩ := HV.out
      clear HG HV
      generalize hexV B (o + x) j = H at *
      go_wp2_with fail
      all_goals
        with_reducible refine HO.out.mono ?_
        rintro e w' ⟨v', rfl, hv', hg'⟩
        have HV2 := Lib.hid hv'
        have HG2 := Lib.hid hg'
        clear hv' hg'
        go_wp2_with fail
        go_ret3
        exact ⟨v', rfl, HV2.out, HG2.out⟩

theorem one_byte (x : UInt8) : ∀ u ∈ [Value.int .u8 (x.toNat : Int)], u.oneCell' = true := by
  intro u hu
  rw [List.mem_singleton.1 hu]
  rfl
theorem lit_cell5 (W : World) (n : Nat) (hW : W.heap.size = n) (v : Value) : ∀ j u, [v][j]? = some u → (W.alloc (.cells #[v] 5)).cell? ((⟨n, 0, none⟩ : Addr).add j) = some u := by
  subst hW
  intro j u hj
  have e : (⟨W.heap.size, 0, none⟩ : Addr).add j = ⟨W.heap.size, j, none⟩ := by unfold Addr.add; split <;> simp_all
  rw [e, cell_marked]
  match j, hj with
  | 0, hj => cases hj; rfl
/-- What an unescaping leaves. -/
def UnP (base o m : Nat) (v : Value) (l t : List UInt8) (w : World) (e : Ending) (w' : World) : Prop :=
  ∃ (v' : Value) (y : Nat), e = .returned (.tuple #[v', .int .i64 y, .nilIface]) ∧ o + y = m ∧ Own w' base v' (l ++ t) ∧ ∃ o', (w.alloc o').grownBy w' v.ownBlock
theorem UnP.mk {base o m : Nat} {v : Value} {l t : List UInt8} {w : World} {e : Ending} {w' : World} (v' : Value) (y : Nat) (h : e = .returned (.tuple #[v', .int .i64 y, .nilIface])) (h1 : o + y = m) (h2 : Own w' base v' (l ++ t)) (o' : Obj) (h3 : (w.alloc o').grownBy w' v.ownBlock) : UnP base o m v l t w e w' := ⟨v', y, h, h1, h2, o', h3⟩
theorem Own.one {w w' : World} {base : Nat} {v v' : Value} {l : List UInt8} (h : Own w base v l) (x : UInt8) (h2 : w'.ownsRow base 5 1 v' (l.length + 1) (l.map byt ++ [.int .u8 (x.toNat : Int)])) (hn : v' = .slice none 0 0 ↔ v = .slice none 0 0 ∧ 1 = 0) : Own w' base v' (l ++ [x]) :=
  h.app2 (t := [x]) rfl h2 hn

set_option maxRecDepth 100000 in
set_option maxHeartbeats 4000000 in
theorem unescape_any {w : World} {db : Nat} {B : List UInt8} {o n m x j base : Nat} {v : Value} {l t : List UInt8} (hD : Dt w db B) (h1 : o + n = B.length) (hr : EscR B (o + x) j t)
    (hown : Own w base v l) (hlen : l.length ≤ 1000000) (hb : base ≤ w.heap.size) :
    Calls Tryz.prog 94 #[v, .slice (some ⟨db, o, none⟩) n m, .int .i64 x] w (UnP base o j v l t w) := by
  obtain ⟨i0, hi, hz0, hz1, hz2⟩ := info_parts Tryz.info5
  have HD := Lib.hid hD
  have HO := Lib.hid hown
  have hl := hD.len
  clear hD hown
  cases hr with
  | one hk hc =>
    rename_i k
    have hin : o + x < B.length := pk_in (by rw [hc]; unfold escS; match k, hk with
      | 0, _ | 1, _ | 2, _ | 3, _ | 4, _ | 5, _ | 6, _ => decide)
    have hce := HD.out.pk hin
    have hxn : x < n := by omega
    match k, hk with
    | 0, _ =>
      rw [show pk B (o + x) = 98 from hc] at hce
      have ho : Own w base v l := HO.out
      clear hc
      go_enter Tryz.func94, Tryz.ntmps94
      go_wp2_with (at_builtin; (refine wpList_append_own _ rfl (.tmp 38) (.tmp 39) 22 rfl base 5 i0 (.int .u8 0) 1 1 Tryz.underlying22 hi hz0 hz1 hz2 rfl (by decide) v l.length (l.map byt) rfl (HO.out.1.alloc _) ⟨w.heap.size, 0, none⟩ 1 1 [.int .u8 ((8 : UInt8).toNat : Int)] rfl rfl (lit_cell5 _ _ rfl _) (one_byte _) (by unfold maxLen; omega) (by omega) (by simp; omega) ?_); intro v' w3 hown3 hgrow3 hnil3; have HO3 := Lib.hid (HO.out.one 8 hown3 hnil3); have HG3 := Lib.hid hgrow3; clear hown3 hgrow3 hnil3)
      go_ret3
      exact UnP.mk _ (x + 1) rfl rfl HO3.out _ HG3.out
    | 1, _ =>
      rw [show pk B (o + x) = 116 from hc] at hce
      have ho : Own w base v l := HO.out
      clear hc
      go_enter Tryz.func94, Tryz.ntmps94
      go_wp2_with (at_builtin; (refine wpList_append_own _ rfl (.tmp 66) (.tmp 67) 22 rfl base 5 i0 (.int .u8 0) 1 1 Tryz.underlying22 hi hz0 hz1 hz2 rfl (by decide) v l.length (l.map byt) rfl (HO.out.1.alloc _) ⟨w.heap.size, 0, none⟩ 1 1 [.int .u8 ((9 : UInt8).toNat : Int)] rfl rfl (lit_cell5 _ _ rfl _) (one_byte _) (by unfold maxLen; omega) (by omega) (by simp; omega) ?_); intro v' w3 hown3 hgrow3 hnil3; have HO3 := Lib.hid (HO.out.one 9 hown3 hnil3); have HG3 := Lib.hid hgrow3; clear hown3 hgrow3 hnil3)
      go_ret3
      exact UnP.mk _ (x + 1) rfl rfl HO3.out _ HG3.out
    | 2, _ =>
      rw [show pk B (o + x) = 110 from hc] at hce
      have ho : Own w base v l := HO.out
      clear hc
      go_enter Tryz.func94, Tryz.ntmps94
      go_wp2_with (at_builtin; (refine wpList_append_own _ rfl (.tmp 52) (.tmp 53) 22 rfl base 5 i0 (.int .u8 0) 1 1 Tryz.underlying22 hi hz0 hz1 hz2 rfl (by decide) v l.length (l.map byt) rfl (HO.out.1.alloc _) ⟨w.heap.size, 0, none⟩ 1 1 [.int .u8 ((10 : UInt8).toNat : Int)] rfl rfl (lit_cell5 _ _ rfl _) (one_byte _) (by unfold maxLen; omega) (by omega) (by simp; omega) ?_); intro v' w3 hown3 hgrow3 hnil3; have HO3 := Lib.hid (HO.out.one 10 hown3 hnil3); have HG3 := Lib.hid hgrow3; clear hown3 hgrow3 hnil3)
      go_ret3
      exact UnP.mk _ (x + 1) rfl rfl HO3.out _ HG3.out
    | 3, _ =>
      rw [show pk B (o + x) = 102 from hc] at hce
      have ho : Own w base v l := HO.out
      clear hc
      go_enter Tryz.func94, Tryz.ntmps94
      go_wp2_with (at_builtin; (refine wpList_append_own _ rfl (.tmp 45) (.tmp 46) 22 rfl base 5 i0 (.int .u8 0) 1 1 Tryz.underlying22 hi hz0 hz1 hz2 rfl (by decide) v l.length (l.map byt) rfl (HO.out.1.alloc _) ⟨w.heap.size, 0, none⟩ 1 1 [.int .u8 ((12 : UInt8).toNat : Int)] rfl rfl (lit_cell5 _ _ rfl _) (one_byte _) (by unfold maxLen; omega) (by omega) (by simp; omega) ?_); intro v' w3 hown3 hgrow3 hnil3; have HO3 := Lib.hid (HO.out.one 12 hown3 hnil3); have HG3 := Lib.hid hgrow3; clear hown3 hgrow3 hnil3)
      go_ret3
      exact UnP.mk _ (x + 1) rfl rfl HO3.out _ HG3.out
    | 4, _ =>
      rw [show pk B (o + x) = 114 from hc] at hce
      have ho : Own w base v l := HO.out
      clear hc
      go_enter Tryz.func94, Tryz.ntmps94
      go_wp2_with (at_builtin; (refine wpList_append_own _ rfl (.tmp 59) (.tmp 60) 22 rfl base 5 i0 (.int .u8 0) 1 1 Tryz.underlying22 hi hz0 hz1 hz2 rfl (by decide) v l.length (l.map byt) rfl (HO.out.1.alloc _) ⟨w.heap.size, 0, none⟩ 1 1 [.int .u8 ((13 : UInt8).toNat : Int)] rfl rfl (lit_cell5 _ _ rfl _) (one_byte _) (by unfold maxLen; omega) (by omega) (by simp; omega) ?_); intro v' w3 hown3 hgrow3 hnil3; have HO3 := Lib.hid (HO.out.one 13 hown3 hnil3); have HG3 := Lib.hid hgrow3; clear hown3 hgrow3 hnil3)
      go_ret3
      exact UnP.mk _ (x + 1) rfl rfl HO3.out _ HG3.out
    | 5, _ =>
      rw [show pk B (o + x) = 34 from hc] at hce
      have ho : Own w base v l := HO.out
      clear hc
      go_enter Tryz.func94, Tryz.ntmps94
      go_wp2_with (at_builtin; (refine wpList_append_own _ rfl (.tmp 24) (.tmp 25) 22 rfl base 5 i0 (.int .u8 0) 1 1 Tryz.underlying22 hi hz0 hz1 hz2 rfl (by decide) v l.length (l.map byt) rfl (HO.out.1.alloc _) ⟨w.heap.size, 0, none⟩ 1 1 [.int .u8 ((34 : UInt8).toNat : Int)] rfl rfl (lit_cell5 _ _ rfl _) (one_byte _) (by unfold maxLen; omega) (by omega) (by simp; omega) ?_); intro v' w3 hown3 hgrow3 hnil3; have HO3 := Lib.hid (HO.out.one 34 hown3 hnil3); have HG3 := Lib.hid hgrow3; clear hown3 hgrow3 hnil3)
      go_ret3
      exact UnP.mk _ (x + 1) rfl rfl HO3.out _ HG3.out
    | 6, _ =>
      rw [show pk B (o + x) = 92 from hc] at hce
      have ho : Own w base v l := HO.out
      clear hc
      go_enter Tryz.func94, Tryz.ntmps94
      go_wp2_with (at_builtin; (refine wpList_append_own _ rfl (.tmp 31) (.tmp 32) 22 rfl base 5 i0 (.int .u8 0) 1 1 Tryz.underlying22 hi hz0 hz1 hz2 rfl (by decide) v l.length (l.map byt) rfl (HO.out.1.alloc _) ⟨w.heap.size, 0, none⟩ 1 1 [.int .u8 ((92 : UInt8).toNat : Int)] rfl rfl (lit_cell5 _ _ rfl _) (one_byte _) (by unfold maxLen; omega) (by omega) (by simp; omega) ?_); intro v' w3 hown3 hgrow3 hnil3; have HO3 := Lib.hid (HO.out.one 92 hown3 hnil3); have HG3 := Lib.hid hgrow3; clear hown3 hgrow3 hnil3)
      go_ret3
      exact UnP.mk _ (x + 1) rfl rfl HO3.out _ HG3.out
  | uni hk hg h4 h5 =>
    rename_i k
    have hin : o + x < B.length := pk_in (by rcases hk with ⟨h, _⟩ | ⟨h, _⟩ <;> rw [h] <;> decide)
    have hce := HD.out.pk hin
    have hxn : x < n := by omega
    have hin2 : o + (x + 1) + k ≤ B.length := by
      have := dgN_le B (o + x + 1) 16
      omega
    have hu := uni_any (m := m) (x := x + 1) (k := k) rfl HD.out h1 (by omega) hg h4 h5 HO.out hlen hb hin2
    have HU := Lib.hid hu
    have HX := Lib.hid (And.intro h4 h5)
    clear hu hg h4 h5
    generalize (Utf8.encode ((hexV B (o + x + 1) k : Nat) : Int)).toList = T at *
    rcases hk with ⟨hc, rfl⟩ | ⟨hc, rfl⟩
    · rw [hc] at hce
      have HU2 := Lib.hid (show Calls Tryz.prog 102 #[v, .slice (some ⟨db, o, none⟩) n m, .int .i64 ((x : Int) + 1), .int .i64 4] w _ from HU.out)
      clear hc HU
      go_enter Tryz.func94, Tryz.ntmps94
      go_wp2_with fail
      with_reducible refine HU2.out.mono ?_
      rintro e w' ⟨v', rfl, hv', o', hg'⟩
      have HV2 := Lib.hid hv'
      have HG2 := Lib.hid hg'
      clear hv' hg'
      go_wp2_with fail
      go_ret3
      exact UnP.mk _ (x + 1 + 4) rfl (by omega) HV2.out _ HG2.out
    · rw [hc] at hce
      have HU2 := Lib.hid (show Calls Tryz.prog 102 #[v, .slice (some ⟨db, o, none⟩) n m, .int .i64 ((x : Int) + 1), .int .i64 8] w _ from HU.out)
      clear hc HU
      go_enter Tryz.func94, Tryz.ntmps94
      go_wp2_with fail
      with_reducible refine HU2.out.mono ?_
      rintro e w' ⟨v', rfl, hv', o', hg'⟩
      have HV2 := Lib.hid hv'
      have HG2 := Lib.hid hg'
      clear hv' hg'
      go_wp2_with fail
      go_ret3
      exact UnP.mk _ (x + 1 + 8) rfl (by omega) HV2.out _ HG2.out
end Go.Proofs.YtalmpddmhakdmaaGreat

/-
  The walk of a function of the parser: where a text in double quotes ends, for a row's room. Conditions: the text lies in memory as stated.
-/
namespace Go.Proofs.YtalmpddmhakdmaaGreat
open Go.RowKit

set_option maxRecDepth 100000 in
set_option maxHeartbeats 2000000 in
theorem find_any {w : World} {db : Nat} {B : List UInt8} {o n m x : Nat} (hD : Dt w db B) (h1 : o + n = B.length) :
    Calls Tryz.prog 95 #[.slice (some ⟨db, o, none⟩) n m, .int .i64 x] w fun e w' => (∃ y : Int, e = .returned (.int .i64 y) ∧ (y = -1 ∨ ((x : Int) ≤ y ∧ y < n))) ∧ w' = w := by
  have HD := Lib.hid hD
  have hl := hD.len
  clear hD
  go_enter Tryz.func95, Tryz.ntmps95
  go_wp2_with fail
  go_loopw [1] (fun v wr => wr = w ∧ ∃ y : Nat, v = .int .i64 y ∧ x ≤ y ∧ (y ≤ 70000 ∨ y = x)) (fun v _ => n - (intOf v).toNat)
  case atStart => exact ⟨rfl, x, rfl, Nat.le_refl _, .inr rfl⟩
  case round =>
    obtain ⟨rfl, y, rfl, hy, hy7⟩ := hrel
    by_cases hlt : y < n
    · clear hy7
      have hc := HD.out.pk (i := o + y) (by omega)
      obtain ⟨c, hcc⟩ : ∃ c, pk B (o + y) = c := ⟨_, rfl⟩
      rw [hcc] at hc
      clear hcc
      by_cases h34 : c = 34
      · have t1 := byte_eq h34 (n := 34) rfl
        clear h34
        go_wp2_with fail
        go_ret
        exact ⟨⟨_, rfl, .inr ⟨by omega, by omega⟩⟩, rfl⟩
      · have t1 := byte_ne h34 (n := 34) rfl
        by_cases h92 : c = 92
        · have t2 := byte_eq h92 (n := 92) rfl
          clear h34 h92
          go_wp2_with fail
          exact ⟨⟨trivial, y + 2, rfl, by omega, .inl (by omega)⟩, by show n - (intOf (.int .i64 ((y : Int) + 2))).toNat < n - (intOf (.int .i64 (y : Int))).toNat; simp only [intOf]; omega⟩
        · have t2 := byte_ne h92 (n := 92) rfl
          clear h34 h92
          go_wp2_with fail
          exact ⟨⟨trivial, y + 1, rfl, by omega, .inl (by omega)⟩, by show n - (intOf (.int .i64 ((y : Int) + 1))).toNat < n - (intOf (.int .i64 (y : Int))).toNat; simp only [intOf]; omega⟩
    · go_wp2_with fail
      go_ret
      exact ⟨⟨_, rfl, .inl rfl⟩, rfl⟩
end Go.Proofs.YtalmpddmhakdmaaGreat
