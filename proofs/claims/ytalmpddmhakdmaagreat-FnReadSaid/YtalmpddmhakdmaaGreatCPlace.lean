/-
  The text of the parser in memory, places in it; the walks of its smallest functions: blanks are skipped; the end of a line. Conditions: as each lemma states.
-/
import Derived.Test.YtalmpddmhakdmaaGreatCTree
import Derived.Test.YtalmpddmhakdmaaGreatCEight
namespace Go.Proofs.YtalmpddmhakdmaaGreat
open Go.RowKit

theorem results_tmp4 {fn : Func} {t u v x : Tmp} (h : fn.results = #[.tmp t, .tmp u, .tmp v, .tmp x]) (tmps : Array Value) (P : Program) (w : World) :
    (results fn tmps).run P w = .ok (.tuple #[tmps.getD t undef, tmps.getD u undef, tmps.getD v undef, tmps.getD x undef]) w := by
  simp [results, h]
theorem results_tmp5 {fn : Func} {t u v x y : Tmp} (h : fn.results = #[.tmp t, .tmp u, .tmp v, .tmp x, .tmp y]) (tmps : Array Value) (P : Program) (w : World) :
    (results fn tmps).run P w = .ok (.tuple #[tmps.getD t undef, tmps.getD u undef, tmps.getD v undef, tmps.getD x undef, tmps.getD y undef]) w := by
  simp [results, h]
/-- The text lies in a block. -/
structure Dt (w : World) (db : Nat) (B : List UInt8) : Prop where
  len : B.length ≤ 65536
  data : ∀ i c, B[i]? = some c → w.cell? ⟨db, i, none⟩ = some (.int .u8 (c.toNat : Int))
/-- A slice that begins at a place of the text and goes to its end. -/
def At (db C : Nat) (B : List UInt8) (i : Nat) (v : Value) : Prop :=
  ∃ o n m, v = .slice (some ⟨db, o, none⟩) n m ∧ i + n = B.length ∧ i + m = C ∧ n ≤ m ∧ (0 < n → o = i)
theorem At.mk {db C : Nat} {B : List UInt8} {i : Nat} {v : Value} (o n m : Nat) (h : v = .slice (some ⟨db, o, none⟩) n m) (h1 : i + n = B.length) (h2 : i + m = C) (h3 : n ≤ m) (h4 : 0 < n → o = i) : At db C B i v := ⟨o, n, m, h, h1, h2, h3, h4⟩
theorem Dt.drewN {w : World} {db : Nat} {B : List UInt8} (h : Dt w db B) (q : Nat) : Dt (w.drewN q) db B := ⟨h.len, h.data⟩
theorem Dt.of {w w' : World} {db : Nat} {B : List UInt8} (h : Dt w db B) (hb : B ≠ [] → w'.heap[db]? = w.heap[db]?) : Dt w' db B :=
  ⟨h.len, fun i c hi => (World.cell?_of_block (w := w) (hb (by rintro rfl; simp at hi))).trans (h.data i c hi)⟩
theorem Dt.pk {w : World} {db : Nat} {B : List UInt8} (h : Dt w db B) {i : Nat} (hi : i < B.length) : w.cell? ⟨db, i, none⟩ = some (.int .u8 ((pk B i).toNat : Int)) := by
  refine h.data i _ ?_
  rw [List.getElem?_eq_getElem hi]
  simp [YtalmpddmhakdmaaGreat.pk, List.getD, hi]
theorem pk_out {B : List UInt8} {k : Nat} (h : B.length ≤ k) : pk B k = 0 := by simp [pk, List.getD, List.getElem?_eq_none h]
/-- The rest behind some bytes. -/
theorem At.cut {db C : Nat} {B : List UInt8} {o n m k : Nat} (h1 : o + n = B.length) (h2 : o + m = C) (h3 : n ≤ m) (hk : k ≤ n) : At db C B (o + k) (.slice (if m = k then some ⟨db, o, none⟩ else some ⟨db, o + k, none⟩) (n - k) (m - k)) := by
  split
  · exact ⟨o, n - k, m - k, rfl, by omega, by omega, by omega, fun h => by omega⟩
  · exact ⟨o + k, n - k, m - k, rfl, by omega, by omega, by omega, fun _ => rfl⟩
/-- The length of a slice. -/
def lenOf : Value → Nat
  | .slice _ n _ => n
  | _ => 0

set_option maxHeartbeats 1000000 in
theorem skip_any {w : World} {db C : Nat} {B : List UInt8} {i : Nat} {v : Value} (hD : Dt w db B) (hv : At db C B i v) :
    Calls Tryz.prog 34 #[v] w fun e w' => (∃ v', e = .returned v' ∧ At db C B (skp B i) v') ∧ w' = w := by
  have HD := Lib.hid hD
  have HV := Lib.hid hv
  have hl := hD.len
  clear hD hv
  go_enter Tryz.func34, Tryz.ntmps34
  go_wp2_with fail
  go_loopw [0] (fun v wr => wr = w ∧ ∃ j, At db C B j v ∧ skp B i = skp B j) (fun v _ => lenOf v)
  case atStart => exact ⟨rfl, i, HV.out, rfl⟩
  case round =>
    obtain ⟨rfl, j, ⟨o, n, m, rfl, h1, h2, h3, h4⟩, hs⟩ := hrel
    have HSK := Lib.hid hs
    have HO := Lib.hid h4
    clear hs h4
    by_cases hn : 0 < n
    · have ho := HO.out hn
      subst ho
      have hc := HD.out.pk (i := o) (by omega)
      obtain ⟨c, hcc⟩ : ∃ c, pk B o = c := ⟨_, rfl⟩
      rw [hcc] at hc
      have HC := Lib.hid hcc
      clear hcc
      by_cases h32 : c = 32
      · have t1 := byte_eq h32 (n := 32) rfl
        have HB := Lib.hid (skp_more (B := B) (k := o) (by rw [HC.out, h32]; rfl))
        clear h32
        go_wp2_with fail
        exact ⟨⟨trivial, o + 1, At.cut h1 h2 h3 hn, HSK.out.trans HB.out⟩, by show n - 1 < n; omega⟩
      · have t1 := byte_ne h32 (n := 32) rfl
        by_cases h9 : c = 9
        · have t2 := byte_eq h9 (n := 9) rfl
          have HB := Lib.hid (skp_more (B := B) (k := o) (by rw [HC.out, h9]; rfl))
          clear h32 h9
          go_wp2_with fail
          exact ⟨⟨trivial, o + 1, At.cut h1 h2 h3 hn, HSK.out.trans HB.out⟩, by show n - 1 < n; omega⟩
        · have t2 := byte_ne h9 (n := 9) rfl
          have HB := Lib.hid (skp_stop (B := B) (k := o) (by rw [HC.out]; simp [bl, h32, h9]))
          clear h32 h9
          go_wp2_with fail
          go_ret
          exact ⟨⟨_, rfl, by rw [HSK.out, HB.out]; exact ⟨o, n, m, rfl, h1, h2, h3, fun _ => rfl⟩⟩, rfl⟩
    · have hn0 : n = 0 := by omega
      subst hn0
      have HB := Lib.hid (skp_stop (B := B) (k := j) (by rw [pk_out (by omega)]; rfl))
      go_wp2_with fail
      go_ret
      exact ⟨⟨_, rfl, by rw [HSK.out, HB.out]; exact ⟨o, 0, m, rfl, h1, h2, h3, fun h => absurd h (Nat.lt_irrefl 0)⟩⟩, rfl⟩

set_option maxHeartbeats 1000000 in
theorem eol_any {w : World} {db C : Nat} {B : List UInt8} {i : Nat} {v : Value} (hD : Dt w db B) (hv : At db C B i v) (h : B.length ≤ i ∨ lnN B i ≠ 0) :
    Calls Tryz.prog 37 #[v] w fun e w' => (∃ v', e = .returned (.tuple #[v', .nilIface]) ∧ At db C B (i + lnN B i) v') ∧ w' = w := by
  obtain ⟨o, n, m, rfl, h1, h2, h3, h4⟩ := hv
  by_cases hn : 0 < n
  · have ho := h4 hn
    subst ho
    have hc := hD.pk (i := o) (by omega)
    have hln : lnN B o ≠ 0 := h.resolve_left (by omega)
    obtain ⟨c, hcc⟩ : ∃ c, pk B o = c := ⟨_, rfl⟩
    by_cases h10 : c = 10
    · have hl1 : lnN B o = 1 := by unfold lnN; rw [hcc, h10, if_pos rfl]
      rw [hcc] at hc
      rw [hl1]
      have t1 := byte_eq h10 (n := 10) rfl
      clear hl1 hln h hcc h10 hD h4
      go_enter Tryz.func37, Tryz.ntmps37
      go_wp2_with fail
      all_goals
        go_ret2
        exact ⟨⟨_, rfl, _, _, _, rfl, by omega, by omega, by omega, by omega⟩, rfl⟩
    · have h13 : c = 13 ∧ pk B (o + 1) = 10 := by
        unfold lnN at hln
        rw [hcc, if_neg h10] at hln
        by_cases hx : c = 13 ∧ pk B (o + 1) = 10
        · exact hx
        · rw [if_neg hx] at hln
          exact absurd rfl hln
      have hl2 : lnN B o = 2 := by unfold lnN; rw [hcc, if_neg h10, if_pos h13]
      have hn2 : o + 1 < B.length := pk_in (by rw [h13.2]; decide)
      have hc2 := hD.pk (i := o + 1) hn2
      rw [h13.2] at hc2
      rw [hcc] at hc
      rw [hl2]
      have t1 := byte_ne h10 (n := 10) rfl
      have t2 := byte_eq h13.1 (n := 13) rfl
      clear hl2 hln h hcc h10 hD h4 h13
      have hn1 : 1 < n := by omega
      go_enter Tryz.func37, Tryz.ntmps37
      go_wp2_with fail
      all_goals
        go_ret2
        exact ⟨⟨_, rfl, _, _, _, rfl, by omega, by omega, by omega, by omega⟩, rfl⟩
  · have hn0 : n = 0 := by omega
    subst hn0
    have hl0 : lnN B i = 0 := by unfold lnN; rw [pk_out (by omega)]; simp
    rw [hl0]
    clear hl0 h hD hn
    go_enter Tryz.func37, Tryz.ntmps37
    go_wp2_with fail
    refine bodyPost_ret (v := .tuple #[.slice (some ⟨db, o, none⟩) 0 m, .nilIface]) (by simp [results, Tryz.results37, go_sem]) rfl ⟨⟨_, rfl, ⟨o, 0, m, rfl, h1, h2, h3, h4⟩⟩, rfl⟩
end Go.Proofs.YtalmpddmhakdmaaGreat
