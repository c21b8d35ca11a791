/-
  The walk of a function of the parser: a text of several lines in double quotes, its node (70). Conditions: the parser lies in memory as stated.
-/
import Derived.Test.YtalmpddmhakdmaaGreatCJ26
import Derived.Test.YtalmpddmhakdmaaGreatCJ31
import Derived.Test.YtalmpddmhakdmaaGreatCJ33
import Derived.Test.YtalmpddmhakdmaaGreatCJ36
import Derived.Test.YtalmpddmhakdmaaGreatCMulB
namespace Go.Proofs.YtalmpddmhakdmaaGreat
open Go.RowKit

set_option maxRecDepth 100000 in
set_option maxHeartbeats 4000000 in
theorem val_lines34 {w : World} {pp db C : Nat} {B : List UInt8} {nv : Value} {ns : List PN} {g : Int} {o n m j : Nat} {t : List UInt8} (hP : PS w pp db C B nv ns g) (h1 : o + n = B.length) (h3 : n ≤ m) (h2 : o + m = C) (hn : ns.length ≤ 300000) (h3q : three 34 B o) (hr : LnR 34 B (o + 3 + lnN B (o + 3)) j t) (hf : pk B j ≠ 34) :
    Calls Tryz.prog 70 #[.pointer (some ⟨pp, 0, none⟩), .slice (some ⟨db, o, none⟩) n m] w (OnP pp db C B nv ns g j 8 t w) := by
  have HP := Lib.hid hP
  have hin : o + 2 < B.length := pk_in (by rw [h3q.2.2]; decide)
  have hl := hP.dt.len
  have HS := Lib.hid (lines_bas (m := m) (n := n) (.pointer (some ⟨pp, 0, none⟩)) hP.dt h1 h3 h2 hr hf)
  have hc0 := hP.dt.pk (i := o) (by omega)
  have hc1 := hP.dt.pk (i := o + 1) (by omega)
  have hc2 := hP.dt.pk (i := o + 2) (by omega)
  rw [h3q.1] at hc0
  rw [h3q.2.1] at hc1
  rw [h3q.2.2] at hc2
  have hn3 : 3 ≤ n := by omega
  clear hP hr h3q hf
  go_enter Tryz.func70, Tryz.ntmps70
  go_wp2_with fail
  with_reducible refine HS.out.mono ?_
  rintro e w1 ⟨raw, val, rest, rfl, hraw, hval, hrest, hg1⟩
  obtain ⟨va, vl, vc, rfl⟩ := hval.form
  have HVAL := Lib.hid hval
  have HREST := Lib.hid hrest
  have HG1 := Lib.hid hg1
  have HRG := Lib.hid (range_any (HP.out.grown hg1) hraw)
  clear hraw hval hrest hg1 HS
  go_wp2_with fail
  with_reducible refine HRG.out.mono ?_
  rintro e w2 ⟨⟨x, l, rfl⟩, hg2⟩
  have HG2 := Lib.hid (gtrans HG1.out hg2)
  have HDA := Lib.hid ((Fr.grown pp nv hg2).dtn (DtN.scan HP.out HG1.out HVAL.out))
  have HPU := Lib.hid (push_to (HP.out.grown HG2.out) hn 8 x l (.slice va vl vc) HVAL.out.one)
  clear hg2 HRG
  go_wp2_with fail
  with_reducible refine HPU.out.mono ?_
  rintro e w3 ⟨nv', rfl, hP3, hF3⟩
  have HP3 := Lib.hid hP3
  have HF3 := Lib.hid hF3
  clear hP3 hF3 HPU
  go_wp2_with fail
  go_ret3
  exact OnP.mk nv' rest _ rfl HREST.out HP3.out ((Fr.grown pp nv HG2.out).trans HF3.out) rfl (HF3.out.dtn HDA.out) rfl rfl
end Go.Proofs.YtalmpddmhakdmaaGreat

/-
  The walk of the law FnRead (3): it returns true. Conditions: the text lies in memory as stated.
-/
namespace Go.Proofs.YtalmpddmhakdmaaGreat
open Go.RowKit

theorem val_deep : ValC 51 := val_all (fun _ _ _ _ _ _ _ _ _ _ _ _ _ hP h1 h3 h2 hn h3q hr hf => val_lines34 hP h1 h3 h2 hn h3q hr hf) 51
/-- A text that lies in memory as an argument. -/
def ArgB (w : World) (p : Option Addr) (B : List UInt8) : Prop := B = [] ∨ ∃ a, p = some a ∧ ∀ i u, B[i]? = some u → w.cell? (a.add i) = some (.int .u8 (u.toNat : Int))
theorem ArgB.grown {w w' : World} {p : Option Addr} {B : List UInt8} (h : ArgB w p B) (hg : w.grownBy w' none) : ArgB w' p B :=
  h.imp id fun ⟨a, h1, h2⟩ => ⟨a, h1, fun i u hu => (World.cell?_of_block (w := w) (hg.block _ (cell_lt (h2 i u hu)) (by simp))).trans (h2 i u hu)⟩
/-- The spec's reader. -/
theorem sread {w : World} {p : Option Addr} {B : List UInt8} {c : Nat} (h : ArgB w p B) (hl : B.length ≤ 65536) (hc : B.length ≤ c) : Calls Tryz.prog 4 #[.slice p B.length c] w fun e w' =>
    ∃ (v : Value) (st : Int), e = .returned (.tuple #[v, .int .i64 st]) ∧ w.grownBy w' none ∧ (st = 0 → ∃ es, DocR B 0 es ∧ ∃ P : Nat → Prop, (∀ b, P b → b < w'.heap.size) ∧ ExsAt P w' v es) := by
  by_cases hB : B = []
  · subst hB
    refine (read_void w p c).mono ?_
    rintro e w' ⟨v, rfl, hg, hx⟩
    exact ⟨v, 0, rfl, hg, fun _ => ⟨[], .done (by simp), _, fun _ h => h.elim, hx⟩⟩
  · obtain ⟨a, rfl, hd⟩ := h.resolve_left hB
    refine (read_any hB hl hc hd).mono ?_
    rintro e w' ⟨v, st, rfl, hg, hx⟩
    refine ⟨v, st, rfl, hg, fun h0 => ?_⟩
    obtain ⟨es, hD, P, hP, hx⟩ := hx h0
    exact ⟨es, hD, P, fun b hb => (hP b hb).2, hx⟩
/-- Impl's reader. -/
theorem iread {w : World} {p : Option Addr} {B : List UInt8} {c : Nat} {es : List Ex} (h : ArgB w p B) (hl : B.length ≤ 65536) (hD : DocR B 0 es) : Calls Tryz.prog 5 #[.slice p B.length c] w (IrQ es w) := by
  by_cases hB : B = []
  · subst hB
    have he : es = [] := hD.end (by simp)
    subst he
    cases p with
    | none => exact iread_nil w c
    | some a => exact iread_any val_deep hl (fun i u hu => by cases hu) hD
  · obtain ⟨a, rfl, hd⟩ := h.resolve_left hB
    exact iread_any val_deep hl hd hD

set_option maxRecDepth 100000 in
set_option maxHeartbeats 8000000 in
theorem fnRead_law {w : World} {p : Option Addr} {B : List UInt8} {c : Nat} (h : ArgB w p B) (hc : B.length ≤ c) :
    Calls Tryz.prog 3 #[.slice p B.length c] w fun e w' => e = .returned (.bool true) ∧ w.grownBy w' none := by
  by_cases h1 : B.length ≤ 65536
  · have HS := Lib.hid (sread h h1 hc)
    have HI := Lib.hid (show ∀ (W : World) (es : List Ex), w.grownBy W none → DocR B 0 es → Calls Tryz.prog 5 #[.slice p B.length c] W (IrQ es W) from fun W es hW hD => iread (h.grown hW) h1 hD)
    have HDK := Lib.hid (show ∀ es, DocR B 0 es → es.length ≤ 300000 ∧ ∀ x ∈ es, x.keys.length ≤ 300000 ∧ (x.kind = 0 → Bd 51 x.val) from fun es hD => ⟨by have := hD.count; omega, fun x hx => ⟨(hD.ok h1 x hx).2.2.1, fun h0 => ((hD.ok h1 x hx).2.2.2 h0).2⟩⟩)
    obtain ⟨n, hn⟩ : ∃ n, B.length = n := ⟨_, rfl⟩
    rw [hn] at h1 HS HI ⊢
    have t1 : decide ((2147483647 : Int) < (n : Int)) = false := by simp; omega
    have t2 : decide ((65536 : Int) < (n : Int)) = false := by simp; omega
    clear h hc hn
    go_enter Tryz.func3, Tryz.ntmps3
    go_wp2_with fail
    with_reducible refine HS.out.mono ?_
    rintro e w1 ⟨v, st, rfl, hg1, hx1⟩
    by_cases hst : st = 0
    · subst hst
      obtain ⟨es, hD, P, hP, hX⟩ := hx1 rfl
      have HI1 := Lib.hid (HI.out w1 es hg1 hD)
      have HX := Lib.hid hX
      have HP := Lib.hid hP
      have HG1 := Lib.hid hg1
      have HD1 := Lib.hid (HDK.out es hD)
      obtain ⟨pv, lv, cv, hvv⟩ : ∃ pv lv cv, v = .slice pv lv cv := by
        obtain ⟨p, c, h, _⟩ := hX
        exact ⟨p, _, c, h⟩
      subst hvv
      clear hx1 hD hP hX hg1 HS HI HDK
      go_wp2_with fail
      with_reducible refine HI1.out.mono ?_
      rintro e w2 ⟨v2, rfl, hg2, P2, hP2, hX2⟩
      obtain ⟨pv2, lv2, cv2, hvv⟩ : ∃ pv lv cv, v2 = .slice pv lv cv := by
        obtain ⟨p, c, h, _⟩ := hX2
        exact ⟨p, _, c, h⟩
      subst hvv
      have hcv : (convert 22 22 (.slice (some ⟨w2.heap.size, 0, none⟩) 3 3)).run Tryz.prog (w2.alloc (.cells #[.int .u8 97, .int .u8 61, .int .u8 49] 5)) = .ok (.slice (some ⟨w2.heap.size, 0, none⟩) 3 3) (w2.alloc (.cells #[.int .u8 97, .int .u8 61, .int .u8 49] 5 (3, 4))) := Lib.run_convert_bytes_const (P := Tryz.prog) w2 22 5 #[.int .u8 97, .int .u8 61, .int .u8 49] 3 3 Tryz.underlying22 Tryz.underlying5
      have hg3 := World.grownBy_alloc w2 (.cells #[.int .u8 97, .int .u8 61, .int .u8 49] 5 (3, 4)) none
      have hb3 := heap_alloc_new w2 (.cells #[.int .u8 97, .int .u8 61, .int .u8 49] 5 (3, 4))
      obtain ⟨x1, hone⟩ := doc_one
      have HI3 := Lib.hid (show Calls Tryz.prog 5 #[.slice (some ⟨w2.heap.size, 0, none⟩) 3 3] (w2.alloc (.cells #[.int .u8 97, .int .u8 61, .int .u8 49] 5 (3, 4))) (IrQ [x1] (w2.alloc (.cells #[.int .u8 97, .int .u8 61, .int .u8 49] 5 (3, 4)))) from
        iread (B := B1) (.inr ⟨_, rfl, fun i u hu => by
          rw [show (⟨w2.heap.size, 0, none⟩ : Addr).add i = ⟨w2.heap.size, i, none⟩ by unfold Addr.add; split <;> simp_all, cell_of_row _ _ i _ _ _ hb3]
          match i, hu with
          | 0, hu => cases hu; rfl
          | 1, hu => cases hu; rfl
          | 2, hu => cases hu; rfl⟩) (by decide) hone)
      have HXA := Lib.hid (show ∀ W : World, w2.grownBy W none → Calls Tryz.prog 6 #[.slice pv2 lv2 cv2, .slice pv lv cv] W fun e w' => e = .returned (.bool true) ∧ W.grownBy w' none from fun W hW => by
        have f1 : ∀ b, P b → W.heap[b]? = w1.heap[b]? := fun b hb => (hW.block b (Nat.lt_of_lt_of_le (HP.out b hb) hg2.size) (by simp)).trans (hg2.block b (HP.out b hb) (by simp))
        exact exprs_are (P := P2) (Q := P) (es := es) (by
          obtain ⟨p, c, e, h⟩ := hX2
          refine ⟨p, c, e, h.imp id fun ⟨a, h1, h2, h3⟩ => ⟨a, h1, h2, fun j x hj => ?_⟩⟩
          obtain ⟨ds, g1, g2, g3⟩ := h3 j x hj
          exact ⟨ds, g1, fun i u hu => (World.cell?_of_block (w := w2) (hW.block _ (cell_lt (g2 i u hu)) (by simp))).trans (g2 i u hu), g3.frame (fun b hb => hW.block b (hP2 b hb) (by simp)) fun _ h => h⟩) (by
          obtain ⟨p, c, e, h⟩ := HX.out
          refine ⟨p, c, e, h.imp id fun ⟨a, h1, h2, h3⟩ => ⟨a, h1, h2, fun j x hj => ?_⟩⟩
          obtain ⟨ds, g1, g2, g3⟩ := h3 j x hj
          exact ⟨ds, g1, fun i u hu => (World.cell?_of_block (w := w1) (by rw [add_block]; exact f1 _ h2)).trans (g2 i u hu), g3.frame f1 fun _ h => h⟩) HD1.out.1 HD1.out.2 (fun b hb => Nat.lt_of_lt_of_le (hP2 b hb) hW.size) fun b hb => Nat.lt_of_lt_of_le (HP.out b hb) (Nat.le_trans hg2.size hW.size))
      have HG3 := Lib.hid (gtrans (gtrans HG1.out hg2) hg3)
      have HH3 := Lib.hid hg3
      clear hg2 hP2 hX2 hg3 hb3 hone HI1 HX HP HD1 HG1
      go_wp2_with fail
      with_reducible refine HI3.out.mono ?_
      rintro e w4 ⟨v4, rfl, hg4, P4, hP4, hX4⟩
      obtain ⟨p4, c4, rfl, _⟩ := hX4
      have HXA4 := Lib.hid (HXA.out w4 (gtrans HH3.out hg4))
      have HG4 := Lib.hid (gtrans HG3.out hg4)
      clear hg4 hP4 HXA HI3 HG3 HH3
      go_wp2_with fail
      with_reducible refine HXA4.out.mono ?_
      rintro e w5 ⟨rfl, hg5⟩
      have HG5 := Lib.hid (gtrans HG4.out hg5)
      clear hg5
      go_wp2_with fail
      go_ret
      exact ⟨rfl, HG5.out⟩
    · have t3 : (st != 0) = true := by simpa using hst
      have HG1 := Lib.hid hg1
      clear hx1 hg1
      go_wp2_with fail
      go_ret
      exact ⟨rfl, HG1.out⟩
  · have h2 : 65536 < B.length := by omega
    clear h hc h1
    obtain ⟨n, hn⟩ : ∃ n, B.length = n := ⟨_, rfl⟩
    rw [hn] at h2 ⊢
    clear hn
    have t2 : decide ((65536 : Int) < (n : Int)) = true := by simp; omega
    have HG := Lib.hid (grown_drewN w 0)
    by_cases h3 : 2147483647 < n
    · have t1 : decide ((2147483647 : Int) < (n : Int)) = true := by simp; omega
      go_enter Tryz.func3, Tryz.ntmps3
      go_wp2_with fail
      go_ret
      exact ⟨rfl, HG.out⟩
    · have t1 : decide ((2147483647 : Int) < (n : Int)) = false := by simp; omega
      go_enter Tryz.func3, Tryz.ntmps3
      go_wp2_with fail
      go_ret
      exact ⟨rfl, HG.out⟩
end Go.Proofs.YtalmpddmhakdmaaGreat
