/-
  The walk of a function of the laws: two values are the same (24). Conditions: both read as the same value.
-/
import Derived.Test.YtalmpddmhakdmaaGreatCJ20
import Derived.Test.YtalmpddmhakdmaaGreatCJ23
import Derived.Test.YtalmpddmhakdmaaGreatCJ31
import Derived.StillTailTactics
import Derived.Deep.RegionHeld3
namespace Go.Proofs.YtalmpddmhakdmaaGreat
open Go.RowKit

/-- A value's parts and keys are not too many. -/
def Bd : Nat → Nd → Prop
  | 0, _ => False
  | d + 1, .mk _ _ items keys => keys.length ≤ 300000 ∧ items.length ≤ 300000 ∧ ∀ v ∈ items, Bd d v
/-- Values of a depth are told to be the same. -/
def NisC (d : Nat) : Prop := ∀ (w : World) (P Q : Nat → Prop) (ca cb : List Value) (x : Nd), NdAt d P w ca x → NdAt d Q w cb x → Bd d x → (∀ b, P b → b < w.heap.size) → (∀ b, Q b → b < w.heap.size) →
  Calls Tryz.prog 24 #[.agg ca.toArray, .agg cb.toArray] w fun e w' => e = .returned (.bool true) ∧ w.grownBy w' none

theorem add_add' (a : Addr) (x n : Nat) : (a.add x).add n = a.add (x + n) := by
  unfold Addr.add
  by_cases hx : x = 0
  · subst hx
    simp
  · by_cases hn : n = 0
    · subst hn
      simp
    · rw [if_neg hx, if_neg hn, if_neg (by omega)]
      simp [Nat.add_assoc]
/-- Four cells of a row, as a load of a value finds them. -/
theorem cells4 {w : World} {a : Addr} {k : Nat} {e0 e1 e2 e3 : Value} (h : ∀ i u, [e0, e1, e2, e3][i]? = some u → w.cell? (a.add (4 * k + i)) = some u) :
    w.cell? (a.add (k * 4)) = some e0 ∧ w.cell? ⟨(a.add (k * 4)).block, (a.add (k * 4)).off + 1, none⟩ = some e1 ∧ w.cell? ⟨(a.add (k * 4)).block, (a.add (k * 4)).off + 2, none⟩ = some e2 ∧ w.cell? ⟨(a.add (k * 4)).block, (a.add (k * 4)).off + 3, none⟩ = some e3 := by
  rw [Nat.mul_comm k 4]
  have key : ∀ i u, [e0, e1, e2, e3][i + 1]? = some u → w.cell? ⟨(a.add (4 * k)).block, (a.add (4 * k)).off + (i + 1), none⟩ = some u := fun i u hu => by
    have := h (i + 1) u hu
    rw [← add_add', Addr.add_succ'] at this
    exact this
  exact ⟨h 0 e0 rfl, key 0 e1 rfl, key 1 e2 rfl, key 2 e3 rfl⟩

set_option maxRecDepth 100000 in
set_option maxHeartbeats 4000000 in
theorem nis_step {w : World} {P Q : Nat → Prop} {pa pb : Option Addr} {na nb : Nat} {kva kvb : Value} {kind : Int} {text : List UInt8} {items : List Nd} {keys : List (List UInt8)}
    (hka : TxsAt P w kva keys) (hkb : TxsAt Q w kvb keys) (hkl : keys.length ≤ 300000) (hil : items.length ≤ 300000) (hP : ∀ b, P b → b < w.heap.size) (hQ : ∀ b, Q b → b < w.heap.size)
    (hI : ∀ (W : World), w.grownBy W none → ∀ j x, items[j]? = some x → ∃ a b e0 e1 e2 e3 f0 f1 f2 f3, pa = some a ∧ pb = some b ∧ (∀ i u, [e0, e1, e2, e3][i]? = some u → W.cell? (a.add (4 * j + i)) = some u) ∧ (∀ i u, [f0, f1, f2, f3][i]? = some u → W.cell? (b.add (4 * j + i)) = some u) ∧
      Calls Tryz.prog 24 #[.agg #[e0, e1, e2, e3], .agg #[f0, f1, f2, f3]] W fun e w' => e = .returned (.bool true) ∧ W.grownBy w' none) :
    Calls Tryz.prog 24 #[.agg #[.int .i64 kind, .string ⟨text.toArray⟩, .slice pa items.length na, kva], .agg #[.int .i64 kind, .string ⟨text.toArray⟩, .slice pb items.length nb, kvb]] w fun e w' => e = .returned (.bool true) ∧ w.grownBy w' none := by
  obtain ⟨pka, cka, rfl⟩ : ∃ p c, kva = .slice p keys.length c := by
    obtain ⟨p, c, h, _⟩ := hka
    exact ⟨p, c, h⟩
  obtain ⟨pkb, ckb, rfl⟩ : ∃ p c, kvb = .slice p keys.length c := by
    obtain ⟨p, c, h, _⟩ := hkb
    exact ⟨p, c, h⟩
  have HK := Lib.hid (show ∀ (W : World), w.grownBy W none → Calls Tryz.prog 23 #[.slice pka keys.length cka, .slice pkb keys.length ckb] W fun e w' => e = .returned (.bool true) ∧ ∃ q, w' = W.drewN q from
    fun W hW => keys_are (hka.frame (fun b hb => hW.block b (hP b hb) (by simp)) fun _ h => h) (hkb.frame (fun b hb => hW.block b (hQ b hb) (by simp)) fun _ h => h) hkl)
  have HI := Lib.hid hI
  obtain ⟨n, hn⟩ : ∃ n, items.length = n := ⟨_, rfl⟩
  obtain ⟨kn, hkn⟩ : ∃ kn, keys.length = kn := ⟨_, rfl⟩
  rw [hn] at hil ⊢
  rw [hkn] at HK hkl ⊢
  have HN := Lib.hid hn
  clear hka hkb hP hQ hI hn hkn
  obtain ⟨o1, ho1⟩ : ∃ o : Obj, Obj.cells #[.int .i64 kind, .string ⟨text.toArray⟩, .slice pa n na, .slice pka kn cka] 64 = o := ⟨_, rfl⟩
  have h0 := heap_alloc_new w (.cells #[.int .i64 kind, .string ⟨text.toArray⟩, .slice pa n na, .slice pka kn cka] 64)
  have hg1 := World.grownBy_alloc w (.cells #[.int .i64 kind, .string ⟨text.toArray⟩, .slice pa n na, .slice pka kn cka] 64) none
  have h1 := heap_alloc_new (w.alloc (.cells #[.int .i64 kind, .string ⟨text.toArray⟩, .slice pa n na, .slice pka kn cka] 64)) (.cells #[.int .i64 kind, .string ⟨text.toArray⟩, .slice pb n nb, .slice pkb kn ckb] 38)
  have hg2 := World.grownBy_alloc (w.alloc (.cells #[.int .i64 kind, .string ⟨text.toArray⟩, .slice pa n na, .slice pka kn cka] 64)) (.cells #[.int .i64 kind, .string ⟨text.toArray⟩, .slice pb n nb, .slice pkb kn ckb] 38) none
  have hh0 := (hg2.block w.heap.size (by rw [World.size_alloc]; omega) (by simp)).trans h0
  have hsz := World.size_alloc w (.cells #[.int .i64 kind, .string ⟨text.toArray⟩, .slice pa n na, .slice pka kn cka] 64)
  have hg := gtrans hg1 hg2
  clear h0 hg1 hg2 ho1
  go_enter Tryz.func24, Tryz.ntmps24
  go_upto_region 1 with fail
  rw [hsz] at h1
  obtain ⟨W, hW⟩ : ∃ W : World, (w.alloc (.cells #[.int .i64 kind, .string ⟨text.toArray⟩, .slice pa n na, .slice pka kn cka] 64)).alloc (.cells #[.int .i64 kind, .string ⟨text.toArray⟩, .slice pb n nb, .slice pkb kn ckb] 38) = W := ⟨_, rfl⟩
  rw [hW] at h1 hh0 hg ⊢
  have hszW := hg.size
  clear hW hsz
  have HG := Lib.hid hg
  have HGW := Lib.hid hg
  have HSZ := Lib.hid (show w.heap.size + 2 ≤ W.heap.size from by have := hszW; have h9 := cell_lt (w := W) (p := ⟨w.heap.size + 1, 0, none⟩) (by rw [cell_of_row _ _ 0 _ _ _ h1]; rfl); exact h9)
  have HB1 := Lib.hid hh0
  have HB2 := Lib.hid h1
  obtain ⟨b1, hb1⟩ : ∃ b1, w.heap.size = b1 := ⟨_, rfl⟩
  rw [hb1] at hh0 h1 HB1 HB2 HSZ ⊢
  have a0 : W.cell? ⟨b1, 0, none⟩ = some (.int .i64 kind) := by rw [cell_of_row _ _ 0 _ _ _ hh0]; rfl
  have a1 : W.cell? ⟨b1, 1, none⟩ = some (.string ⟨text.toArray⟩) := by rw [cell_of_row _ _ 1 _ _ _ hh0]; rfl
  have a2 : W.cell? ⟨b1, 2, none⟩ = some (.slice pa n na) := by rw [cell_of_row _ _ 2 _ _ _ hh0]; rfl
  have a3 : W.cell? ⟨b1, 3, none⟩ = some (.slice pka kn cka) := by rw [cell_of_row _ _ 3 _ _ _ hh0]; rfl
  have e0 : W.cell? ⟨b1 + 1, 0, none⟩ = some (.int .i64 kind) := by rw [cell_of_row _ _ 0 _ _ _ h1]; rfl
  have e1 : W.cell? ⟨b1 + 1, 1, none⟩ = some (.string ⟨text.toArray⟩) := by rw [cell_of_row _ _ 1 _ _ _ h1]; rfl
  have e2 : W.cell? ⟨b1 + 1, 2, none⟩ = some (.slice pb n nb) := by rw [cell_of_row _ _ 2 _ _ _ h1]; rfl
  have e3 : W.cell? ⟨b1 + 1, 3, none⟩ = some (.slice pkb kn ckb) := by rw [cell_of_row _ _ 3 _ _ _ h1]; rfl
  have HK2 := Lib.hid (HK.out W HG.out)
  clear hh0 h1 hg HK
  obtain ⟨kl, hkl8⟩ : ∃ kl : Bool, decide (kind < 8) = kl := ⟨_, rfl⟩
  go_cut [39] from 6 to 39 (fun v wx => v = .bool false ∧ ∃ q, wx = W.drewN q)
  case first =>
    cases kl with
    | true =>
      have hk8 := of_decide_eq_true hkl8
      go_wp2_with fail
      with_reducible refine (HK2.out).mono ?_
      rintro e w' ⟨rfl, q, rfl⟩
      go_wp2_with fail
      go_meet
      exact ⟨rfl, _, rfl⟩
    | false =>
      have hk8 := of_decide_eq_false hkl8
      go_wp2_with fail
      with_reducible refine (HK2.out).mono ?_
      rintro e w' ⟨rfl, q, rfl⟩
      go_wp2_with fail
      go_meet
      exact ⟨rfl, _, rfl⟩
  case rest =>
    obtain ⟨rfl, q, rfl⟩ := hcut
    have HG0 := Lib.hid (gtrans HG.out (grown_drewN W q))
    obtain ⟨V, hV⟩ : ∃ V : World, W.drewN q = V := ⟨_, rfl⟩
    have HV0 := Lib.hid (show W.grownBy V none by rw [← hV]; exact grown_drewN W q)
    rw [hV] at HG0 ⊢
    have HVS := Lib.hid hV
    clear HG HK2 a0 a1 a3 e0 e1 e2 e3
    have va2 : V.cell? ⟨b1, 2, none⟩ = some (.slice pa n na) := by rw [← hV]; exact a2
    clear hV a2
    go_wp2_with fail
    go_loopw [43] (fun v wr => ∃ k : Nat, v = .int .i64 k ∧ k ≤ n ∧ W.grownBy wr none) (fun v _ => n - (intOf v).toNat)
    case atStart => exact ⟨0, by simp, Nat.zero_le _, HV0.out⟩
    case round =>
      obtain ⟨k, rfl, hk, hgr⟩ := hrel
      by_cases hkn : k < n
      · obtain ⟨x, hx⟩ : ∃ x, items[k]? = some x := ⟨_, List.getElem?_eq_getElem (by rw [HN.out]; exact hkn)⟩
        obtain ⟨a, b, e0, e1, e2, e3, f0, f1, f2, f3, rfl, rfl, hca, hcb, hcall⟩ := HI.out wr.drew (gtrans HGW.out (gtrans hgr (grown_drewN wr 1))) k x hx
        have HCALL := Lib.hid hcall
        have HGR := Lib.hid hgr
        have hh0 := (hgr.block b1 (by have := HSZ.out; omega) (by simp)).trans HB1.out
        have h1 := (hgr.block (b1 + 1) (by have := HSZ.out; omega) (by simp)).trans HB2.out
        have r2 : wr.cell? ⟨b1, 2, none⟩ = some (.slice (some a) n na) := by rw [cell_of_row _ _ 2 _ _ _ hh0]; rfl
        have s2 : wr.cell? ⟨b1 + 1, 2, none⟩ = some (.slice (some b) n nb) := by rw [cell_of_row _ _ 2 _ _ _ h1]; rfl
        obtain ⟨x0, x1, x2, x3⟩ := cells4 (w := wr) hca
        obtain ⟨y0, y1, y2, y3⟩ := cells4 (w := wr) hcb
        have hlt : (k : Int) < (n : Int) := by omega
        clear hca hcb hcall hgr hx hh0 h1
        have HDR := Lib.hid (grown_drewN wr 1)
        go_wp2_with fail
        go_still_tail 10, (by kernel_rfl)
        change wpList _ _ _ _ _ wr.drew
        go_wp2_with fail
        with_reducible refine (HCALL.out).mono ?_
        rintro e w' ⟨rfl, hg'⟩
        have HGN := Lib.hid (gtrans HGR.out (gtrans HDR.out hg'))
        clear hg'
        go_wp2_with fail
        go_roundw
        case rel => exact ⟨k + 1, by go_num, by omega, HGN.out⟩
        case measure => simp [intOf]; omega
      · go_wp2_with fail
        go_ret
        exact ⟨rfl, gtrans HGW.out hgr⟩
theorem list4 {α : Type} {l : List α} (h : l.length = 4) : ∃ a b c d, l = [a, b, c, d] := by
  rcases l with _ | ⟨a, _ | ⟨b, _ | ⟨c, _ | ⟨d, _ | ⟨e, l⟩⟩⟩⟩⟩
  all_goals first | exact ⟨_, _, _, _, rfl⟩ | simp at h
theorem node_is : ∀ d, NisC d
  | 0 => fun _ _ _ _ _ _ h _ _ _ _ => h.elim
  | d + 1 => fun w P Q ca cb x ha hb hbd hP hQ => by
    obtain ⟨kind, text, items, keys⟩ := x
    obtain ⟨pa, na, kva, rfl, hka, ha⟩ := ha
    obtain ⟨pb, nb, kvb, rfl, hkb, hb⟩ := hb
    obtain ⟨hkl, hil, hbi⟩ := hbd
    refine nis_step hka hkb hkl hil hP hQ fun W hW j x hj => ?_
    have hne : items ≠ [] := by rintro rfl; cases hj
    obtain ⟨a, rfl, hPa, hia⟩ := ha.resolve_left hne
    obtain ⟨b, rfl, hQb, hib⟩ := hb.resolve_left hne
    obtain ⟨ds, hl, hc, hnd⟩ := hia j x hj
    obtain ⟨es, hl', hc', hnd'⟩ := hib j x hj
    obtain ⟨e0, e1, e2, e3, rfl⟩ := list4 hl
    obtain ⟨f0, f1, f2, f3, rfl⟩ := list4 hl'
    have hbl : ∀ b, b < w.heap.size → W.heap[b]? = w.heap[b]? := fun b hb => hW.block b hb (by simp)
    exact ⟨a, b, e0, e1, e2, e3, f0, f1, f2, f3, rfl, rfl, fun i u hu => (World.cell?_of_block (w := w) (by rw [add_block]; exact hbl _ (hP _ hPa))).trans (hc i u hu),
      fun i u hu => (World.cell?_of_block (w := w) (by rw [add_block]; exact hbl _ (hQ _ hQb))).trans (hc' i u hu),
      node_is d W P Q _ _ x (hnd.frame (fun b hb => hbl b (hP b hb)) fun _ h => h) (hnd'.frame (fun b hb => hbl b (hQ b hb)) fun _ h => h) (hbi x (List.mem_of_getElem? hj)) (fun b hb => Nat.lt_of_lt_of_le (hP b hb) hW.size) fun b hb => Nat.lt_of_lt_of_le (hQ b hb) hW.size⟩
end Go.Proofs.YtalmpddmhakdmaaGreat

/-
  The walk of a function of the laws: expressions are the same (6). Conditions: both read as the same expressions.
-/
namespace Go.Proofs.YtalmpddmhakdmaaGreat
open Go.RowKit

/-- Six cells of a row, as loads of an expression find them. -/
theorem cells6 {w : World} {a : Addr} {k : Nat} {d0 d1 e0 e1 e2 e3 : Value} (h : ∀ i u, [d0, d1, e0, e1, e2, e3][i]? = some u → w.cell? (a.add (6 * k + i)) = some u) :
    w.cell? (a.add (k * 6)) = some d0 ∧ w.cell? ⟨(a.add (k * 6)).block, (a.add (k * 6)).off + 1, none⟩ = some d1 ∧ w.cell? ⟨(a.add (k * 6)).block, (a.add (k * 6)).off + 2, none⟩ = some e0 ∧ w.cell? ⟨(a.add (k * 6)).block, (a.add (k * 6)).off + 3, none⟩ = some e1 ∧
      w.cell? ⟨(a.add (k * 6)).block, (a.add (k * 6)).off + 4, none⟩ = some e2 ∧ w.cell? ⟨(a.add (k * 6)).block, (a.add (k * 6)).off + 5, none⟩ = some e3 := by
  rw [Nat.mul_comm k 6]
  have key : ∀ i u, [d0, d1, e0, e1, e2, e3][i + 1]? = some u → w.cell? ⟨(a.add (6 * k)).block, (a.add (6 * k)).off + (i + 1), none⟩ = some u := fun i u hu => by
    have := h (i + 1) u hu
    rw [← add_add', Addr.add_succ'] at this
    exact this
  exact ⟨h 0 _ rfl, key 0 _ rfl, key 1 _ rfl, key 2 _ rfl, key 3 _ rfl, key 4 _ rfl⟩

/-- What a row of two expressions holds. -/
def S12 (w : World) (a b : Addr) (o : Nat) (kd : Int) (kv n0 n1 n2 n3 lv m0 m1 m2 m3 : Value) : Prop :=
  w.cell? (a.add o) = some (.int .i64 kd) ∧ w.cell? ⟨(a.add o).block, (a.add o).off + 1, none⟩ = some kv ∧ w.cell? ⟨(a.add o).block, (a.add o).off + 2, none⟩ = some n0 ∧ w.cell? ⟨(a.add o).block, (a.add o).off + 3, none⟩ = some n1 ∧ w.cell? ⟨(a.add o).block, (a.add o).off + 4, none⟩ = some n2 ∧ w.cell? ⟨(a.add o).block, (a.add o).off + 5, none⟩ = some n3 ∧
  w.cell? (b.add o) = some (.int .i64 kd) ∧ w.cell? ⟨(b.add o).block, (b.add o).off + 1, none⟩ = some lv ∧ w.cell? ⟨(b.add o).block, (b.add o).off + 2, none⟩ = some m0 ∧ w.cell? ⟨(b.add o).block, (b.add o).off + 3, none⟩ = some m1 ∧ w.cell? ⟨(b.add o).block, (b.add o).off + 4, none⟩ = some m2 ∧ w.cell? ⟨(b.add o).block, (b.add o).off + 5, none⟩ = some m3
theorem S12.kept {w w' : World} {a b : Addr} {o : Nat} {kd : Int} {kv n0 n1 n2 n3 lv m0 m1 m2 m3 : Value} (h : S12 w a b o kd kv n0 n1 n2 n3 lv m0 m1 m2 m3) (hg : w.grownBy w' none) : S12 w' a b o kd kv n0 n1 n2 n3 lv m0 m1 m2 m3 := by
  obtain ⟨h0, h1, h2, h3, h4, h5, g0, g1, g2, g3, g4, g5⟩ := h
  have key : ∀ (p : Addr) (v : Value), w.cell? p = some v → w'.cell? p = some v := fun p v h => (World.cell?_of_block (w := w) (hg.block p.block (cell_lt h) (by simp))).trans h
  exact ⟨key _ _ h0, key _ _ h1, key _ _ h2, key _ _ h3, key _ _ h4, key _ _ h5, key _ _ g0, key _ _ g1, key _ _ g2, key _ _ g3, key _ _ g4, key _ _ g5⟩

set_option maxRecDepth 100000 in
set_option maxHeartbeats 8000000 in
theorem exprs_are {w : World} {P Q : Nat → Prop} {va vb : Value} {es : List Ex} (ha : ExsAt P w va es) (hb : ExsAt Q w vb es) (hl : es.length ≤ 300000) (hbd : ∀ x ∈ es, x.keys.length ≤ 300000 ∧ (x.kind = 0 → Bd 51 x.val)) (hP : ∀ b, P b → b < w.heap.size) (hQ : ∀ b, Q b → b < w.heap.size) :
    Calls Tryz.prog 6 #[va, vb] w fun e w' => e = .returned (.bool true) ∧ w.grownBy w' none := by
  obtain ⟨pa, ca, rfl, ha⟩ := ha
  obtain ⟨pb, cb, rfl, hb⟩ := hb
  have HA := Lib.hid ha
  have HB := Lib.hid hb
  have HBD := Lib.hid hbd
  have HP := Lib.hid hP
  have HQ := Lib.hid hQ
  obtain ⟨n, hn⟩ : ∃ n, es.length = n := ⟨_, rfl⟩
  rw [hn] at hl ⊢
  have HN := Lib.hid hn
  clear ha hb hn hbd hP hQ
  go_enter Tryz.func6, Tryz.ntmps6
  go_wp2_with fail
  go_loopw [13] (fun v wr => ∃ k : Nat, v = .int .i64 k ∧ k ≤ n ∧ w.grownBy wr none) (fun v _ => n - (intOf v).toNat)
  case atStart => exact ⟨0, by simp, Nat.zero_le _, grown_drewN w 0⟩
  case round =>
    obtain ⟨k, rfl, hk, hgr⟩ := hrel
    by_cases hkn : k < n
    · obtain ⟨x, hx⟩ : ∃ x, es[k]? = some x := ⟨_, List.getElem?_eq_getElem (by rw [HN.out]; exact hkn)⟩
      have hne : es ≠ [] := by rintro rfl; cases hx
      obtain ⟨a, rfl, hPa, hia⟩ := HA.out.resolve_left hne
      obtain ⟨b, rfl, hQb, hib⟩ := HB.out.resolve_left hne
      obtain ⟨ds, _, hc, kv, n0, n1, n2, n3, rfl, hky, hnd⟩ := hia k x hx
      obtain ⟨fs, _, hc', lv, m0, m1, m2, m3, rfl, hky', hnd'⟩ := hib k x hx
      have hbl : ∀ b, b < w.heap.size → wr.heap[b]? = w.heap[b]? := fun b hb => hgr.block b hb (by simp)
      obtain ⟨x0, x1, x2, x3, x4, x5⟩ := cells6 (w := wr) fun i u hu => (World.cell?_of_block (w := w) (by rw [add_block]; exact hbl _ (HP.out _ hPa))).trans (hc i u hu)
      obtain ⟨y0, y1, y2, y3, y4, y5⟩ := cells6 (w := wr) fun i u hu => (World.cell?_of_block (w := w) (by rw [add_block]; exact hbl _ (HQ.out _ hQb))).trans (hc' i u hu)
      have hb2 := HBD.out x (List.mem_of_getElem? hx)
      have HK := Lib.hid (show ∀ W : World, wr.grownBy W none → Calls Tryz.prog 23 #[kv, lv] W fun e w' => e = .returned (.bool true) ∧ ∃ q, w' = W.drewN q from fun W hW =>
        keys_are ((hky.frame (fun b hb => hbl b (HP.out b hb)) fun _ h => h).frame (fun b hb => hW.block b (Nat.lt_of_lt_of_le (HP.out b hb) hgr.size) (by simp)) fun _ h => h)
          ((hky'.frame (fun b hb => hbl b (HQ.out b hb)) fun _ h => h).frame (fun b hb => hW.block b (Nat.lt_of_lt_of_le (HQ.out b hb) hgr.size) (by simp)) fun _ h => h) hb2.1)
      have HND := Lib.hid (show x.kind = 0 → ∀ W : World, wr.grownBy W none → Calls Tryz.prog 24 #[.agg #[n0, n1, n2, n3], .agg #[m0, m1, m2, m3]] W fun e w' => e = .returned (.bool true) ∧ W.grownBy w' none from fun h0 W hW =>
        node_is 51 W P Q [n0, n1, n2, n3] [m0, m1, m2, m3] x.val (((hnd h0).frame (fun b hb => hbl b (HP.out b hb)) fun _ h => h).frame (fun b hb => hW.block b (Nat.lt_of_lt_of_le (HP.out b hb) hgr.size) (by simp)) fun _ h => h)
          (((hnd' h0).frame (fun b hb => hbl b (HQ.out b hb)) fun _ h => h).frame (fun b hb => hW.block b (Nat.lt_of_lt_of_le (HQ.out b hb) hgr.size) (by simp)) fun _ h => h) (hb2.2 h0)
          (fun b hb => Nat.lt_of_lt_of_le (Nat.lt_of_lt_of_le (HP.out b hb) hgr.size) hW.size) (fun b hb => Nat.lt_of_lt_of_le (Nat.lt_of_lt_of_le (HQ.out b hb) hgr.size) hW.size))
      have hlt : (k : Int) < (n : Int) := by omega
      have HGR := Lib.hid hgr
      obtain ⟨kd, hkd⟩ : ∃ kd, x.kind = kd := ⟨_, rfl⟩
      rw [hkd] at x0 y0 HND
      have lvf : ∃ p l c, lv = .slice p l c := by
        obtain ⟨p, c, h, _⟩ := hky'
        exact ⟨p, _, c, h⟩
      have kvf : ∃ p l c, kv = .slice p l c := by
        obtain ⟨p, c, h, _⟩ := hky
        exact ⟨p, _, c, h⟩
      obtain ⟨pk1, lk1, ck1, rfl⟩ := kvf
      obtain ⟨pk2, lk2, ck2, rfl⟩ := lvf
      clear hgr hky hky' hnd hnd' hc hc' hia hib hbl hb2 hPa hQb hx hne hkd
      by_cases hk0 : kd = 0
      · subst hk0
        have HND0 := Lib.hid (HND.out rfl)
        clear HND
        have HDR := Lib.hid (show wr.grownBy wr.drew none from grown_drewN wr 1)
        have HKD := Lib.hid (HK.out wr.drew HDR.out)
        have HKEEP := Lib.hid (show ∀ W : World, wr.grownBy W none → S12 W a b (k * 6) 0 (.slice pk1 lk1 ck1) n0 n1 n2 n3 (.slice pk2 lk2 ck2) m0 m1 m2 m3 from fun W hW => (show S12 wr a b (k * 6) 0 (.slice pk1 lk1 ck1) n0 n1 n2 n3 (.slice pk2 lk2 ck2) m0 m1 m2 m3 from ⟨x0, x1, x2, x3, x4, x5, y0, y1, y2, y3, y4, y5⟩).kept hW)
        go_upto_region 6 with fail
        go_cut [62] from 16 to 62 (fun v wx => v = .bool false ∧ w.grownBy wx none)
        case first =>
          go_region_held3 (fun w' => w'.cell? (a.add (k * 6)) = some (.int .i64 0) ∧ w'.cell? ⟨(a.add (k * 6)).block, (a.add (k * 6)).off + 1, none⟩ = some (.slice pk1 lk1 ck1) ∧ w'.cell? ⟨(a.add (k * 6)).block, (a.add (k * 6)).off + 2, none⟩ = some n0 ∧ w'.cell? ⟨(a.add (k * 6)).block, (a.add (k * 6)).off + 3, none⟩ = some n1 ∧ w'.cell? ⟨(a.add (k * 6)).block, (a.add (k * 6)).off + 4, none⟩ = some n2 ∧ w'.cell? ⟨(a.add (k * 6)).block, (a.add (k * 6)).off + 5, none⟩ = some n3 ∧ w'.cell? (b.add (k * 6)) = some (.int .i64 0) ∧ w'.cell? ⟨(b.add (k * 6)).block, (b.add (k * 6)).off + 1, none⟩ = some (.slice pk2 lk2 ck2) ∧ w'.cell? ⟨(b.add (k * 6)).block, (b.add (k * 6)).off + 2, none⟩ = some m0 ∧ w'.cell? ⟨(b.add (k * 6)).block, (b.add (k * 6)).off + 3, none⟩ = some m1 ∧ w'.cell? ⟨(b.add (k * 6)).block, (b.add (k * 6)).off + 4, none⟩ = some m2 ∧ w'.cell? ⟨(b.add (k * 6)).block, (b.add (k * 6)).off + 5, none⟩ = some m3) (go_keep) (first | (go_at_call 23; with_reducible refine (HKD.out).mono ?_; rintro e w5 ⟨rfl, q, rfl⟩; have HN5 := Lib.hid (HND0.out (wr.drewN (1 + q)) (grown_drewN wr (1 + q)))) | (go_at_call 24; (with_reducible refine (HN5.out).mono ?_); rintro e w6 ⟨rfl, hg6⟩; have HG6 := Lib.hid (gtrans (grown_drewN wr (1 + q)) hg6); have hs6 := HKEEP.out w6 HG6.out; obtain ⟨z0, z1, z2, z3, z4, z5, v0, v1, v2, v3, v4, v5⟩ := hs6; clear hg6))
          go_wp2_with fail
          go_meet
          exact ⟨rfl, gtrans HGR.out HG6.out⟩
        case rest =>
          obtain ⟨rfl, hg'⟩ := hcut
          have HGN := Lib.hid hg'
          clear hg' x0 x1 x2 x3 x4 x5 y0 y1 y2 y3 y4 y5
          go_wp2_with fail
          go_roundw
          case rel => exact ⟨k + 1, by go_num, by omega, HGN.out⟩
          case measure => simp [intOf]; omega
      · have ck0 : (kd == 0) = false := by simpa using hk0
        have HK2 := Lib.hid (fun q => HK.out (wr.drewN q) (grown_drewN wr q))
        clear HK HND
        go_wp2_with fail
        go_quiet ((go_at_call 23; exact Calls.quiet_of (HK2.out _)))
        have HGN := Lib.hid (gtrans HGR.out (grown_drewN wr nq))
        go_wp2_with fail
        go_roundw
        case rel => exact ⟨k + 1, by go_num, by omega, HGN.out⟩
        case measure => simp [intOf]; omega
    · go_wp2_with fail
      go_ret
      exact ⟨rfl, hgr⟩
end Go.Proofs.YtalmpddmhakdmaaGreat

/-
  The walks of functions of the parser: where a text of several lines ends, for a row's room. Conditions: the text lies in memory as stated.
-/
namespace Go.Proofs.YtalmpddmhakdmaaGreat
open Go.RowKit

set_option maxRecDepth 100000 in
set_option maxHeartbeats 2000000 in
theorem qob_any {w : World} {db : Nat} {B : List UInt8} {p n m : Nat} {a : Addr} (hD : Dt w db B) (h1 : p + n = B.length) (ha : 0 < n → a = ⟨db, p, none⟩) :
    Calls Tryz.prog 101 #[.slice (some a) n m] w fun e w' => (∃ y : Int, e = .returned (.int .i64 y) ∧ (y = -1 ∨ ∃ k : Nat, y = k ∧ k < n ∧ (pk B (p + k) = 34 ∨ pk B (p + k) = 92))) ∧ w' = w := by
  have HD := Lib.hid hD
  have HA := Lib.hid ha
  have hl := hD.len
  clear hD ha
  go_enter Tryz.func101, Tryz.ntmps101
  go_wp2_with fail
  go_loopw [7] (fun v wr => wr = w ∧ ∃ y : Nat, v = .int .i64 y ∧ y ≤ n) (fun v _ => n - (intOf v).toNat)
  case atStart => exact ⟨rfl, 0, rfl, Nat.zero_le _⟩
  case round =>
    obtain ⟨rfl, y, rfl, hy⟩ := hrel
    by_cases hlt : y < n
    · have hae := HA.out (by omega)
      subst hae
      have hc := HD.out.pk (i := p + y) (by omega)
      obtain ⟨c, hcc⟩ : ∃ c, pk B (p + y) = c := ⟨_, rfl⟩
      rw [hcc] at hc
      have HCC := Lib.hid hcc
      clear hcc
      by_cases h34 : c = 34
      · have t1 := byte_eq h34 (n := 34) rfl
        have HH := Lib.hid (HCC.out.trans h34)
        clear h34
        go_wp2_with fail
        go_ret
        exact ⟨⟨_, rfl, .inr ⟨y, rfl, hlt, .inl HH.out⟩⟩, rfl⟩
      · have t1 := byte_ne h34 (n := 34) rfl
        by_cases h92 : c = 92
        · have t2 := byte_eq h92 (n := 92) rfl
          have HH := Lib.hid (HCC.out.trans h92)
          clear h34 h92
          go_wp2_with fail
          go_ret
          exact ⟨⟨_, rfl, .inr ⟨y, rfl, hlt, .inr HH.out⟩⟩, rfl⟩
        · have t2 := byte_ne h92 (n := 92) rfl
          clear h34 h92
          go_wp2_with fail
          exact ⟨⟨trivial, y + 1, rfl, by omega⟩, by show n - (intOf (.int .i64 ((y : Int) + 1))).toNat < n - (intOf (.int .i64 (y : Int))).toNat; simp only [intOf]; omega⟩
    · clear HA
      go_wp2_with fail
      go_ret
      exact ⟨⟨_, rfl, .inl rfl⟩, rfl⟩

set_option maxRecDepth 100000 in
set_option maxHeartbeats 4000000 in
theorem findm_any {w : World} {db : Nat} {B : List UInt8} {o n m x : Nat} (hD : Dt w db B) (h1 : o + n = B.length) (h2 : n ≤ m) (hx : x ≤ n) :
    Calls Tryz.prog 93 #[.slice (some ⟨db, o, none⟩) n m, .int .i64 x] w fun e w' => (∃ y : Int, e = .returned (.int .i64 y) ∧ (y = -1 ∨ ((x : Int) ≤ y ∧ y < n))) ∧ w' = w := by
  have HD := Lib.hid hD
  have hl := hD.len
  clear hD
  go_enter Tryz.func93, Tryz.ntmps93
  go_wp2_with fail
  go_loopw [1] (fun v wr => wr = w ∧ ∃ y : Nat, v = .int .i64 y ∧ x ≤ y ∧ y ≤ n) (fun v _ => n - (intOf v).toNat)
  case atStart => exact ⟨rfl, x, rfl, Nat.le_refl _, hx⟩
  case round =>
    obtain ⟨rfl, y, rfl, hy, hyn⟩ := hrel
    obtain ⟨w, rfl⟩ : ∃ w0 : World, w0 = wr := ⟨_, rfl⟩
    obtain ⟨ad, had⟩ : ∃ ad : Addr, ad = if m = y then ⟨db, o, none⟩ else ⟨db, o + y, none⟩ := ⟨_, rfl⟩
    have hq := qob_any (p := o + y) (n := n - y) (m := m - y) (a := ad) HD.out (by omega) (fun h => by rw [had, if_neg (by omega)])
    have HQ := Lib.hid hq
    have hif : (if m = y then some (⟨db, o, none⟩ : Addr) else some ⟨db, o + y, none⟩) = some ad := by rw [had]; split <;> rfl
    have HIF := Lib.hid hif
    clear hq hif had
    go_upto_region 2 with (go_at_call 101; first | (rw [HIF.out]; with_reducible refine HQ.out.mono ?_) | (with_reducible refine HQ.out.mono ?_))
    rintro e w' ⟨⟨z, rfl, hz⟩, rfl⟩
    obtain ⟨w, rfl⟩ : ∃ w0 : World, w0 = w' := ⟨_, rfl⟩
    clear HQ HIF
    rcases hz with rfl | ⟨k, rfl, hk, hkc⟩
    · go_wp2_with fail
      go_ret
      exact ⟨⟨_, rfl, .inl rfl⟩, rfl⟩
    · rw [Nat.add_assoc] at hkc
      have hc := HD.out.pk (i := o + (y + k)) (by omega)
      have hyk : y + k < n := by omega
      by_cases h92 : pk B (o + (y + k)) = 92
      · have t1 := byte_eq h92 (n := 92) rfl
        clear h92 hkc
        generalize pk B (o + (y + k)) = c at *
        go_wp2_with fail
        · go_ret
          exact ⟨⟨_, rfl, .inl rfl⟩, rfl⟩
        · exact ⟨⟨trivial, y + k + 2, rfl, by omega, by omega⟩, by show n - (intOf (.int .i64 ((y : Int) + (k : Int) + 2))).toNat < n - (intOf (.int .i64 (y : Int))).toNat; simp only [intOf]; omega⟩
      · have t1 := byte_ne h92 (n := 92) rfl
        have HH := Lib.hid (hkc.resolve_right h92)
        clear h92 hkc
        go_upto_block 2 with fail
        go_cut [5] (fun v wx => ∃ y2 : Nat, v = .int .i64 y2 ∧ w = wx ∧ y + k < y2 ∧ y2 ≤ n)
        case first =>
          go_wp2_with fail
          go_loopw [5] (fun v wr => ∃ y2 : Nat, v = .int .i64 y2 ∧ w = wr ∧ y + k ≤ y2 ∧ y2 ≤ n) (fun v _ => B.length - (intOf v).toNat)
          case atStart => exact ⟨y + k, by rw [Int.natCast_add], rfl, Nat.le_refl _, by omega⟩
          case round =>
            obtain ⟨y2, rfl, hw2, hy2, hy2n⟩ := hrel
            subst hw2
            by_cases hlt : y2 < n
            · have hc2 := HD.out.pk (i := o + y2) (by omega)
              by_cases hq2 : pk B (o + y2) = 34
              · have t2 := byte_eq hq2 (n := 34) rfl
                clear hq2
                go_wp2_with fail
                exact ⟨⟨y2 + 1, rfl, by trivial, by omega, by omega⟩, by show B.length - (intOf (.int .i64 ((y2 : Int) + 1))).toNat < B.length - (intOf (.int .i64 (y2 : Int))).toNat; simp only [intOf]; omega⟩
              · have t2 := byte_ne hq2 (n := 34) rfl
                have hne : y + k ≠ y2 := fun e => hq2 (by rw [← e]; exact HH.out)
                clear hq2
                go_wp2_with fail
                go_meet
                exact ⟨y2, rfl, rfl, by omega, hy2n⟩
            · go_wp2_with fail
              go_meet
              exact ⟨y2, rfl, rfl, by omega, hy2n⟩
        case rest =>
          obtain ⟨y2, rfl, hw2, hy2, hy2n⟩ := hcut
          subst hw2
          clear hc t1 HH
          by_cases h3 : 3 ≤ y2 - (y + k)
          · go_wp2_with fail
            go_ret
            exact ⟨⟨_, rfl, .inr ⟨by omega, by omega⟩⟩, rfl⟩
          · go_wp2_with fail
            exact ⟨⟨trivial, y2, rfl, by omega, hy2n⟩, by show n - (intOf (.int .i64 (y2 : Int))).toNat < n - (intOf (.int .i64 (y : Int))).toNat; simp only [intOf]; omega⟩
end Go.Proofs.YtalmpddmhakdmaaGreat
