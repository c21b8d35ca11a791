/-
  The walk of the reader of numbers where the short reader hands the text on: the strokes are left out, then the library reads. Conditions: the slice's cells are known; the text has at most one hundred bytes.
-/
import Derived.Test.YtalmpddmhakdmaaDoorIndex
import Derived.OwnWalk
namespace Go.Proofs.YtalmpddmhakdmaaDoor
open Go.RowKit
attribute [local go_sem] unary_neg_float' jump_normal jump_exit jump_ret jump_panic jump_goto

theorem Tryd.info5 : (Tryd.prog.info? 5).map (fun i => (i.zero, i.size, i.bytes)) = some (some (.int .u8 0), 1, 1) := by kernel_rfl

def byt (c : UInt8) : Value := .int .u8 (c.toNat : Int)

theorem noStroke_take (t : List UInt8) (k : Nat) (hk : k < t.length) : Pl.noStroke (t.take (k + 1)) = Pl.noStroke (t.take k) ++ (if t[k] = 95 then [] else [t[k]]) := by
  rw [List.take_succ_eq_append_getElem hk, Pl.noStroke_append]
  congr 1
  unfold Pl.noStroke
  by_cases h : t[k] = 95
  · rw [if_pos h, h]; rfl
  · rw [if_neg h, List.filter_cons_of_pos (by simpa using h)]
    rfl

theorem noStroke_le (t : List UInt8) : (Pl.noStroke t).length ≤ t.length := List.length_filter_le _ _

theorem noStroke_less (t : List UInt8) (k : Nat) (hk : k < t.length) (h : t[k] ≠ 95) : (Pl.noStroke (t.take k)).length + 1 ≤ t.length := by
  have := noStroke_le (t.take (k + 1))
  rw [noStroke_take t k hk, if_neg h, List.length_append, List.length_take] at this
  simp only [List.length_singleton] at this
  omega

theorem run_string38 (w : World) (base g cap : Nat) (l : List UInt8) (n : Nat) (hn : l.length = n) (hown : w.ownsRow base 5 1 (.slice (some ⟨g, 0, none⟩) n cap) n (l.map byt)) :
    ∀ dst, Tryd.prog.underlying dst = some .string → (convert 38 dst (.slice (some ⟨g, 0, none⟩) n cap)).run Tryd.prog w = .ok (.string ⟨l.toArray⟩) w := by
  intro dst hd
  have h := run_convert_bytes_arg (P := Tryd.prog) w 38 5 Tryd.underlying38 Tryd.underlying5 g 0 n cap (l.map (fun c => (c.toNat : Int))) (by simpa using hn) (by
    intro i hi
    have hil : i < l.length := by omega
    have hget : (l.map (fun c => (c.toNat : Int))).getD i 0 = (l[i].toNat : Int) := by simp [List.getD, hil]
    have := hown.cells rfl i (byt (l[i])) (by simp [hil])
    rw [Addr.add] at this
    rw [Nat.zero_add, hget]
    split at this
    · rename_i h0
      subst h0
      exact this
    · rw [Nat.zero_add] at this
      exact this) dst hd
  have he : strOfNums (l.map (fun c => (c.toNat : Int))) = ⟨l.toArray⟩ := by
    have e1 : (l.map (fun c => (c.toNat : Int))).map (fun n => UInt8.ofNat n.toNat) = l := by
      rw [List.map_map]
      conv => rhs; rw [← List.map_id l]
      refine List.map_congr_left fun c _ => ?_
      simp
    unfold strOfNums
    rw [e1]
  rw [h, he]

set_option maxRecDepth 100000 in
set_option maxHeartbeats 2000000 in
/-- The short reader has handed the text on. -/
theorem float_slow_false_false (g cap : Nat) (w : World) (t u : List UInt8) (hl : t.length ≤ 100) (hg : g < w.heap.size) (ht : t = (if false = true then [45] else []) ++ u)
    (hc : ∀ i c, t[i]? = some c → w.cell? ⟨g, i, none⟩ = some (.int .u8 (c.toNat : Int)))
    (hu : ∃ c r, u = c :: r ∧ Pl.isD c = true) (hs : 95 ∈ t) (h3 : ((t.length : Int) == 3) = false) (r : Nat)
    (hf : Calls Tryd.prog 11 #[.slice (some ⟨g, 0, none⟩) t.length cap] w fun e w' => e = .returned (.tuple #[.float .f64 0, .bool false]) ∧ w = w')
    (hp : ∀ wr, Below w.heap.size w wr → Calls Tryd.prog 13 #[.string ⟨(Pl.noStroke t).toArray⟩, .int .i64 64] wr fun e w' => e = .returned (.tuple #[.float .f64 r, .nilIface]) ∧ wr = w') :
    Calls Tryd.prog 8 #[.slice (some ⟨g, 0, none⟩) t.length cap] w fun e w' => e = .returned (.tuple #[.float .f64 r, .nilIface]) ∧ Below w.heap.size w w' := by
  obtain ⟨c, q, rfl, hd⟩ := hu
  have hd' := Pl.isD_iff.1 hd
  have HF := Lib.hid hf
  have HP := Lib.hid hp
  have HC := Lib.hid hc
  clear hf hp
  have e1 : ((c.toNat : Int) == 43) = false := by simp; omega
  have e2 : ((c.toNat : Int) == 45) = false := by simp; omega
  have e3 : ((c.toNat : Int) == 105) = false := by simp; omega
  have e4 : ((c.toNat : Int) == 110) = false := by simp; omega
  have HI := Lib.hid (index_any g cap t w hc)
  obtain ⟨n, hn⟩ : ∃ n, Lib.indexByte t 95 = n := ⟨_, rfl⟩
  have hn0 : 0 ≤ n := by rw [← hn]; exact index_here hs
  have HN := Lib.hid hn
  have HS := Lib.hid hs
  clear hn hs
  have hL : 1 ≤ t.length := by rw [ht]; simp
  have hcell0 := hc 0 c (by rw [ht]; simp)
  clear hc ht
  obtain ⟨i0, hi, hz0, hz1, hz2⟩ := info_parts Tryd.info5
  go_enter Tryd.func8, Tryd.ntmps8
  go_wp2_with first
    | (go_at_call 11; refine (HF.out).mono ?_; rintro e w' ⟨rfl, rfl⟩)
    | (go_at_call 12; refine (HI.out n HN.out).mono ?_; rintro e w' ⟨rfl, rfl⟩)
    | (at_make; refine wpList_make_own _ rfl _ _ 38 rfl w.heap.size 5 i0 (.int .u8 0) 1 Tryd.underlying38 hi hz0 hz1 _ _ _ t.length rfl rfl (by omega) (by rw [hz2]; omega) (by unfold maxLen; omega) (Nat.le_refl _) ?_; intro w0 hown0 hgrow0)
  go_loopw [7, 63] (fun v i wr => ∃ k : Nat, k ≤ t.length ∧ i = .int .i64 k ∧ v = .slice (some ⟨w.heap.size, 0, none⟩) (Pl.noStroke (t.take k)).length t.length ∧
      wr.ownsRow w.heap.size 5 1 (.slice (some ⟨w.heap.size, 0, none⟩) (Pl.noStroke (t.take k)).length t.length) (Pl.noStroke (t.take k)).length ((Pl.noStroke (t.take k)).map byt) ∧ Below w.heap.size w wr)
    (fun _ i _ => t.length - (intOf i).toNat)
  case atStart => exact ⟨0, Nat.zero_le _, rfl, by rw [List.take_zero]; rfl, by rw [List.take_zero]; exact hown0, (Below.refl _ _).grown hgrow0 (Nat.le_refl _) (fun k h => by cases h)⟩
  case round =>
    obtain ⟨k, hk, rfl, rfl, hown, hnx⟩ := hrel
    clear hown0 hgrow0 hcell0 
    by_cases hkl : k < t.length
    · have hck : wr.cell? ⟨g, k, none⟩ = some (.int .u8 (t[k].toNat : Int)) := (hnx.cell (by exact hg)).trans (HC.out k _ (List.getElem?_eq_getElem hkl))
      have hsize := hnx.size
      by_cases h95 : t[k] = 95
      · have hstep := noStroke_take t k hkl
        rw [if_pos h95, List.append_nil] at hstep
        have HSTEP := Lib.hid hstep
        clear hstep
        have q1 : ((t[k].toNat : Int) != 95) = false := by rw [h95]; rfl
        obtain ⟨x, hx⟩ : ∃ x, t[k] = x := ⟨_, rfl⟩
        rw [hx] at hck q1 h95
        clear hx h95
        go_wp2_with fail
        go_roundw
        case rel => exact ⟨k + 1, by omega, by go_num, by rw [HSTEP.out], by rw [HSTEP.out]; exact hown, hnx⟩
        case measure => simp [intOf]; omega
      · have hstep := noStroke_take t k hkl
        rw [if_neg h95] at hstep
        have hroom := noStroke_less t k hkl h95
        have q1 : ((t[k].toNat : Int) != 95) = true := by
          simp only [bne_iff_ne, ne_eq]
          intro h
          exact h95 (UInt8.toNat_inj.1 (by have : (95 : UInt8).toNat = 95 := rfl; omega))
        obtain ⟨x, hx⟩ : ∃ x, t[k] = x := ⟨_, rfl⟩
        rw [hx] at hck q1 h95 hstep
        clear hx h95
        have HSTEP := Lib.hid hstep
        clear hstep
        obtain ⟨L, hL'⟩ : ∃ L, L = Pl.noStroke (t.take k) := ⟨_, rfl⟩
        rw [← hL'] at hown hroom HSTEP
        rw [← hL']
        clear hL'
        go_wp2_with (at_builtin; refine wpList_append_fits _ rfl _ _ 38 rfl w.heap.size 5 i0 1 Tryd.underlying38 hi hz1 w.heap.size L.length t.length _ rfl (hown.alloc _) ⟨wr.heap.size, 0, none⟩ 1 1 [byt x] rfl rfl (by intro j u hj; match j, hj with | 0, hj => simp at hj; subst hj; simp [Addr.add, byt]) (by intro u hu; simp at hu; subst hu; rfl) (by omega) ?_; intro w1 hown1 hgrow1)
        go_roundw
        case rel => exact ⟨k + 1, by omega, by go_num, by rw [HSTEP.out, List.length_append]; rfl, by rw [HSTEP.out, List.length_append, List.map_append]; exact hown1, (hnx.alloc hsize _).grown hgrow1 (by simp; omega) (fun k hk => by cases hk; exact Nat.le_refl _)⟩
        case measure => simp [intOf]; omega
    · obtain rfl : k = t.length := by omega
      rw [List.take_length] at hown
      rw [List.take_length]
      have hstr := run_string38 wr w.heap.size w.heap.size t.length (Pl.noStroke t) _ rfl hown
      have HP2 := Lib.hid (HP.out wr hnx)
      clear hown
      go_wp2_with (go_at_call 13; refine (HP2.out).mono ?_; rintro e w' ⟨rfl, rfl⟩)
      go_ret2
      exact ⟨rfl, hnx⟩

set_option maxRecDepth 100000 in
set_option maxHeartbeats 2000000 in
/-- The short reader has handed the text on. -/
theorem float_slow_false_true (g cap : Nat) (w : World) (t u : List UInt8) (hl : t.length ≤ 100) (hg : g < w.heap.size) (ht : t = (if false = true then [45] else []) ++ u)
    (hc : ∀ i c, t[i]? = some c → w.cell? ⟨g, i, none⟩ = some (.int .u8 (c.toNat : Int)))
    (hu : ∃ c r, u = c :: r ∧ Pl.isD c = true) (hs : 95 ∈ t) (h3 : ((t.length : Int) == 3) = true) (r : Nat)
    (hf : Calls Tryd.prog 11 #[.slice (some ⟨g, 0, none⟩) t.length cap] w fun e w' => e = .returned (.tuple #[.float .f64 0, .bool false]) ∧ w = w')
    (hp : ∀ wr, Below w.heap.size w wr → Calls Tryd.prog 13 #[.string ⟨(Pl.noStroke t).toArray⟩, .int .i64 64] wr fun e w' => e = .returned (.tuple #[.float .f64 r, .nilIface]) ∧ wr = w') :
    Calls Tryd.prog 8 #[.slice (some ⟨g, 0, none⟩) t.length cap] w fun e w' => e = .returned (.tuple #[.float .f64 r, .nilIface]) ∧ Below w.heap.size w w' := by
  obtain ⟨c, q, rfl, hd⟩ := hu
  have hd' := Pl.isD_iff.1 hd
  have HF := Lib.hid hf
  have HP := Lib.hid hp
  have HC := Lib.hid hc
  clear hf hp
  have e1 : ((c.toNat : Int) == 43) = false := by simp; omega
  have e2 : ((c.toNat : Int) == 45) = false := by simp; omega
  have e3 : ((c.toNat : Int) == 105) = false := by simp; omega
  have e4 : ((c.toNat : Int) == 110) = false := by simp; omega
  have HI := Lib.hid (index_any g cap t w hc)
  obtain ⟨n, hn⟩ : ∃ n, Lib.indexByte t 95 = n := ⟨_, rfl⟩
  have hn0 : 0 ≤ n := by rw [← hn]; exact index_here hs
  have HN := Lib.hid hn
  have HS := Lib.hid hs
  clear hn hs
  have hL : 1 ≤ t.length := by rw [ht]; simp
  have hcell0 := hc 0 c (by rw [ht]; simp)
  clear hc ht
  obtain ⟨i0, hi, hz0, hz1, hz2⟩ := info_parts Tryd.info5
  go_enter Tryd.func8, Tryd.ntmps8
  go_wp2_with first
    | (go_at_call 11; refine (HF.out).mono ?_; rintro e w' ⟨rfl, rfl⟩)
    | (go_at_call 12; refine (HI.out n HN.out).mono ?_; rintro e w' ⟨rfl, rfl⟩)
    | (at_make; refine wpList_make_own _ rfl _ _ 38 rfl w.heap.size 5 i0 (.int .u8 0) 1 Tryd.underlying38 hi hz0 hz1 _ _ _ t.length rfl rfl (by omega) (by rw [hz2]; omega) (by unfold maxLen; omega) (Nat.le_refl _) ?_; intro w0 hown0 hgrow0)
  go_loopw [7, 63] (fun v i wr => ∃ k : Nat, k ≤ t.length ∧ i = .int .i64 k ∧ v = .slice (some ⟨w.heap.size, 0, none⟩) (Pl.noStroke (t.take k)).length t.length ∧
      wr.ownsRow w.heap.size 5 1 (.slice (some ⟨w.heap.size, 0, none⟩) (Pl.noStroke (t.take k)).length t.length) (Pl.noStroke (t.take k)).length ((Pl.noStroke (t.take k)).map byt) ∧ Below w.heap.size w wr)
    (fun _ i _ => t.length - (intOf i).toNat)
  case atStart => exact ⟨0, Nat.zero_le _, rfl, by rw [List.take_zero]; rfl, by rw [List.take_zero]; exact hown0, (Below.refl _ _).grown hgrow0 (Nat.le_refl _) (fun k h => by cases h)⟩
  case round =>
    obtain ⟨k, hk, rfl, rfl, hown, hnx⟩ := hrel
    clear hown0 hgrow0 hcell0 
    by_cases hkl : k < t.length
    · have hck : wr.cell? ⟨g, k, none⟩ = some (.int .u8 (t[k].toNat : Int)) := (hnx.cell (by exact hg)).trans (HC.out k _ (List.getElem?_eq_getElem hkl))
      have hsize := hnx.size
      by_cases h95 : t[k] = 95
      · have hstep := noStroke_take t k hkl
        rw [if_pos h95, List.append_nil] at hstep
        have HSTEP := Lib.hid hstep
        clear hstep
        have q1 : ((t[k].toNat : Int) != 95) = false := by rw [h95]; rfl
        obtain ⟨x, hx⟩ : ∃ x, t[k] = x := ⟨_, rfl⟩
        rw [hx] at hck q1 h95
        clear hx h95
        go_wp2_with fail
        go_roundw
        case rel => exact ⟨k + 1, by omega, by go_num, by rw [HSTEP.out], by rw [HSTEP.out]; exact hown, hnx⟩
        case measure => simp [intOf]; omega
      · have hstep := noStroke_take t k hkl
        rw [if_neg h95] at hstep
        have hroom := noStroke_less t k hkl h95
        have q1 : ((t[k].toNat : Int) != 95) = true := by
          simp only [bne_iff_ne, ne_eq]
          intro h
          exact h95 (UInt8.toNat_inj.1 (by have : (95 : UInt8).toNat = 95 := rfl; omega))
        obtain ⟨x, hx⟩ : ∃ x, t[k] = x := ⟨_, rfl⟩
        rw [hx] at hck q1 h95 hstep
        clear hx h95
        have HSTEP := Lib.hid hstep
        clear hstep
        obtain ⟨L, hL'⟩ : ∃ L, L = Pl.noStroke (t.take k) := ⟨_, rfl⟩
        rw [← hL'] at hown hroom HSTEP
        rw [← hL']
        clear hL'
        go_wp2_with (at_builtin; refine wpList_append_fits _ rfl _ _ 38 rfl w.heap.size 5 i0 1 Tryd.underlying38 hi hz1 w.heap.size L.length t.length _ rfl (hown.alloc _) ⟨wr.heap.size, 0, none⟩ 1 1 [byt x] rfl rfl (by intro j u hj; match j, hj with | 0, hj => simp at hj; subst hj; simp [Addr.add, byt]) (by intro u hu; simp at hu; subst hu; rfl) (by omega) ?_; intro w1 hown1 hgrow1)
        go_roundw
        case rel => exact ⟨k + 1, by omega, by go_num, by rw [HSTEP.out, List.length_append]; rfl, by rw [HSTEP.out, List.length_append, List.map_append]; exact hown1, (hnx.alloc hsize _).grown hgrow1 (by simp; omega) (fun k hk => by cases hk; exact Nat.le_refl _)⟩
        case measure => simp [intOf]; omega
    · obtain rfl : k = t.length := by omega
      rw [List.take_length] at hown
      rw [List.take_length]
      have hstr := run_string38 wr w.heap.size w.heap.size t.length (Pl.noStroke t) _ rfl hown
      have HP2 := Lib.hid (HP.out wr hnx)
      clear hown
      go_wp2_with (go_at_call 13; refine (HP2.out).mono ?_; rintro e w' ⟨rfl, rfl⟩)
      go_ret2
      exact ⟨rfl, hnx⟩

set_option maxRecDepth 100000 in
set_option maxHeartbeats 2000000 in
/-- The short reader has handed the text on. -/
theorem float_slow_true_false (g cap : Nat) (w : World) (t u : List UInt8) (hl : t.length ≤ 100) (hg : g < w.heap.size) (ht : t = (if true = true then [45] else []) ++ u)
    (hc : ∀ i c, t[i]? = some c → w.cell? ⟨g, i, none⟩ = some (.int .u8 (c.toNat : Int)))
    (hu : ∃ c r, u = c :: r ∧ Pl.isD c = true) (hs : 95 ∈ t) (h3 : ((t.length : Int) == 4) = false) (r : Nat)
    (hf : Calls Tryd.prog 11 #[.slice (some ⟨g, 0, none⟩) t.length cap] w fun e w' => e = .returned (.tuple #[.float .f64 0, .bool false]) ∧ w = w')
    (hp : ∀ wr, Below w.heap.size w wr → Calls Tryd.prog 13 #[.string ⟨(Pl.noStroke t).toArray⟩, .int .i64 64] wr fun e w' => e = .returned (.tuple #[.float .f64 r, .nilIface]) ∧ wr = w') :
    Calls Tryd.prog 8 #[.slice (some ⟨g, 0, none⟩) t.length cap] w fun e w' => e = .returned (.tuple #[.float .f64 r, .nilIface]) ∧ Below w.heap.size w w' := by
  obtain ⟨c, q, rfl, hd⟩ := hu
  have hd' := Pl.isD_iff.1 hd
  have HF := Lib.hid hf
  have HP := Lib.hid hp
  have HC := Lib.hid hc
  clear hf hp
  have e1 : ((c.toNat : Int) == 43) = false := by simp; omega
  have e2 : ((c.toNat : Int) == 45) = false := by simp; omega
  have e3 : ((c.toNat : Int) == 105) = false := by simp; omega
  have e4 : ((c.toNat : Int) == 110) = false := by simp; omega
  have HI := Lib.hid (index_any g cap t w hc)
  obtain ⟨n, hn⟩ : ∃ n, Lib.indexByte t 95 = n := ⟨_, rfl⟩
  have hn0 : 0 ≤ n := by rw [← hn]; exact index_here hs
  have HN := Lib.hid hn
  have HS := Lib.hid hs
  clear hn hs
  have hL : 2 ≤ t.length := by rw [ht]; simp
  have hcell0 := hc 0 45 (by rw [ht]; simp)
  have hcell1 := hc 1 c (by rw [ht]; simp)
  clear hc ht
  obtain ⟨i0, hi, hz0, hz1, hz2⟩ := info_parts Tryd.info5
  go_enter Tryd.func8, Tryd.ntmps8
  go_wp2_with first
    | (go_at_call 11; refine (HF.out).mono ?_; rintro e w' ⟨rfl, rfl⟩)
    | (go_at_call 12; refine (HI.out n HN.out).mono ?_; rintro e w' ⟨rfl, rfl⟩)
    | (at_make; refine wpList_make_own _ rfl _ _ 38 rfl w.heap.size 5 i0 (.int .u8 0) 1 Tryd.underlying38 hi hz0 hz1 _ _ _ t.length rfl rfl (by omega) (by rw [hz2]; omega) (by unfold maxLen; omega) (Nat.le_refl _) ?_; intro w0 hown0 hgrow0)
  go_loopw [7, 63] (fun v i wr => ∃ k : Nat, k ≤ t.length ∧ i = .int .i64 k ∧ v = .slice (some ⟨w.heap.size, 0, none⟩) (Pl.noStroke (t.take k)).length t.length ∧
      wr.ownsRow w.heap.size 5 1 (.slice (some ⟨w.heap.size, 0, none⟩) (Pl.noStroke (t.take k)).length t.length) (Pl.noStroke (t.take k)).length ((Pl.noStroke (t.take k)).map byt) ∧ Below w.heap.size w wr)
    (fun _ i _ => t.length - (intOf i).toNat)
  case atStart => exact ⟨0, Nat.zero_le _, rfl, by rw [List.take_zero]; rfl, by rw [List.take_zero]; exact hown0, (Below.refl _ _).grown hgrow0 (Nat.le_refl _) (fun k h => by cases h)⟩
  case round =>
    obtain ⟨k, hk, rfl, rfl, hown, hnx⟩ := hrel
    clear hown0 hgrow0 hcell0 hcell1
    by_cases hkl : k < t.length
    · have hck : wr.cell? ⟨g, k, none⟩ = some (.int .u8 (t[k].toNat : Int)) := (hnx.cell (by exact hg)).trans (HC.out k _ (List.getElem?_eq_getElem hkl))
      have hsize := hnx.size
      by_cases h95 : t[k] = 95
      · have hstep := noStroke_take t k hkl
        rw [if_pos h95, List.append_nil] at hstep
        have HSTEP := Lib.hid hstep
        clear hstep
        have q1 : ((t[k].toNat : Int) != 95) = false := by rw [h95]; rfl
        obtain ⟨x, hx⟩ : ∃ x, t[k] = x := ⟨_, rfl⟩
        rw [hx] at hck q1 h95
        clear hx h95
        go_wp2_with fail
        go_roundw
        case rel => exact ⟨k + 1, by omega, by go_num, by rw [HSTEP.out], by rw [HSTEP.out]; exact hown, hnx⟩
        case measure => simp [intOf]; omega
      · have hstep := noStroke_take t k hkl
        rw [if_neg h95] at hstep
        have hroom := noStroke_less t k hkl h95
        have q1 : ((t[k].toNat : Int) != 95) = true := by
          simp only [bne_iff_ne, ne_eq]
          intro h
          exact h95 (UInt8.toNat_inj.1 (by have : (95 : UInt8).toNat = 95 := rfl; omega))
        obtain ⟨x, hx⟩ : ∃ x, t[k] = x := ⟨_, rfl⟩
        rw [hx] at hck q1 h95 hstep
        clear hx h95
        have HSTEP := Lib.hid hstep
        clear hstep
        obtain ⟨L, hL'⟩ : ∃ L, L = Pl.noStroke (t.take k) := ⟨_, rfl⟩
        rw [← hL'] at hown hroom HSTEP
        rw [← hL']
        clear hL'
        go_wp2_with (at_builtin; refine wpList_append_fits _ rfl _ _ 38 rfl w.heap.size 5 i0 1 Tryd.underlying38 hi hz1 w.heap.size L.length t.length _ rfl (hown.alloc _) ⟨wr.heap.size, 0, none⟩ 1 1 [byt x] rfl rfl (by intro j u hj; match j, hj with | 0, hj => simp at hj; subst hj; simp [Addr.add, byt]) (by intro u hu; simp at hu; subst hu; rfl) (by omega) ?_; intro w1 hown1 hgrow1)
        go_roundw
        case rel => exact ⟨k + 1, by omega, by go_num, by rw [HSTEP.out, List.length_append]; rfl, by rw [HSTEP.out, List.length_append, List.map_append]; exact hown1, (hnx.alloc hsize _).grown hgrow1 (by simp; omega) (fun k hk => by cases hk; exact Nat.le_refl _)⟩
        case measure => simp [intOf]; omega
    · obtain rfl : k = t.length := by omega
      rw [List.take_length] at hown
      rw [List.take_length]
      have hstr := run_string38 wr w.heap.size w.heap.size t.length (Pl.noStroke t) _ rfl hown
      have HP2 := Lib.hid (HP.out wr hnx)
      clear hown
      go_wp2_with (go_at_call 13; refine (HP2.out).mono ?_; rintro e w' ⟨rfl, rfl⟩)
      go_ret2
      exact ⟨rfl, hnx⟩

set_option maxRecDepth 100000 in
set_option maxHeartbeats 2000000 in
/-- The short reader has handed the text on. -/
theorem float_slow_true_true (g cap : Nat) (w : World) (t u : List UInt8) (hl : t.length ≤ 100) (hg : g < w.heap.size) (ht : t = (if true = true then [45] else []) ++ u)
    (hc : ∀ i c, t[i]? = some c → w.cell? ⟨g, i, none⟩ = some (.int .u8 (c.toNat : Int)))
    (hu : ∃ c r, u = c :: r ∧ Pl.isD c = true) (hs : 95 ∈ t) (h3 : ((t.length : Int) == 4) = true) (r : Nat)
    (hf : Calls Tryd.prog 11 #[.slice (some ⟨g, 0, none⟩) t.length cap] w fun e w' => e = .returned (.tuple #[.float .f64 0, .bool false]) ∧ w = w')
    (hp : ∀ wr, Below w.heap.size w wr → Calls Tryd.prog 13 #[.string ⟨(Pl.noStroke t).toArray⟩, .int .i64 64] wr fun e w' => e = .returned (.tuple #[.float .f64 r, .nilIface]) ∧ wr = w') :
    Calls Tryd.prog 8 #[.slice (some ⟨g, 0, none⟩) t.length cap] w fun e w' => e = .returned (.tuple #[.float .f64 r, .nilIface]) ∧ Below w.heap.size w w' := by
  obtain ⟨c, q, rfl, hd⟩ := hu
  have hd' := Pl.isD_iff.1 hd
  have HF := Lib.hid hf
  have HP := Lib.hid hp
  have HC := Lib.hid hc
  clear hf hp
  have e1 : ((c.toNat : Int) == 43) = false := by simp; omega
  have e2 : ((c.toNat : Int) == 45) = false := by simp; omega
  have e3 : ((c.toNat : Int) == 105) = false := by simp; omega
  have e4 : ((c.toNat : Int) == 110) = false := by simp; omega
  have HI := Lib.hid (index_any g cap t w hc)
  obtain ⟨n, hn⟩ : ∃ n, Lib.indexByte t 95 = n := ⟨_, rfl⟩
  have hn0 : 0 ≤ n := by rw [← hn]; exact index_here hs
  have HN := Lib.hid hn
  have HS := Lib.hid hs
  clear hn hs
  have hL : 2 ≤ t.length := by rw [ht]; simp
  have hcell0 := hc 0 45 (by rw [ht]; simp)
  have hcell1 := hc 1 c (by rw [ht]; simp)
  clear hc ht
  obtain ⟨i0, hi, hz0, hz1, hz2⟩ := info_parts Tryd.info5
  go_enter Tryd.func8, Tryd.ntmps8
  go_wp2_with first
    | (go_at_call 11; refine (HF.out).mono ?_; rintro e w' ⟨rfl, rfl⟩)
    | (go_at_call 12; refine (HI.out n HN.out).mono ?_; rintro e w' ⟨rfl, rfl⟩)
    | (at_make; refine wpList_make_own _ rfl _ _ 38 rfl w.heap.size 5 i0 (.int .u8 0) 1 Tryd.underlying38 hi hz0 hz1 _ _ _ t.length rfl rfl (by omega) (by rw [hz2]; omega) (by unfold maxLen; omega) (Nat.le_refl _) ?_; intro w0 hown0 hgrow0)
  go_loopw [7, 63] (fun v i wr => ∃ k : Nat, k ≤ t.length ∧ i = .int .i64 k ∧ v = .slice (some ⟨w.heap.size, 0, none⟩) (Pl.noStroke (t.take k)).length t.length ∧
      wr.ownsRow w.heap.size 5 1 (.slice (some ⟨w.heap.size, 0, none⟩) (Pl.noStroke (t.take k)).length t.length) (Pl.noStroke (t.take k)).length ((Pl.noStroke (t.take k)).map byt) ∧ Below w.heap.size w wr)
    (fun _ i _ => t.length - (intOf i).toNat)
  case atStart => exact ⟨0, Nat.zero_le _, rfl, by rw [List.take_zero]; rfl, by rw [List.take_zero]; exact hown0, (Below.refl _ _).grown hgrow0 (Nat.le_refl _) (fun k h => by cases h)⟩
  case round =>
    obtain ⟨k, hk, rfl, rfl, hown, hnx⟩ := hrel
    clear hown0 hgrow0 hcell0 hcell1
    by_cases hkl : k < t.length
    · have hck : wr.cell? ⟨g, k, none⟩ = some (.int .u8 (t[k].toNat : Int)) := (hnx.cell (by exact hg)).trans (HC.out k _ (List.getElem?_eq_getElem hkl))
      have hsize := hnx.size
      by_cases h95 : t[k] = 95
      · have hstep := noStroke_take t k hkl
        rw [if_pos h95, List.append_nil] at hstep
        have HSTEP := Lib.hid hstep
        clear hstep
        have q1 : ((t[k].toNat : Int) != 95) = false := by rw [h95]; rfl
        obtain ⟨x, hx⟩ : ∃ x, t[k] = x := ⟨_, rfl⟩
        rw [hx] at hck q1 h95
        clear hx h95
        go_wp2_with fail
        go_roundw
        case rel => exact ⟨k + 1, by omega, by go_num, by rw [HSTEP.out], by rw [HSTEP.out]; exact hown, hnx⟩
        case measure => simp [intOf]; omega
      · have hstep := noStroke_take t k hkl
        rw [if_neg h95] at hstep
        have hroom := noStroke_less t k hkl h95
        have q1 : ((t[k].toNat : Int) != 95) = true := by
          simp only [bne_iff_ne, ne_eq]
          intro h
          exact h95 (UInt8.toNat_inj.1 (by have : (95 : UInt8).toNat = 95 := rfl; omega))
        obtain ⟨x, hx⟩ : ∃ x, t[k] = x := ⟨_, rfl⟩
        rw [hx] at hck q1 h95 hstep
        clear hx h95
        have HSTEP := Lib.hid hstep
        clear hstep
        obtain ⟨L, hL'⟩ : ∃ L, L = Pl.noStroke (t.take k) := ⟨_, rfl⟩
        rw [← hL'] at hown hroom HSTEP
        rw [← hL']
        clear hL'
        go_wp2_with (at_builtin; refine wpList_append_fits _ rfl _ _ 38 rfl w.heap.size 5 i0 1 Tryd.underlying38 hi hz1 w.heap.size L.length t.length _ rfl (hown.alloc _) ⟨wr.heap.size, 0, none⟩ 1 1 [byt x] rfl rfl (by intro j u hj; match j, hj with | 0, hj => simp at hj; subst hj; simp [Addr.add, byt]) (by intro u hu; simp at hu; subst hu; rfl) (by omega) ?_; intro w1 hown1 hgrow1)
        go_roundw
        case rel => exact ⟨k + 1, by omega, by go_num, by rw [HSTEP.out, List.length_append]; rfl, by rw [HSTEP.out, List.length_append, List.map_append]; exact hown1, (hnx.alloc hsize _).grown hgrow1 (by simp; omega) (fun k hk => by cases hk; exact Nat.le_refl _)⟩
        case measure => simp [intOf]; omega
    · obtain rfl : k = t.length := by omega
      rw [List.take_length] at hown
      rw [List.take_length]
      have hstr := run_string38 wr w.heap.size w.heap.size t.length (Pl.noStroke t) _ rfl hown
      have HP2 := Lib.hid (HP.out wr hnx)
      clear hown
      go_wp2_with (go_at_call 13; refine (HP2.out).mono ?_; rintro e w' ⟨rfl, rfl⟩)
      go_ret2
      exact ⟨rfl, hnx⟩

end Go.Proofs.YtalmpddmhakdmaaDoor
