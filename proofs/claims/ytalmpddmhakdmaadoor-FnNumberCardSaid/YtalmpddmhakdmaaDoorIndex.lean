/-
  The walk of the search for a byte in a slice of bytes, and of the reader of numbers where the short reader has answered. Conditions: the slice's cells are known.
-/
import Derived.Test.YtalmpddmhakdmaaDoorAtof
import Derived.Lib.BytesEntry
namespace Go.Proofs.YtalmpddmhakdmaaDoor
open Go.RowKit
attribute [local go_sem] unary_neg_float' jump_normal jump_exit jump_ret jump_panic jump_goto

theorem nums_bytes (t : List UInt8) : Lib.bytesOf (t.map (fun c => (c.toNat : Int))) = t := by
  unfold Lib.bytesOf
  rw [List.map_map]
  conv => rhs; rw [← List.map_id t]
  refine List.map_congr_left fun c _ => ?_
  simp

theorem index_here {l : List UInt8} {c : UInt8} (h : c ∈ l) : 0 ≤ Lib.indexByte l c := by
  induction l with
  | nil => cases h
  | cons b l ih =>
    unfold Lib.indexByte
    by_cases hb : (b == c) = true
    · rw [if_pos hb]
      decide
    · rw [if_neg hb]
      have hc : c ∈ l := by
        rcases List.mem_cons.1 h with rfl | h
        · simp at hb
        · exact h
      have := ih hc
      rw [if_neg (by simp; omega)]
      omega

theorem run_index16 (g cap : Nat) (t : List UInt8) (w : World) (hc : ∀ i c, t[i]? = some c → w.cell? ⟨g, i, none⟩ = some (.int .u8 (c.toNat : Int))) :
    (callFunc 16 #[.slice (some ⟨g, 0, none⟩) t.length cap, .int .u8 95]).run Tryd.prog w = .ok (.value (.int .i64 (Lib.indexByte t 95))) w := by
  rw [run_callFunc_extern (e := Extern.BytealgIndexByte.indexByte) Tryd.func16 (by kernel_rfl) (by kernel_rfl) (by kernel_rfl) (by kernel_rfl)]
  have h := Lib.run_indexByteSlice (P := Tryd.prog) w g 0 t.length cap (t.map (fun c => (c.toNat : Int))) (by simp) (by
    intro i hi
    rw [Nat.zero_add, hc i t[i] (List.getElem?_eq_getElem hi)]
    simp [List.getD, hi]) 95
  rw [h, nums_bytes]
  rfl

set_option maxHeartbeats 400000 in
theorem index_any (g cap : Nat) (t : List UInt8) (w : World) (hc : ∀ i c, t[i]? = some c → w.cell? ⟨g, i, none⟩ = some (.int .u8 (c.toNat : Int))) (n : Int) (hn : Lib.indexByte t 95 = n) :
    Calls Tryd.prog 12 #[.slice (some ⟨g, 0, none⟩) t.length cap, .int .u8 95] w fun e w' => e = .returned (.int .i64 n) ∧ w = w' := by
  have h16 := run_index16 g cap t w hc
  rw [hn] at h16
  clear hc hn
  go_enter Tryd.func12, Tryd.ntmps12
  go_wp2_with fail
  go_ret
  exact ⟨rfl, rfl⟩

set_option maxHeartbeats 1000000 in
/-- The short reader has answered. -/
theorem float_fast (g cap : Nat) (w : World) (neg : Bool) (t u : List UInt8) (ht : t = (if neg = true then [45] else []) ++ u)
    (hc : ∀ i c, t[i]? = some c → w.cell? ⟨g, i, none⟩ = some (.int .u8 (c.toNat : Int)))
    (hu : ∃ c r, u = c :: r ∧ Pl.isD c = true) (r : Nat)
    (hf : Calls Tryd.prog 11 #[.slice (some ⟨g, 0, none⟩) t.length cap] w fun e w' => e = .returned (.tuple #[.float .f64 r, .bool true]) ∧ w = w') :
    Calls Tryd.prog 8 #[.slice (some ⟨g, 0, none⟩) t.length cap] w fun e w' => e = .returned (.tuple #[.float .f64 r, .nilIface]) ∧ w = w' := by
  obtain ⟨c, q, rfl, hd⟩ := hu
  have hd' := Pl.isD_iff.1 hd
  have HF := Lib.hid hf
  clear hf
  have e1 : ((c.toNat : Int) == 43) = false := by simp; omega
  have e2 : ((c.toNat : Int) == 45) = false := by simp; omega
  have e3 : ((c.toNat : Int) == 105) = false := by simp; omega
  have e4 : ((c.toNat : Int) == 110) = false := by simp; omega
  cases neg
  · have hL : 1 ≤ t.length := by rw [ht]; simp
    have hcell := hc 0 c (by rw [ht]; simp)
    clear hc ht
    go_enter Tryd.func8, Tryd.ntmps8
    go_wp2_with (go_at_call 11; refine (HF.out).mono ?_; rintro e w' ⟨rfl, rfl⟩)
    all_goals
      go_ret2
      exact ⟨rfl, rfl⟩
  · have hL : 2 ≤ t.length := by rw [ht]; simp
    have hcell0 := hc 0 45 (by rw [ht]; simp)
    have hcell := hc 1 c (by rw [ht]; simp)
    clear hc ht
    go_enter Tryd.func8, Tryd.ntmps8
    go_wp2_with (go_at_call 11; refine (HF.out).mono ?_; rintro e w' ⟨rfl, rfl⟩)
    all_goals
      go_ret2
      exact ⟨rfl, rfl⟩
end Go.Proofs.YtalmpddmhakdmaaDoor
