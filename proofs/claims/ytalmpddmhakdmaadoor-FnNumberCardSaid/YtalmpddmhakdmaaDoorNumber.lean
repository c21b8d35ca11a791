/-
  The walk of the function that turns a text into bytes and reads the number. Conditions: what the reader tells of these bytes.
-/
import Derived.Test.YtalmpddmhakdmaaDoorWhole
import Derived.Laws.IdiomStrings
import Derived.BigQuiet
namespace Go.Proofs.YtalmpddmhakdmaaDoor
open Go.RowKit
attribute [local go_sem] unary_neg_float' jump_normal jump_exit jump_ret jump_panic jump_goto

theorem bytes_of (w : World) (t : List UInt8) (s : ByteArray) (hs : s = ⟨t.toArray⟩) :
    ∃ w1 cap, (convert 9 38 (.string s)).run Tryd.prog w = .ok (.slice (some ⟨w.heap.size, 0, none⟩) t.length cap) w1 ∧ t.length ≤ cap ∧
      (∀ i c, t[i]? = some c → w1.cell? ⟨w.heap.size, i, none⟩ = some (.int .u8 (c.toNat : Int))) ∧ Below w.heap.size w w1 ∧ w.heap.size < w1.heap.size := by
  have h := run_bytes_of_string (P := Tryd.prog) w 9 38 5 s Tryd.underlying9 Tryd.underlying38 Tryd.underlying5
  have hsz : s.size = t.length := by rw [hs]; rfl
  rw [hsz] at h
  refine ⟨_, _, h, grownCap_ge w _ _ _, ?_, ?_, ?_⟩
  · intro i c hi
    have hb := bytesRow_at s (grownCap w t.length 0 5) i (by rw [hs]; exact (List.getElem?_eq_some_iff.1 hi).1)
    have hd : s.data[i]'(by rw [hs]; exact (List.getElem?_eq_some_iff.1 hi).1) = c := by
      subst hs
      exact (List.getElem?_eq_some_iff.1 hi).2
    rw [hd] at hb
    generalize bytesRow s (grownCap w t.length 0 5) = C at *
    generalize (C.size, C.size + 1) = fz
    have hh : (w.drew.alloc (.cells C 5 fz)).heap[w.heap.size]? = some (.cells C 5 fz) := by
      show (w.heap.push (.cells C 5 fz))[w.heap.size]? = _
      simp
    unfold World.cell?
    rw [hh]
    exact hb
  · exact ((Below.refl _ _).drew).alloc (Nat.le_refl _) _
  · show w.heap.size < (w.heap.push _).size
    rw [Array.size_push]
    omega

set_option maxHeartbeats 1000000 in
theorem zzfloat_any (a : Value) (x : Nat) (w : World) (h : Calls Tryd.prog 8 #[a] w fun e w' => e = .returned (.tuple #[.float .f64 x, .nilIface]) ∧ Below w.heap.size w w') :
    Calls Tryd.prog 7 #[a] w fun e w' => e = .returned (.tuple #[.float .f64 x, .nilIface]) ∧ Below w.heap.size w w' := by
  have H := Lib.hid h
  clear h
  go_enter Tryd.func7, Tryd.ntmps7
  go_wp2_with (go_at_call 8; refine (H.out).mono ?_; rintro e w' ⟨rfl, hB⟩)
  go_ret2
  exact ⟨rfl, hB⟩

set_option maxHeartbeats 1000000 in
theorem number_any (w : World) (t : List UInt8) (s : ByteArray) (hs : s = ⟨t.toArray⟩) (x : Nat)
    (h : ∀ w1 cap, t.length ≤ cap → (∀ i c, t[i]? = some c → w1.cell? ⟨w.heap.size, i, none⟩ = some (.int .u8 (c.toNat : Int))) → Below w.heap.size w w1 → w.heap.size < w1.heap.size →
      Calls Tryd.prog 8 #[.slice (some ⟨w.heap.size, 0, none⟩) t.length cap] w1 fun e w' => e = .returned (.tuple #[.float .f64 x, .nilIface]) ∧ Below w1.heap.size w1 w') :
    Calls Tryd.prog 5 #[.string s] w fun e w' => e = .returned (.tuple #[.float .f64 x, .bool true]) ∧ Below w.heap.size w w' := by
  obtain ⟨w1, cap, hcv, hcap, hcells, hbelow, hlt⟩ := bytes_of w t s hs
  have H := Lib.hid (zzfloat_any _ x w1 (h w1 cap hcap hcells hbelow hlt))
  clear h hcells hs
  go_enter Tryd.func5, Tryd.ntmps5
  go_wp2_with (go_at_call 7; refine (H.out).mono ?_; rintro e w' ⟨rfl, hB⟩)
  go_quiet (fail)
  all_goals (try go_wp2)
  go_ret2
  refine ⟨rfl, hbelow.trans ?_⟩
  exact ⟨(hB.mono (Nat.le_of_lt hlt)).os, (hB.mono (Nat.le_of_lt hlt)).tape, (hB.mono (Nat.le_of_lt hlt)).output, (hB.mono (Nat.le_of_lt hlt)).size, (hB.mono (Nat.le_of_lt hlt)).block⟩

end Go.Proofs.YtalmpddmhakdmaaDoor
