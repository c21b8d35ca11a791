/-
  The walk of a function of the spec's parser: some signs taken as a value of a kind. Conditions: the parser lies in memory as stated.
-/
import Derived.Test.YtalmpddmhakdmaaGreatCJ04
import Derived.BigRegion
namespace Go.Proofs.YtalmpddmhakdmaaGreat
open Go.RowKit

/-- A value without parts. -/
def ndv (kind : Int) (t : List UInt8) : Value := .agg #[.int .i64 kind, .string ⟨t.toArray⟩, .slice none 0 0, .slice none 0 0]

set_option maxRecDepth 100000 in
set_option maxHeartbeats 1000000 in
theorem raw_any {w : World} {pb : Nat} {a : Addr} {C : Nat} {B : List UInt8} {k : Nat} {st : Int} (hS : SP w pb a C B k st) (kind : Int) (n : Nat) (hn : k + n ≤ B.length) (hn0 : 0 < n) :
    Calls Tryz.prog 29 #[.pointer (some ⟨pb, 0, none⟩), .int .i64 kind, .int .i64 n] w fun e w' => e = .returned (ndv kind ((B.drop k).take n)) ∧ SP w' pb a C B (k + n) st ∧ Gr w w' pb := by
  have HS := Lib.hid hS
  have hl := hS.len
  have hC := hS.cap
  have h1 := hS.b
  have h2 := hS.at'
  have f1 := hS.f1
  have hlt := cell_lt hS.b
  obtain ⟨s, hs⟩ : ∃ s : ByteArray, s = ⟨((B.drop k).take n).toArray⟩ := ⟨_, rfl⟩
  have hcv : ∀ (o : Obj) (c' : Nat), (convert 22 9 (.slice (some (a.add k)) n c')).run Tryz.prog (w.alloc o).drew = .ok (.string s) (w.alloc o).drew := fun o c' => by rw [hs]; exact (HS.out.alloc o).conv k n (by omega) 1 c'
  have hcv2 : ∀ (o o' : Obj) (c' : Nat), (convert 22 9 (.slice (some (a.add k)) n c')).run Tryz.prog ((w.alloc o).alloc o').drew = .ok (.string s) ((w.alloc o).alloc o').drew := fun o o' c' => by rw [hs]; exact ((HS.out.alloc o).alloc o').conv k n (by omega) 1 c'
  have HSS := Lib.hid hs
  have hCk : ¬ C = k := by omega
  have hw1 : IntKind.i64.wrap ((k : Int) + (n : Int)) = (k : Int) + (n : Int) := IntWalk.i64_in _ (by omega)
  have hw2 : ((k : Int) + (n : Int)).toNat = k + n := by omega
  have hw3 : (0 : Int) ≤ (k : Int) + (n : Int) := by omega
  have hw5 : (k : Int) + (n : Int) ≤ (C : Int) := by omega
  have hw6 : k ≤ k + n := by omega
  have hw7 : k + n ≤ C := by omega
  clear hs hS
  go_enter Tryz.func29, Tryz.ntmps29
  go_wp2_with fail
  go_region
  all_goals
    clear hw1 hw2 hcv hcv2
    go_wp2_with fail
    refine bodyPost_ret (v := .agg #[.int .i64 kind, .string s, .slice none 0 0, .slice none 0 0]) (by simp [results, Tryz.results29, go_sem]) rfl ⟨?_, ((((HS.out.setAt (k + n) (by omega)).alloc _).alloc _).drewN 1), (((((Gr.refl w pb).setCell 1 _).alloc _).alloc _).drewN 1)⟩
    rw [HSS.out]
    rfl
end Go.Proofs.YtalmpddmhakdmaaGreat
