/-
  The walks of the parser's tests of eight bytes at once. Conditions: as each lemma states.
-/
import Derived.Test.YtalmpddmhakdmaaGreatCJ00
import Derived.Test.YtalmpddmhakdmaaGreatCWordB
namespace Go.Proofs.YtalmpddmhakdmaaGreat
open Go.RowKit

def leW (c0 c1 c2 c3 c4 c5 c6 c7 : Int) : Int :=
  bits .or .u64 (bits .or .u64 (bits .or .u64 (bits .or .u64 (bits .or .u64 (bits .or .u64 (bits .or .u64 (IntKind.u64.wrap c0) (IntKind.u64.wrap (IntKind.u64.wrap c1 * 256))) (IntKind.u64.wrap (IntKind.u64.wrap c2 * 65536))) (IntKind.u64.wrap (IntKind.u64.wrap c3 * 16777216))) (IntKind.u64.wrap (IntKind.u64.wrap c4 * 4294967296))) (IntKind.u64.wrap (IntKind.u64.wrap c5 * 1099511627776))) (IntKind.u64.wrap (IntKind.u64.wrap c6 * 281474976710656))) (IntKind.u64.wrap (IntKind.u64.wrap c7 * 72057594037927936))
theorem leW_word (o : Oct) : leW o.c0.toNat o.c1.toNat o.c2.toNat o.c3.toNat o.c4.toNat o.c5.toNat o.c6.toNat o.c7.toNat = (o.word : Int) := by
  have h0 := o.c0.toNat_lt
  have h1 := o.c1.toNat_lt
  have h2 := o.c2.toNat_lt
  have h3 := o.c3.toNat_lt
  have h4 := o.c4.toNat_lt
  have h5 := o.c5.toNat_lt
  have h6 := o.c6.toNat_lt
  have h7 := o.c7.toNat_lt
  generalize hc0 : o.c0.toNat = c0 at *
  generalize hc1 : o.c1.toNat = c1 at *
  generalize hc2 : o.c2.toNat = c2 at *
  generalize hc3 : o.c3.toNat = c3 at *
  generalize hc4 : o.c4.toNat = c4 at *
  generalize hc5 : o.c5.toNat = c5 at *
  generalize hc6 : o.c6.toNat = c6 at *
  generalize hc7 : o.c7.toNat = c7 at *
  rw [show o.word = le8 c0 c1 c2 c3 c4 c5 c6 c7 by unfold Oct.word; rw [hc0, hc1, hc2, hc3, hc4, hc5, hc6, hc7]]
  clear hc0 hc1 hc2 hc3 hc4 hc5 hc6 hc7
  unfold leW
  rw [u64_wrap_id (c0 : Int) (by omega) (by omega), u64_wrap_id (c1 : Int) (by omega) (by omega), u64_wrap_id (c2 : Int) (by omega) (by omega), u64_wrap_id (c3 : Int) (by omega) (by omega), u64_wrap_id (c4 : Int) (by omega) (by omega), u64_wrap_id (c5 : Int) (by omega) (by omega), u64_wrap_id (c6 : Int) (by omega) (by omega), u64_wrap_id (c7 : Int) (by omega) (by omega)]
  rw [u64_wrap_id ((c1 : Int) * 256) (by omega) (by omega), u64_wrap_id ((c2 : Int) * 65536) (by omega) (by omega), u64_wrap_id ((c3 : Int) * 16777216) (by omega) (by omega), u64_wrap_id ((c4 : Int) * 4294967296) (by omega) (by omega), u64_wrap_id ((c5 : Int) * 1099511627776) (by omega) (by omega), u64_wrap_id ((c6 : Int) * 281474976710656) (by omega) (by omega), u64_wrap_id ((c7 : Int) * 72057594037927936) (by omega) (by omega)]
  rw [u64_or8 ((c0 : Int)) ((c1 : Int) * 256) (by omega) (by omega) (by omega) (by omega) (by omega)]
  rw [u64_or16 ((c0 : Int) + (c1 : Int) * 256) ((c2 : Int) * 65536) (by omega) (by omega) (by omega) (by omega) (by omega)]
  rw [u64_or24 ((c0 : Int) + (c1 : Int) * 256 + (c2 : Int) * 65536) ((c3 : Int) * 16777216) (by omega) (by omega) (by omega) (by omega) (by omega)]
  rw [u64_or32 ((c0 : Int) + (c1 : Int) * 256 + (c2 : Int) * 65536 + (c3 : Int) * 16777216) ((c4 : Int) * 4294967296) (by omega) (by omega) (by omega) (by omega) (by omega)]
  rw [u64_or40 ((c0 : Int) + (c1 : Int) * 256 + (c2 : Int) * 65536 + (c3 : Int) * 16777216 + (c4 : Int) * 4294967296) ((c5 : Int) * 1099511627776) (by omega) (by omega) (by omega) (by omega) (by omega)]
  rw [u64_or48 ((c0 : Int) + (c1 : Int) * 256 + (c2 : Int) * 65536 + (c3 : Int) * 16777216 + (c4 : Int) * 4294967296 + (c5 : Int) * 1099511627776) ((c6 : Int) * 281474976710656) (by omega) (by omega) (by omega) (by omega) (by omega)]
  rw [u64_or56 ((c0 : Int) + (c1 : Int) * 256 + (c2 : Int) * 65536 + (c3 : Int) * 16777216 + (c4 : Int) * 4294967296 + (c5 : Int) * 1099511627776 + (c6 : Int) * 281474976710656) ((c7 : Int) * 72057594037927936) (by omega) (by omega) (by omega) (by omega) (by omega)]
  unfold le8
  omega

set_option maxRecDepth 100000 in
set_option maxHeartbeats 1000000 in
theorem le_any {w : World} {b i n m : Nat} {c0 c1 c2 c3 c4 c5 c6 c7 : UInt8} (hn : 8 ≤ n)
    (h0 : w.cell? ⟨b, i, none⟩ = some (.int .u8 (c0.toNat : Int))) (h1 : w.cell? ⟨b, i + 1, none⟩ = some (.int .u8 (c1.toNat : Int))) (h2 : w.cell? ⟨b, i + 2, none⟩ = some (.int .u8 (c2.toNat : Int))) (h3 : w.cell? ⟨b, i + 3, none⟩ = some (.int .u8 (c3.toNat : Int)))
    (h4 : w.cell? ⟨b, i + 4, none⟩ = some (.int .u8 (c4.toNat : Int))) (h5 : w.cell? ⟨b, i + 5, none⟩ = some (.int .u8 (c5.toNat : Int))) (h6 : w.cell? ⟨b, i + 6, none⟩ = some (.int .u8 (c6.toNat : Int))) (h7 : w.cell? ⟨b, i + 7, none⟩ = some (.int .u8 (c7.toNat : Int))) :
    Calls Tryz.prog 55 #[.slice (some ⟨b, i, none⟩) n m] w fun e w' => e = .returned (.int .u64 (leW c0.toNat c1.toNat c2.toNat c3.toNat c4.toNat c5.toNat c6.toNat c7.toNat)) ∧ ∃ q, w' = w.drewN q := by
  go_enter Tryz.func55, Tryz.ntmps55
  go_wp2_with fail
  go_quiet (fail)
  go_wp2_with fail
  go_ret
  exact ⟨rfl, _, rfl⟩
theorem below_any (w : World) (x n : Int) :
    Calls Tryz.prog 56 #[.int .u64 x, .int .u64 n] w fun e w' => e = .returned (.int .u64 (belowW x n)) ∧ w' = w := by
  go_enter Tryz.func56, Tryz.ntmps56
  go_wp2_with fail
  go_ret
  exact ⟨rfl, rfl⟩
theorem equal_any (w : World) (x n : Int) :
    Calls Tryz.prog 57 #[.int .u64 x, .int .u64 n] w fun e w' => e = .returned (.int .u64 (equalW x n)) ∧ w' = w := by
  go_enter Tryz.func57, Tryz.ntmps57
  go_wp2_with fail
  go_ret
  exact ⟨rfl, rfl⟩
end Go.Proofs.YtalmpddmhakdmaaGreat
