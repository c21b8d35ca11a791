/-
  The walk of the law: whatever its arguments, it answers true. Conditions: the bounds of the arguments' kinds; the library's own tables hold the powers of ten.
-/
import Derived.Test.YtalmpddmhakdmaaDoorNumber
import Derived.Test.YtalmpddmhakdmaaDoorNamed
namespace Go.Proofs.YtalmpddmhakdmaaDoor
open Go.RowKit
attribute [local go_sem] unary_neg_float' jump_normal jump_exit jump_ret jump_panic jump_goto

/-- What Number tells of a text that we have made. -/
theorem number_text (w : World) (m b s : Nat) (p : Int) (neg : Bool) (hm : m ≤ 4294967295) (hb : b ≤ 9) (hp0 : -13 ≤ p) (hp1 : p ≤ 22) (bb : Addr × Nat) (ht : Tables w bb) (z : ByteArray) (hz : z = ⟨(texted m b s p neg).toArray⟩) :
    Calls Tryd.prog 5 #[.string z] w fun e w' => e = .returned (.tuple #[.float .f64 (Fl.signed neg (Fl.told m (p - b))), .bool true]) ∧ Below w.heap.size w w' :=
  number_any w _ z hz _ fun w1 cap hcap hc hbelow hlt => float_text _ cap w1 m b s p neg hm hb hp0 hp1 _ rfl hcap hc hlt bb (ht.below hbelow (Nat.le_refl _))

/-- .. and of a name. -/
theorem number_name (w : World) (t : List UInt8) (z : ByteArray) (hz : z = ⟨t.toArray⟩) (x : Nat)
    (h : ∀ (w1 : World) (g cap : Nat), (∀ i c, t[i]? = some c → w1.cell? ⟨g, i, none⟩ = some (.int .u8 (c.toNat : Int))) →
      Calls Tryd.prog 8 #[.slice (some ⟨g, 0, none⟩) t.length cap] w1 fun e w' => e = .returned (.tuple #[.float .f64 x, .nilIface]) ∧ w1 = w') :
    Calls Tryd.prog 5 #[.string z] w fun e w' => e = .returned (.tuple #[.float .f64 x, .bool true]) ∧ Below w.heap.size w w' :=
  number_any w t z hz x fun w1 cap _ hc _ _ => (h w1 w.heap.size cap hc).mono (by rintro e w' ⟨rfl, rfl⟩; exact ⟨rfl, Below.refl _ _⟩)

theorem cat_none_inf : (⟨#[]⟩ : ByteArray) ++ ⟨#[105, 110, 102]⟩ = ⟨([105, 110, 102] : List UInt8).toArray⟩ := by rfl
theorem cat_plus_inf : (⟨#[43]⟩ : ByteArray) ++ ⟨#[105, 110, 102]⟩ = ⟨([43, 105, 110, 102] : List UInt8).toArray⟩ := by rfl
theorem cat_minus_inf : (⟨#[45]⟩ : ByteArray) ++ ⟨#[105, 110, 102]⟩ = ⟨([45, 105, 110, 102] : List UInt8).toArray⟩ := by rfl
theorem cat_none_nan : (⟨#[]⟩ : ByteArray) ++ ⟨#[110, 97, 110]⟩ = ⟨([110, 97, 110] : List UInt8).toArray⟩ := by rfl
theorem cat_plus_nan : (⟨#[43]⟩ : ByteArray) ++ ⟨#[110, 97, 110]⟩ = ⟨([43, 110, 97, 110] : List UInt8).toArray⟩ := by rfl
theorem cat_minus_nan : (⟨#[45]⟩ : ByteArray) ++ ⟨#[110, 97, 110]⟩ = ⟨([45, 110, 97, 110] : List UInt8).toArray⟩ := by rfl
theorem ord_nan : FloatKind.f64.format.order 9221120237041090561 9221120237041090561 = none := by kernel_rfl
theorem ord_inf : FloatKind.f64.format.order 9218868437227405312 9218868437227405312 = some .eq := by kernel_rfl
theorem ord_inf0 : FloatKind.f64.format.order 9218868437227405312 0 = some .gt := by kernel_rfl
theorem ord_ninf : FloatKind.f64.format.order 18442240474082181120 18442240474082181120 = some .eq := by kernel_rfl
theorem ord_ninf0 : FloatKind.f64.format.order 18442240474082181120 0 = some .lt := by kernel_rfl
theorem mul_inf : Ieee.double.mul 9218868437227405312 4611686018427387904 = some 9218868437227405312 := by kernel_rfl
theorem mul_ninf : Ieee.double.mul 18442240474082181120 4611686018427387904 = some 18442240474082181120 := by kernel_rfl

set_option maxRecDepth 100000 in
set_option maxHeartbeats 1000000 in
theorem fn_none_big (w : World) (m b s : Nat) (d e p : Int) (neg : Bool) (hm : m ≤ 4294967295) (hb : b ≤ 9) (hp0 : -13 ≤ p) (hp1 : p ≤ 22) (hs : s ≤ 65535) (h3 : (s : Int) % 3 = 0) (h100 : 100 < e) (he : e % 23 = p) (hd : d.tmod 10 = b) (_he0 : -128 ≤ e) (he1 : e ≤ 127)
    (bb : Addr × Nat) (ht : Tables w bb) :
    Calls Tryd.prog 3 #[.int .u32 m, .int .u8 d, .int .i8 e, .bool neg, .int .u16 s] w fun r w' => r = .returned (.bool true) ∧ Below w.heap.size w w' := by
  obtain ⟨z, hz⟩ : ∃ z : ByteArray, z = ⟨(texted m b s p neg).toArray⟩ := ⟨_, rfl⟩
  have hpt := pointed_any m b s p neg w hm hb hs hp0 hp1
  rw [← hz] at hpt
  have hnt := number_text w m b s p neg hm hb hp0 hp1 bb ht z hz
  have hnum : Fl.Num (Fl.signed neg (Fl.told m (p - b))) := Fl.num_signed (Fl.told_pos (by omega) (by omega) (by omega))
  obtain ⟨x, hx⟩ : ∃ x, x = Fl.signed neg (Fl.told m (p - b)) := ⟨_, rfl⟩
  rw [← hx] at hpt hnt hnum
  have hself : FloatKind.f64.format.order x x = some .eq := Fl.order_self hnum
  obtain ⟨q, hq⟩ := Fl.one_over hnum
  have hdiv := fun W : World => run_float_arith (P := Tryd.prog) W .quo 25 .f64 4607182418800017408 x q hq
  have hmul := fun W : World => run_float_arith (P := Tryd.prog) W .mul 25 .f64 9218868437227405312 4611686018427387904 9218868437227405312 mul_inf
  have o1 := ord_nan
  have o2 := ord_inf
  have o3 := ord_inf0
  obtain ⟨c, hc⟩ : ∃ c, (FloatKind.f64.format.order q 0 == some .gt) = c := ⟨_, rfl⟩
  have HPT := Lib.hid hpt
  have HNT := Lib.hid hnt
  clear hpt hnt hx hz ht hnum hq
  go_enter Tryd.func3, Tryd.ntmps3
  go_upto_region 8 with first
    | (go_at_call 4; refine (HPT.out).mono ?_; rintro e w' ⟨rfl, rfl⟩)
    | (go_at_call 5; refine (HNT.out).mono ?_; rintro e w1 ⟨rfl, hB1⟩)
  go_upto_region 9 with (go_at_call 5; refine (number_name _ [105, 110, 102] _ cat_none_inf _ (fun v1 g cap hc => (inf_none g cap v1 _ rfl hc))).mono ?_; rintro e w2 ⟨rfl, hB2⟩)
  go_upto_region 10 with (go_at_call 5; refine (number_name _ [110, 97, 110] _ cat_none_nan _ (fun v1 g cap hc => (nan_none g cap v1 _ rfl hc))).mono ?_; rintro e w3 ⟨rfl, hB3⟩)
  have hfin : Below w.heap.size w w3 := ((hB1.alloc hB1.size _).trans (hB2.mono (Nat.le_trans hB1.size (Below.refl _ _ |>.alloc (Nat.le_refl _) _).size))).trans (hB3.mono (Nat.le_trans (Nat.le_trans hB1.size (Below.refl _ _ |>.alloc (Nat.le_refl _) _).size) hB2.size))
  clear hB1 hB2 hB3
  cases c
  all_goals
    go_wp2_with fail
    go_ret
    exact ⟨rfl, hfin⟩

set_option maxRecDepth 100000 in
set_option maxHeartbeats 1000000 in
theorem fn_none_small (w : World) (m b s : Nat) (d e p : Int) (neg : Bool) (hm : m ≤ 4294967295) (hb : b ≤ 9) (hp0 : -13 ≤ p) (hp1 : p ≤ 22) (hs : s ≤ 65535) (h3 : (s : Int) % 3 = 0) (h100 : e ≤ 100) (he : e.tmod 14 = p) (hd : d.tmod 10 = b) (he0 : -128 ≤ e) (_he1 : e ≤ 127)
    (bb : Addr × Nat) (ht : Tables w bb) :
    Calls Tryd.prog 3 #[.int .u32 m, .int .u8 d, .int .i8 e, .bool neg, .int .u16 s] w fun r w' => r = .returned (.bool true) ∧ Below w.heap.size w w' := by
  obtain ⟨z, hz⟩ : ∃ z : ByteArray, z = ⟨(texted m b s p neg).toArray⟩ := ⟨_, rfl⟩
  have hpt := pointed_any m b s p neg w hm hb hs hp0 hp1
  rw [← hz] at hpt
  have hnt := number_text w m b s p neg hm hb hp0 hp1 bb ht z hz
  have hnum : Fl.Num (Fl.signed neg (Fl.told m (p - b))) := Fl.num_signed (Fl.told_pos (by omega) (by omega) (by omega))
  obtain ⟨x, hx⟩ : ∃ x, x = Fl.signed neg (Fl.told m (p - b)) := ⟨_, rfl⟩
  rw [← hx] at hpt hnt hnum
  have hself : FloatKind.f64.format.order x x = some .eq := Fl.order_self hnum
  obtain ⟨q, hq⟩ := Fl.one_over hnum
  have hdiv := fun W : World => run_float_arith (P := Tryd.prog) W .quo 25 .f64 4607182418800017408 x q hq
  have hmul := fun W : World => run_float_arith (P := Tryd.prog) W .mul 25 .f64 9218868437227405312 4611686018427387904 9218868437227405312 mul_inf
  have o1 := ord_nan
  have o2 := ord_inf
  have o3 := ord_inf0
  obtain ⟨c, hc⟩ : ∃ c, (FloatKind.f64.format.order q 0 == some .gt) = c := ⟨_, rfl⟩
  have HPT := Lib.hid hpt
  have HNT := Lib.hid hnt
  clear hpt hnt hx hz ht hnum hq
  go_enter Tryd.func3, Tryd.ntmps3
  go_upto_region 8 with first
    | (go_at_call 4; refine (HPT.out).mono ?_; rintro e w' ⟨rfl, rfl⟩)
    | (go_at_call 5; refine (HNT.out).mono ?_; rintro e w1 ⟨rfl, hB1⟩)
  go_upto_region 9 with (go_at_call 5; refine (number_name _ [105, 110, 102] _ cat_none_inf _ (fun v1 g cap hc => (inf_none g cap v1 _ rfl hc))).mono ?_; rintro e w2 ⟨rfl, hB2⟩)
  go_upto_region 10 with (go_at_call 5; refine (number_name _ [110, 97, 110] _ cat_none_nan _ (fun v1 g cap hc => (nan_none g cap v1 _ rfl hc))).mono ?_; rintro e w3 ⟨rfl, hB3⟩)
  have hfin : Below w.heap.size w w3 := ((hB1.alloc hB1.size _).trans (hB2.mono (Nat.le_trans hB1.size (Below.refl _ _ |>.alloc (Nat.le_refl _) _).size))).trans (hB3.mono (Nat.le_trans (Nat.le_trans hB1.size (Below.refl _ _ |>.alloc (Nat.le_refl _) _).size) hB2.size))
  clear hB1 hB2 hB3
  cases c
  all_goals
    go_wp2_with fail
    go_ret
    exact ⟨rfl, hfin⟩

set_option maxRecDepth 100000 in
set_option maxHeartbeats 1000000 in
theorem fn_plus_big (w : World) (m b s : Nat) (d e p : Int) (neg : Bool) (hm : m ≤ 4294967295) (hb : b ≤ 9) (hp0 : -13 ≤ p) (hp1 : p ≤ 22) (hs : s ≤ 65535) (h3 : (s : Int) % 3 = 1) (h100 : 100 < e) (he : e % 23 = p) (hd : d.tmod 10 = b) (_he0 : -128 ≤ e) (he1 : e ≤ 127)
    (bb : Addr × Nat) (ht : Tables w bb) :
    Calls Tryd.prog 3 #[.int .u32 m, .int .u8 d, .int .i8 e, .bool neg, .int .u16 s] w fun r w' => r = .returned (.bool true) ∧ Below w.heap.size w w' := by
  obtain ⟨z, hz⟩ : ∃ z : ByteArray, z = ⟨(texted m b s p neg).toArray⟩ := ⟨_, rfl⟩
  have hpt := pointed_any m b s p neg w hm hb hs hp0 hp1
  rw [← hz] at hpt
  have hnt := number_text w m b s p neg hm hb hp0 hp1 bb ht z hz
  have hnum : Fl.Num (Fl.signed neg (Fl.told m (p - b))) := Fl.num_signed (Fl.told_pos (by omega) (by omega) (by omega))
  obtain ⟨x, hx⟩ : ∃ x, x = Fl.signed neg (Fl.told m (p - b)) := ⟨_, rfl⟩
  rw [← hx] at hpt hnt hnum
  have hself : FloatKind.f64.format.order x x = some .eq := Fl.order_self hnum
  obtain ⟨q, hq⟩ := Fl.one_over hnum
  have hdiv := fun W : World => run_float_arith (P := Tryd.prog) W .quo 25 .f64 4607182418800017408 x q hq
  have hmul := fun W : World => run_float_arith (P := Tryd.prog) W .mul 25 .f64 9218868437227405312 4611686018427387904 9218868437227405312 mul_inf
  have o1 := ord_nan
  have o2 := ord_inf
  have o3 := ord_inf0
  obtain ⟨c, hc⟩ : ∃ c, (FloatKind.f64.format.order q 0 == some .gt) = c := ⟨_, rfl⟩
  have HPT := Lib.hid hpt
  have HNT := Lib.hid hnt
  clear hpt hnt hx hz ht hnum hq
  go_enter Tryd.func3, Tryd.ntmps3
  go_upto_region 8 with first
    | (go_at_call 4; refine (HPT.out).mono ?_; rintro e w' ⟨rfl, rfl⟩)
    | (go_at_call 5; refine (HNT.out).mono ?_; rintro e w1 ⟨rfl, hB1⟩)
  go_upto_region 9 with (go_at_call 5; refine (number_name _ [43, 105, 110, 102] _ cat_plus_inf _ (fun v1 g cap hc => (inf_plus g cap v1 _ rfl hc))).mono ?_; rintro e w2 ⟨rfl, hB2⟩)
  go_upto_region 10 with (go_at_call 5; refine (number_name _ [43, 110, 97, 110] _ cat_plus_nan _ (fun v1 g cap hc => (nan_plus g cap v1 _ rfl hc))).mono ?_; rintro e w3 ⟨rfl, hB3⟩)
  have hfin : Below w.heap.size w w3 := ((hB1.alloc hB1.size _).trans (hB2.mono (Nat.le_trans hB1.size (Below.refl _ _ |>.alloc (Nat.le_refl _) _).size))).trans (hB3.mono (Nat.le_trans (Nat.le_trans hB1.size (Below.refl _ _ |>.alloc (Nat.le_refl _) _).size) hB2.size))
  clear hB1 hB2 hB3
  cases c
  all_goals
    go_wp2_with fail
    go_ret
    exact ⟨rfl, hfin⟩

set_option maxRecDepth 100000 in
set_option maxHeartbeats 1000000 in
theorem fn_plus_small (w : World) (m b s : Nat) (d e p : Int) (neg : Bool) (hm : m ≤ 4294967295) (hb : b ≤ 9) (hp0 : -13 ≤ p) (hp1 : p ≤ 22) (hs : s ≤ 65535) (h3 : (s : Int) % 3 = 1) (h100 : e ≤ 100) (he : e.tmod 14 = p) (hd : d.tmod 10 = b) (he0 : -128 ≤ e) (_he1 : e ≤ 127)
    (bb : Addr × Nat) (ht : Tables w bb) :
    Calls Tryd.prog 3 #[.int .u32 m, .int .u8 d, .int .i8 e, .bool neg, .int .u16 s] w fun r w' => r = .returned (.bool true) ∧ Below w.heap.size w w' := by
  obtain ⟨z, hz⟩ : ∃ z : ByteArray, z = ⟨(texted m b s p neg).toArray⟩ := ⟨_, rfl⟩
  have hpt := pointed_any m b s p neg w hm hb hs hp0 hp1
  rw [← hz] at hpt
  have hnt := number_text w m b s p neg hm hb hp0 hp1 bb ht z hz
  have hnum : Fl.Num (Fl.signed neg (Fl.told m (p - b))) := Fl.num_signed (Fl.told_pos (by omega) (by omega) (by omega))
  obtain ⟨x, hx⟩ : ∃ x, x = Fl.signed neg (Fl.told m (p - b)) := ⟨_, rfl⟩
  rw [← hx] at hpt hnt hnum
  have hself : FloatKind.f64.format.order x x = some .eq := Fl.order_self hnum
  obtain ⟨q, hq⟩ := Fl.one_over hnum
  have hdiv := fun W : World => run_float_arith (P := Tryd.prog) W .quo 25 .f64 4607182418800017408 x q hq
  have hmul := fun W : World => run_float_arith (P := Tryd.prog) W .mul 25 .f64 9218868437227405312 4611686018427387904 9218868437227405312 mul_inf
  have o1 := ord_nan
  have o2 := ord_inf
  have o3 := ord_inf0
  obtain ⟨c, hc⟩ : ∃ c, (FloatKind.f64.format.order q 0 == some .gt) = c := ⟨_, rfl⟩
  have HPT := Lib.hid hpt
  have HNT := Lib.hid hnt
  clear hpt hnt hx hz ht hnum hq
  go_enter Tryd.func3, Tryd.ntmps3
  go_upto_region 8 with first
    | (go_at_call 4; refine (HPT.out).mono ?_; rintro e w' ⟨rfl, rfl⟩)
    | (go_at_call 5; refine (HNT.out).mono ?_; rintro e w1 ⟨rfl, hB1⟩)
  go_upto_region 9 with (go_at_call 5; refine (number_name _ [43, 105, 110, 102] _ cat_plus_inf _ (fun v1 g cap hc => (inf_plus g cap v1 _ rfl hc))).mono ?_; rintro e w2 ⟨rfl, hB2⟩)
  go_upto_region 10 with (go_at_call 5; refine (number_name _ [43, 110, 97, 110] _ cat_plus_nan _ (fun v1 g cap hc => (nan_plus g cap v1 _ rfl hc))).mono ?_; rintro e w3 ⟨rfl, hB3⟩)
  have hfin : Below w.heap.size w w3 := ((hB1.alloc hB1.size _).trans (hB2.mono (Nat.le_trans hB1.size (Below.refl _ _ |>.alloc (Nat.le_refl _) _).size))).trans (hB3.mono (Nat.le_trans (Nat.le_trans hB1.size (Below.refl _ _ |>.alloc (Nat.le_refl _) _).size) hB2.size))
  clear hB1 hB2 hB3
  cases c
  all_goals
    go_wp2_with fail
    go_ret
    exact ⟨rfl, hfin⟩

set_option maxRecDepth 100000 in
set_option maxHeartbeats 1000000 in
theorem fn_minus_big (w : World) (m b s : Nat) (d e p : Int) (neg : Bool) (hm : m ≤ 4294967295) (hb : b ≤ 9) (hp0 : -13 ≤ p) (hp1 : p ≤ 22) (hs : s ≤ 65535) (h3 : (s : Int) % 3 = 2) (h100 : 100 < e) (he : e % 23 = p) (hd : d.tmod 10 = b) (_he0 : -128 ≤ e) (he1 : e ≤ 127)
    (bb : Addr × Nat) (ht : Tables w bb) :
    Calls Tryd.prog 3 #[.int .u32 m, .int .u8 d, .int .i8 e, .bool neg, .int .u16 s] w fun r w' => r = .returned (.bool true) ∧ Below w.heap.size w w' := by
  obtain ⟨z, hz⟩ : ∃ z : ByteArray, z = ⟨(texted m b s p neg).toArray⟩ := ⟨_, rfl⟩
  have hpt := pointed_any m b s p neg w hm hb hs hp0 hp1
  rw [← hz] at hpt
  have hnt := number_text w m b s p neg hm hb hp0 hp1 bb ht z hz
  have hnum : Fl.Num (Fl.signed neg (Fl.told m (p - b))) := Fl.num_signed (Fl.told_pos (by omega) (by omega) (by omega))
  obtain ⟨x, hx⟩ : ∃ x, x = Fl.signed neg (Fl.told m (p - b)) := ⟨_, rfl⟩
  rw [← hx] at hpt hnt hnum
  have hself : FloatKind.f64.format.order x x = some .eq := Fl.order_self hnum
  obtain ⟨q, hq⟩ := Fl.one_over hnum
  have hdiv := fun W : World => run_float_arith (P := Tryd.prog) W .quo 25 .f64 4607182418800017408 x q hq
  have hmul := fun W : World => run_float_arith (P := Tryd.prog) W .mul 25 .f64 18442240474082181120 4611686018427387904 18442240474082181120 mul_ninf
  have o1 := ord_nan
  have o2 := ord_ninf
  have o3 := ord_ninf0
  obtain ⟨c, hc⟩ : ∃ c, (FloatKind.f64.format.order q 0 == some .gt) = c := ⟨_, rfl⟩
  have HPT := Lib.hid hpt
  have HNT := Lib.hid hnt
  clear hpt hnt hx hz ht hnum hq
  go_enter Tryd.func3, Tryd.ntmps3
  go_upto_region 8 with first
    | (go_at_call 4; refine (HPT.out).mono ?_; rintro e w' ⟨rfl, rfl⟩)
    | (go_at_call 5; refine (HNT.out).mono ?_; rintro e w1 ⟨rfl, hB1⟩)
  go_upto_region 9 with (go_at_call 5; refine (number_name _ [45, 105, 110, 102] _ cat_minus_inf _ (fun v1 g cap hc => (inf_minus g cap v1 _ rfl hc))).mono ?_; rintro e w2 ⟨rfl, hB2⟩)
  go_upto_region 10 with (go_at_call 5; refine (number_name _ [45, 110, 97, 110] _ cat_minus_nan _ (fun v1 g cap hc => (nan_minus g cap v1 _ rfl hc))).mono ?_; rintro e w3 ⟨rfl, hB3⟩)
  have hfin : Below w.heap.size w w3 := ((hB1.alloc hB1.size _).trans (hB2.mono (Nat.le_trans hB1.size (Below.refl _ _ |>.alloc (Nat.le_refl _) _).size))).trans (hB3.mono (Nat.le_trans (Nat.le_trans hB1.size (Below.refl _ _ |>.alloc (Nat.le_refl _) _).size) hB2.size))
  clear hB1 hB2 hB3
  cases c
  all_goals
    go_wp2_with fail
    go_ret
    exact ⟨rfl, hfin⟩

set_option maxRecDepth 100000 in
set_option maxHeartbeats 1000000 in
theorem fn_minus_small (w : World) (m b s : Nat) (d e p : Int) (neg : Bool) (hm : m ≤ 4294967295) (hb : b ≤ 9) (hp0 : -13 ≤ p) (hp1 : p ≤ 22) (hs : s ≤ 65535) (h3 : (s : Int) % 3 = 2) (h100 : e ≤ 100) (he : e.tmod 14 = p) (hd : d.tmod 10 = b) (he0 : -128 ≤ e) (_he1 : e ≤ 127)
    (bb : Addr × Nat) (ht : Tables w bb) :
    Calls Tryd.prog 3 #[.int .u32 m, .int .u8 d, .int .i8 e, .bool neg, .int .u16 s] w fun r w' => r = .returned (.bool true) ∧ Below w.heap.size w w' := by
  obtain ⟨z, hz⟩ : ∃ z : ByteArray, z = ⟨(texted m b s p neg).toArray⟩ := ⟨_, rfl⟩
  have hpt := pointed_any m b s p neg w hm hb hs hp0 hp1
  rw [← hz] at hpt
  have hnt := number_text w m b s p neg hm hb hp0 hp1 bb ht z hz
  have hnum : Fl.Num (Fl.signed neg (Fl.told m (p - b))) := Fl.num_signed (Fl.told_pos (by omega) (by omega) (by omega))
  obtain ⟨x, hx⟩ : ∃ x, x = Fl.signed neg (Fl.told m (p - b)) := ⟨_, rfl⟩
  rw [← hx] at hpt hnt hnum
  have hself : FloatKind.f64.format.order x x = some .eq := Fl.order_self hnum
  obtain ⟨q, hq⟩ := Fl.one_over hnum
  have hdiv := fun W : World => run_float_arith (P := Tryd.prog) W .quo 25 .f64 4607182418800017408 x q hq
  have hmul := fun W : World => run_float_arith (P := Tryd.prog) W .mul 25 .f64 18442240474082181120 4611686018427387904 18442240474082181120 mul_ninf
  have o1 := ord_nan
  have o2 := ord_ninf
  have o3 := ord_ninf0
  obtain ⟨c, hc⟩ : ∃ c, (FloatKind.f64.format.order q 0 == some .gt) = c := ⟨_, rfl⟩
  have HPT := Lib.hid hpt
  have HNT := Lib.hid hnt
  clear hpt hnt hx hz ht hnum hq
  go_enter Tryd.func3, Tryd.ntmps3
  go_upto_region 8 with first
    | (go_at_call 4; refine (HPT.out).mono ?_; rintro e w' ⟨rfl, rfl⟩)
    | (go_at_call 5; refine (HNT.out).mono ?_; rintro e w1 ⟨rfl, hB1⟩)
  go_upto_region 9 with (go_at_call 5; refine (number_name _ [45, 105, 110, 102] _ cat_minus_inf _ (fun v1 g cap hc => (inf_minus g cap v1 _ rfl hc))).mono ?_; rintro e w2 ⟨rfl, hB2⟩)
  go_upto_region 10 with (go_at_call 5; refine (number_name _ [45, 110, 97, 110] _ cat_minus_nan _ (fun v1 g cap hc => (nan_minus g cap v1 _ rfl hc))).mono ?_; rintro e w3 ⟨rfl, hB3⟩)
  have hfin : Below w.heap.size w w3 := ((hB1.alloc hB1.size _).trans (hB2.mono (Nat.le_trans hB1.size (Below.refl _ _ |>.alloc (Nat.le_refl _) _).size))).trans (hB3.mono (Nat.le_trans (Nat.le_trans hB1.size (Below.refl _ _ |>.alloc (Nat.le_refl _) _).size) hB2.size))
  clear hB1 hB2 hB3
  cases c
  all_goals
    go_wp2_with fail
    go_ret
    exact ⟨rfl, hfin⟩

theorem fn_any (w : World) (m b s : Nat) (d e p : Int) (neg : Bool) (hm : m ≤ 4294967295) (hb : b ≤ 9) (hs : s ≤ 65535) (he : p = if 100 < e then e.tmod 23 else e.tmod 14) (hd : d.tmod 10 = b) (he0 : -128 ≤ e) (he1 : e ≤ 127)
    (bb : Addr × Nat) (ht : Tables w bb) :
    Calls Tryd.prog 3 #[.int .u32 m, .int .u8 d, .int .i8 e, .bool neg, .int .u16 s] w fun r w' => r = .returned (.bool true) ∧ Below w.heap.size w w' := by
  have h3 : s % 3 = 0 ∨ s % 3 = 1 ∨ s % 3 = 2 := by omega
  by_cases h100 : 100 < e
  · rw [if_pos h100, Int.tmod_eq_emod_of_nonneg (by omega)] at he
    rcases h3 with h3 | h3 | h3
    · exact fn_none_big w m b s d e p neg hm hb (by omega) (by omega) hs (by omega) h100 he.symm hd he0 he1 bb ht
    · exact fn_plus_big w m b s d e p neg hm hb (by omega) (by omega) hs (by omega) h100 he.symm hd he0 he1 bb ht
    · exact fn_minus_big w m b s d e p neg hm hb (by omega) (by omega) hs (by omega) h100 he.symm hd he0 he1 bb ht
  · rw [if_neg h100] at he
    have hp : -13 ≤ p ∧ p ≤ 13 := by
      rw [he]
      rcases Int.le_total 0 e with h | h
      · rw [Int.tmod_eq_emod_of_nonneg h]
        omega
      · have := Int.tmod_eq_emod_of_nonneg (a := -e) (b := 14) (by omega)
        rw [Int.neg_tmod] at this
        omega
    rcases h3 with h3 | h3 | h3
    · exact fn_none_small w m b s d e p neg hm hb (by omega) (by omega) hs (by omega) (by omega) he.symm hd he0 he1 bb ht
    · exact fn_plus_small w m b s d e p neg hm hb (by omega) (by omega) hs (by omega) (by omega) he.symm hd he0 he1 bb ht
    · exact fn_minus_small w m b s d e p neg hm hb (by omega) (by omega) hs (by omega) (by omega) he.symm hd he0 he1 bb ht
end Go.Proofs.YtalmpddmhakdmaaDoor
