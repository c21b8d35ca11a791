/-
  The walks of functions of the parser: whether a date begins (81), whether a time tells a zone (100), a date or a time (91). Conditions: the text lies in memory as stated.
-/
import Derived.Test.YtalmpddmhakdmaaGreatCJ18
import Derived.Test.YtalmpddmhakdmaaGreatCDigs
namespace Go.Proofs.YtalmpddmhakdmaaGreat
open Go.RowKit

/-- A byte of a zone. -/
def zc (c : UInt8) : Prop := c = 90 ∨ c = 122 ∨ c = 43 ∨ c = 45
set_option maxRecDepth 100000 in
set_option maxHeartbeats 4000000 in
theorem zone_any {w : World} {db : Nat} {B : List UInt8} {p k m : Nat} {a : Option Addr} (hD : Dt w db B) (h1 : p + k ≤ B.length) (ha : 0 < k → a = some ⟨db, p, none⟩) (b : Bool) (hy : b = true → ∃ y, y < k ∧ zc (pk B (p + y))) (hn : b = false → ∀ y, y < k → ¬ zc (pk B (p + y))) :
    Calls Tryz.prog 100 #[.slice a k m] w fun e w' => e = .returned (.bool b) ∧ w' = w := by
  have HD := Lib.hid hD
  have HA := Lib.hid ha
  have HY := Lib.hid hy
  have HN := Lib.hid hn
  have hl := hD.len
  clear hD ha hy hn
  go_enter Tryz.func100, Tryz.ntmps100
  go_wp2_with fail
  go_loopw [7] (fun v wr => ∃ y : Nat, v = .int .i64 y ∧ wr = w ∧ y ≤ k ∧ ∀ z, z < y → ¬ zc (pk B (p + z))) (fun v _ => B.length - (intOf v).toNat)
  case atStart => exact ⟨0, rfl, rfl, Nat.zero_le _, fun z hz => absurd hz (Nat.not_lt_zero z)⟩
  case round =>
    obtain ⟨y, rfl, rfl, hyk, hz⟩ := hrel
    obtain ⟨w, rfl⟩ : ∃ w0 : World, w0 = wr := ⟨_, rfl⟩
    have HZ := Lib.hid hz
    clear hz
    by_cases hlt : y < k
    · obtain rfl := HA.out (by omega)
      have hc := HD.out.pk (i := p + y) (by omega)
      obtain ⟨c, hcc⟩ : ∃ c, pk B (p + y) = c := ⟨_, rfl⟩
      have HC := Lib.hid hcc
      rw [hcc] at hc
      clear hcc
      have HT : Hid (zc c → b = true) := Lib.hid (fun hzc => by
        cases hb : b with
        | true => rfl
        | false => exact absurd (by rw [HC.out]; exact hzc) (HN.out hb y hlt))
      by_cases h90 : c = 90
      · have t1 := byte_eq h90 (n := 90) rfl
        have HB := Lib.hid (HT.out (.inl h90))
        clear h90
        go_wp2_with fail
        go_ret
        exact ⟨congrArg (fun x => Ending.returned (Value.bool x)) HB.out.symm, rfl⟩
      · have t1 := byte_ne h90 (n := 90) rfl
        by_cases h122 : c = 122
        · have t2 := byte_eq h122 (n := 122) rfl
          have HB := Lib.hid (HT.out (.inr (.inl h122)))
          clear h90 h122
          go_wp2_with fail
          go_ret
          exact ⟨congrArg (fun x => Ending.returned (Value.bool x)) HB.out.symm, rfl⟩
        · have t2 := byte_ne h122 (n := 122) rfl
          by_cases h43 : c = 43
          · have t3 := byte_eq h43 (n := 43) rfl
            have HB := Lib.hid (HT.out (.inr (.inr (.inl h43))))
            clear h90 h122 h43
            go_wp2_with fail
            go_ret
            exact ⟨congrArg (fun x => Ending.returned (Value.bool x)) HB.out.symm, rfl⟩
          · have t3 := byte_ne h43 (n := 43) rfl
            by_cases h45 : c = 45
            · have t4 := byte_eq h45 (n := 45) rfl
              have HB := Lib.hid (HT.out (.inr (.inr (.inr h45))))
              clear h90 h122 h43 h45
              go_wp2_with fail
              go_ret
              exact ⟨congrArg (fun x => Ending.returned (Value.bool x)) HB.out.symm, rfl⟩
            · have t4 := byte_ne h45 (n := 45) rfl
              have HNZ : Hid (¬ zc c) := Lib.hid (fun h => by rcases h with h | h | h | h <;> contradiction)
              clear h90 h122 h43 h45
              go_wp2_with fail
              exact ⟨⟨y + 1, rfl, by trivial, by omega, fun z hz => by
                rcases Nat.lt_or_ge z y with h | h
                · exact HZ.out z h
                · rw [show z = y by omega, HC.out]
                  exact HNZ.out⟩, by show B.length - (intOf (.int .i64 ((y : Int) + 1))).toNat < B.length - (intOf (.int .i64 (y : Int))).toNat; simp only [intOf]; omega⟩
    · have HB : Hid (b = false) := Lib.hid (by
        cases hb : b with
        | false => rfl
        | true =>
          obtain ⟨z, hz, hzc⟩ := HY.out hb
          exact absurd hzc (HZ.out z (by omega)))
      have hye : y = k := by omega
      subst hye
      go_wp2_with fail
      go_ret
      exact ⟨congrArg (fun x => Ending.returned (Value.bool x)) HB.out.symm, rfl⟩

/-- A byte of a date or a time. -/
def dtB (c : UInt8) : Prop := vD c < 10 ∨ c = 58 ∨ c = 45 ∨ c = 43 ∨ c = 46 ∨ c = 90
/-- So many signs of a date or a time, with a sign between them at d. -/
structure DtS (B : List UInt8) (o n d : Nat) : Prop where
  hd : d ≤ n
  ch : ∀ y, y < n → y ≠ d → dtB (pk B (o + y))
  dl : d < n → pk B (o + d) = 84 ∨ (pk B (o + d) = 32 ∧ vD (pk B (o + d + 1)) < 10)
  after : Fol B (o + n)
  ins : o + n ≤ B.length
/-- .. and of which kind. -/
def DtK (B : List UInt8) (o n d : Nat) (kd : Int) : Prop :=
  (pk B (o + 2) = 58 ∧ kd = 13) ∨ (pk B (o + 2) ≠ 58 ∧ d = n ∧ kd = 12) ∨ (pk B (o + 2) ≠ 58 ∧ d + 1 < n ∧ (∃ y, y < n - (d + 1) ∧ zc (pk B (o + (d + 1) + y))) ∧ kd = 15) ∨ (pk B (o + 2) ≠ 58 ∧ d + 1 < n ∧ (∀ y, y < n - (d + 1) → ¬ zc (pk B (o + (d + 1) + y))) ∧ kd = 14)
theorem dig_calls {c : UInt8} (w : World) (b : Bool) (h : decide (vD c < 10) = b) : Calls Tryz.prog 90 #[.int .u8 (c.toNat : Int)] w fun e w' => e = .returned (.bool b) ∧ w' = w := by
  rw [← h]
  exact digit_any w c

set_option maxRecDepth 100000 in
set_option maxHeartbeats 8000000 in
theorem dscan_any {w : World} {db C : Nat} {B : List UInt8} {o n m x d : Nat} {kd : Int} (hD : Dt w db B) (h1 : o + n = B.length) (h2 : n ≤ m) (h3 : o + m = C) (hx : 3 ≤ x) (hS : DtS B o x d) (hK : DtK B o x d kd) :
    Calls Tryz.prog 91 #[.slice (some ⟨db, o, none⟩) n m] w (KdP db C B o (o + x) kd w) := by
  have HD := Lib.hid hD
  have HS := Lib.hid hS
  have HK := Lib.hid hK
  have hl := hD.len
  have hxn : x ≤ n := by have := hS.ins; omega
  have hdx := hS.hd
  clear hD hS hK
  go_enter Tryz.func91, Tryz.ntmps91
  go_upto_block 0 with fail
  go_cut [7, 8] (fun v7 v8 wx => v7 = .int .i64 (x : Int) ∧ v8 = .int .i64 (if d < x then (d : Int) else -1) ∧ w = wx)
  case first =>
    go_wp2_with fail
    go_loopw [7, 8] (fun v7 v8 wr => ∃ y : Nat, v7 = .int .i64 y ∧ v8 = .int .i64 (if d < y then (d : Int) else -1) ∧ w = wr ∧ y ≤ x) (fun v _ _ => B.length - (intOf v).toNat)
    case atStart => exact ⟨0, rfl, rfl, rfl, Nat.zero_le _⟩
    case round =>
      obtain ⟨y, rfl, rfl, hw2, hyx⟩ := hrel
      subst hw2
      by_cases hlt : y < n
      · have hc := HD.out.pk (i := o + y) (by omega)
        by_cases hyx2 : y < x
        · by_cases hyd : y = d
          · subst hyd
            have hdl := HS.out.dl hyx2
            have hif : (if y < y then (y : Int) else -1) = -1 := if_neg (Nat.lt_irrefl y)
            rw [hif]
            have hnd : vD (pk B (o + y)) < 10 → False := fun h => by
              have := (vD_ten _).1 h
              rcases hdl with e | ⟨e, _⟩ <;> rw [e] at this <;> revert this <;> decide
            have HDG := Lib.hid (dig_calls (c := pk B (o + y)) w false (by simpa using hnd))
            have hif2 : (if y < y + 1 then (y : Int) else -1) = (y : Int) := if_pos (Nat.lt_succ_self y)
            have HIF := Lib.hid hif2
            clear hif hif2 hnd
            rcases hdl with h84 | ⟨h32, hnx⟩
            · have t58 : (((pk B (o + y)).toNat : Int) == 58) = false := by rw [h84]; decide
              have t45 : (((pk B (o + y)).toNat : Int) == 45) = false := by rw [h84]; decide
              have t43 : (((pk B (o + y)).toNat : Int) == 43) = false := by rw [h84]; decide
              have t46 : (((pk B (o + y)).toNat : Int) == 46) = false := by rw [h84]; decide
              have t90 : (((pk B (o + y)).toNat : Int) == 90) = false := by rw [h84]; decide
              have t122 : (((pk B (o + y)).toNat : Int) == 122) = false := by rw [h84]; decide
              have t84 : (((pk B (o + y)).toNat : Int) == 84) = true := by rw [h84]; decide
              clear h84
              generalize pk B (o + y) = c at *
              go_wp2_with fail
              with_reducible refine HDG.out.mono ?_
              rintro e w' ⟨rfl, hw'⟩
              subst hw'
              go_wp2_with fail
              exact ⟨⟨y + 1, rfl, by rw [HIF.out], by trivial, by omega⟩, by show B.length - (intOf (.int .i64 ((y : Int) + 1))).toNat < B.length - (intOf (.int .i64 (y : Int))).toNat; simp only [intOf]; omega⟩
            · have hin1 := vD_in (by decide) hnx
              have hc2 := HD.out.pk (i := o + (y + 1)) (by omega)
              have HDG2 := Lib.hid (dig_calls (c := pk B (o + (y + 1))) w true (by rw [← Nat.add_assoc]; simpa using hnx))
              have t58 : (((pk B (o + y)).toNat : Int) == 58) = false := by rw [h32]; decide
              have t45 : (((pk B (o + y)).toNat : Int) == 45) = false := by rw [h32]; decide
              have t43 : (((pk B (o + y)).toNat : Int) == 43) = false := by rw [h32]; decide
              have t46 : (((pk B (o + y)).toNat : Int) == 46) = false := by rw [h32]; decide
              have t90 : (((pk B (o + y)).toNat : Int) == 90) = false := by rw [h32]; decide
              have t122 : (((pk B (o + y)).toNat : Int) == 122) = false := by rw [h32]; decide
              have t84 : (((pk B (o + y)).toNat : Int) == 84) = false := by rw [h32]; decide
              have t116 : (((pk B (o + y)).toNat : Int) == 116) = false := by rw [h32]; decide
              have t32 : (((pk B (o + y)).toNat : Int) == 32) = true := by rw [h32]; decide
              have hyn1 : y + 1 < n := by omega
              clear h32 hnx hin1
              generalize pk B (o + y) = c at *
              generalize pk B (o + (y + 1)) = c2 at *
              go_wp2_with fail
              with_reducible refine HDG.out.mono ?_
              rintro e w' ⟨rfl, hw'⟩
              subst hw'
              go_wp2_with fail
              with_reducible refine HDG2.out.mono ?_
              rintro e w' ⟨rfl, hw'⟩
              subst hw'
              go_wp2_with fail
              exact ⟨⟨y + 1, rfl, by rw [HIF.out], by trivial, by omega⟩, by show B.length - (intOf (.int .i64 ((y : Int) + 1))).toNat < B.length - (intOf (.int .i64 (y : Int))).toNat; simp only [intOf]; omega⟩
          · have hch := HS.out.ch y hyx2 hyd
            have hif : (if d < y + 1 then (d : Int) else -1) = (if d < y then (d : Int) else -1) := by
              by_cases hd : d < y
              · rw [if_pos hd, if_pos (by omega)]
              · rw [if_neg hd, if_neg (by omega)]
            have HIF := Lib.hid hif
            clear hif
            generalize (if d < y then (d : Int) else -1) = dv at *
            obtain ⟨b, hb⟩ : ∃ b, decide (vD (pk B (o + y)) < 10) = b := ⟨_, rfl⟩
            have HDG := Lib.hid (dig_calls (c := pk B (o + y)) w b hb)
            obtain ⟨c, hcc⟩ : ∃ c, pk B (o + y) = c := ⟨_, rfl⟩
            rw [hcc] at hch hc HDG hb
            clear hcc
            cases b with
            | true =>
              clear hch hb
              go_wp2_with fail
              with_reducible refine HDG.out.mono ?_
              rintro e w' ⟨rfl, hw'⟩
              subst hw'
              go_wp2_with fail
              exact ⟨⟨y + 1, rfl, by rw [HIF.out], by trivial, by omega⟩, by show B.length - (intOf (.int .i64 ((y : Int) + 1))).toNat < B.length - (intOf (.int .i64 (y : Int))).toNat; simp only [intOf]; omega⟩
            | false =>
              have hch2 : c = 58 ∨ c = 45 ∨ c = 43 ∨ c = 46 ∨ c = 90 := hch.resolve_left (by simpa using hb)
              have hor : ((c.toNat : Int) == 58) = true ∨ (((c.toNat : Int) == 58) = false ∧ ((c.toNat : Int) == 45) = true) ∨ (((c.toNat : Int) == 58) = false ∧ ((c.toNat : Int) == 45) = false ∧ ((c.toNat : Int) == 43) = true) ∨
                  (((c.toNat : Int) == 58) = false ∧ ((c.toNat : Int) == 45) = false ∧ ((c.toNat : Int) == 43) = false ∧ ((c.toNat : Int) == 46) = true) ∨ (((c.toNat : Int) == 58) = false ∧ ((c.toNat : Int) == 45) = false ∧ ((c.toNat : Int) == 43) = false ∧ ((c.toNat : Int) == 46) = false ∧ ((c.toNat : Int) == 90) = true) := by
                rcases hch2 with rfl | rfl | rfl | rfl | rfl <;> decide
              clear hch hch2 hb
              rcases hor with t1 | ⟨t1, t2⟩ | ⟨t1, t2, t3⟩ | ⟨t1, t2, t3, t4⟩ | ⟨t1, t2, t3, t4, t5⟩
              all_goals
                go_wp2_with fail
                with_reducible refine HDG.out.mono ?_
                rintro e w' ⟨rfl, hw'⟩
                subst hw'
                go_wp2_with fail
                exact ⟨⟨y + 1, rfl, by rw [HIF.out], by trivial, by omega⟩, by show B.length - (intOf (.int .i64 ((y : Int) + 1))).toNat < B.length - (intOf (.int .i64 (y : Int))).toNat; simp only [intOf]; omega⟩
        · have hye : y = x := by omega
          subst hye
          obtain ⟨dv, hdv⟩ : ∃ dv, (if d < y then (d : Int) else -1) = dv := ⟨_, rfl⟩
          rw [hdv]
          have HDV := Lib.hid hdv
          clear hdv
          have hf := HS.out.after
          have hne : ∀ c : UInt8, (c ≠ 0 ∧ c ≠ 32 ∧ c ≠ 9 ∧ c ≠ 35 ∧ c ≠ 10 ∧ c ≠ 13 ∧ c ≠ 44 ∧ c ≠ 93 ∧ c ≠ 125) → pk B (o + y) ≠ c := fun c hc => hf.ne hc
          have t58 := byte_ne (hne 58 (by decide)) (n := 58) rfl
          have t45 := byte_ne (hne 45 (by decide)) (n := 45) rfl
          have t43 := byte_ne (hne 43 (by decide)) (n := 43) rfl
          have t46 := byte_ne (hne 46 (by decide)) (n := 46) rfl
          have t90 := byte_ne (hne 90 (by decide)) (n := 90) rfl
          have t122 := byte_ne (hne 122 (by decide)) (n := 122) rfl
          have t84 := byte_ne (hne 84 (by decide)) (n := 84) rfl
          have t116 := byte_ne (hne 116 (by decide)) (n := 116) rfl
          have hnd : ¬ vD (pk B (o + y)) < 10 := fun h => by
            have hz := (vD_ten _).1 h
            rcases hf.byte with h | h | h | h | h | h | h | h | h
            · omega
            all_goals
              rw [h] at hz
              revert hz
              decide
          have HDG := Lib.hid (dig_calls (c := pk B (o + y)) w false (by simpa using hnd))
          by_cases h32 : pk B (o + y) = 32
          · have hnx := hf.blank h32
            have t32 := byte_eq h32 (n := 32) rfl
            by_cases hyn1 : y + 1 < n
            · have hc2 := HD.out.pk (i := o + (y + 1)) (by omega)
              have HDG2 := Lib.hid (dig_calls (c := pk B (o + (y + 1))) w false (by rw [← Nat.add_assoc]; simpa using hnx))
              clear h32 hnx hf hne hnd
              generalize pk B (o + y) = c at *
              generalize pk B (o + (y + 1)) = c2 at *
              go_wp2_with fail
              with_reducible refine HDG.out.mono ?_
              rintro e w' ⟨rfl, hw'⟩
              subst hw'
              go_wp2_with fail
              with_reducible refine HDG2.out.mono ?_
              rintro e w' ⟨rfl, hw'⟩
              subst hw'
              go_wp2_with fail
              go_meet
              exact ⟨rfl, congrArg (Value.int .i64) HDV.out.symm, rfl⟩
            · clear h32 hnx hf hne hnd
              generalize pk B (o + y) = c at *
              go_wp2_with fail
              with_reducible refine HDG.out.mono ?_
              rintro e w' ⟨rfl, hw'⟩
              subst hw'
              go_wp2_with fail
              go_meet
              exact ⟨rfl, congrArg (Value.int .i64) HDV.out.symm, rfl⟩
          · have t32 := byte_ne h32 (n := 32) rfl
            clear h32 hf hne hnd
            generalize pk B (o + y) = c at *
            go_wp2_with fail
            with_reducible refine HDG.out.mono ?_
            rintro e w' ⟨rfl, hw'⟩
            subst hw'
            go_wp2_with fail
            go_meet
            exact ⟨rfl, congrArg (Value.int .i64) HDV.out.symm, rfl⟩
      · have hye : y = x := by omega
        subst hye
        obtain ⟨dv, hdv⟩ : ∃ dv, (if d < y then (d : Int) else -1) = dv := ⟨_, rfl⟩
        rw [hdv]
        have HDV := Lib.hid hdv
        clear hdv
        go_wp2_with fail
        go_meet
        exact ⟨rfl, congrArg (Value.int .i64) HDV.out.symm, rfl⟩
  case rest =>
    obtain ⟨rfl, rfl, hw2⟩ := hcut
    subst hw2
    have hc2 := HD.out.pk (i := o + 2) (by have := HS.out.ins; omega)
    have hin := HS.out.ins
    have hx2 : 2 < x := by omega
    rcases HK.out with ⟨h58, rfl⟩ | ⟨h58, hd, rfl⟩ | ⟨h58, hd, hz, rfl⟩ | ⟨h58, hd, hz, rfl⟩
    · have t1 := byte_eq h58 (n := 58) rfl
      clear h58
      generalize pk B (o + 2) = c at *
      generalize (if d < x then (d : Int) else -1) = dv
      go_wp2_with fail
      go_quiet (fail)
      all_goals go_wp2_with fail
      all_goals
        (try simp only [Exit.inBlock, Exit.then])
        refine bodyPost_ret (results_tmp5 rfl _ _ _) rfl ?_
        exact KdP.mk _ _ _ rfl ⟨_, _, _, o, rfl, by omega, by omega⟩ (TxtAt.part (HD.out.drewN nq) (by omega) (by omega) (by omega)) ⟨_, _, _, rfl, by omega, by omega, by omega, by omega⟩ (grown_drewN w nq)
    · have t1 := byte_ne h58 (n := 58) rfl
      have hif : (if d < x then (d : Int) else -1) = -1 := if_neg (by omega)
      rw [hif]
      clear h58 hif
      generalize pk B (o + 2) = c at *
      go_wp2_with fail
      go_quiet (fail)
      all_goals go_wp2_with fail
      all_goals
        (try simp only [Exit.inBlock, Exit.then])
        refine bodyPost_ret (results_tmp5 rfl _ _ _) rfl ?_
        exact KdP.mk _ _ _ rfl ⟨_, _, _, o, rfl, by omega, by omega⟩ (TxtAt.part (HD.out.drewN nq) (by omega) (by omega) (by omega)) ⟨_, _, _, rfl, by omega, by omega, by omega, by omega⟩ (grown_drewN w nq)
    · have t1 := byte_ne h58 (n := 58) rfl
      have hif : (if d < x then (d : Int) else -1) = (d : Int) := if_pos (by omega)
      rw [hif]
      have hmd : ¬ m = d + 1 := by omega
      have HZN := Lib.hid (fun (a : Option Addr) (ha : 0 < x - (d + 1) → a = some ⟨db, o + (d + 1), none⟩) => zone_any (m := m - (d + 1)) HD.out (p := o + (d + 1)) (k := x - (d + 1)) (by omega) ha true (fun _ => hz) (fun h => by cases h))
      clear h58 hif hz
      generalize pk B (o + 2) = c at *
      go_wp2_with fail
      with_reducible refine (HZN.out _ (fun _ => rfl)).mono ?_
      rintro e w' ⟨rfl, hw'⟩
      rw [hw']
      clear hw' w'
      go_wp2_with fail
      go_quiet (fail)
      all_goals go_wp2_with fail
      all_goals
        (try simp only [Exit.inBlock, Exit.then])
        refine bodyPost_ret (results_tmp5 rfl _ _ _) rfl ?_
        exact KdP.mk _ _ _ rfl ⟨_, _, _, o, rfl, by omega, by omega⟩ (TxtAt.part (HD.out.drewN nq) (by omega) (by omega) (by omega)) ⟨_, _, _, rfl, by omega, by omega, by omega, by omega⟩ (grown_drewN w nq)
    · have t1 := byte_ne h58 (n := 58) rfl
      have hif : (if d < x then (d : Int) else -1) = (d : Int) := if_pos (by omega)
      rw [hif]
      have hmd : ¬ m = d + 1 := by omega
      have HZN := Lib.hid (fun (a : Option Addr) (ha : 0 < x - (d + 1) → a = some ⟨db, o + (d + 1), none⟩) => zone_any (m := m - (d + 1)) HD.out (p := o + (d + 1)) (k := x - (d + 1)) (by omega) ha false (fun h => by cases h) (fun _ => hz))
      clear h58 hif hz
      generalize pk B (o + 2) = c at *
      go_wp2_with fail
      with_reducible refine (HZN.out _ (fun _ => rfl)).mono ?_
      rintro e w' ⟨rfl, hw'⟩
      rw [hw']
      clear hw' w'
      go_wp2_with fail
      go_quiet (fail)
      all_goals go_wp2_with fail
      all_goals
        (try simp only [Exit.inBlock, Exit.then])
        refine bodyPost_ret (results_tmp5 rfl _ _ _) rfl ?_
        exact KdP.mk _ _ _ rfl ⟨_, _, _, o, rfl, by omega, by omega⟩ (TxtAt.part (HD.out.drewN nq) (by omega) (by omega) (by omega)) ⟨_, _, _, rfl, by omega, by omega, by omega, by omega⟩ (grown_drewN w nq)
end Go.Proofs.YtalmpddmhakdmaaGreat

/-
  The walk of a function of the parser: whether a date or a time begins (81). Conditions: the text lies in memory as stated.
-/
namespace Go.Proofs.YtalmpddmhakdmaaGreat
open Go.RowKit

set_option maxRecDepth 100000 in
set_option maxHeartbeats 4000000 in
theorem dts_hour {w : World} {db : Nat} {B : List UInt8} {o n m : Nat} (hD : Dt w db B) (h1 : o + n = B.length) (g1 : vD (pk B (o + 1)) < 10) (g2 : pk B (o + 2) = 58) :
    Calls Tryz.prog 81 #[.slice (some ⟨db, o, none⟩) n m] w fun e w' => e = .returned (.bool true) ∧ w' = w := by
  have hin : o + 2 < B.length := pk_in (by rw [g2]; decide)
  have hl := hD.len
  have hc1 := hD.pk (i := o + 1) (by omega)
  have hc2 := hD.pk (i := o + 2) hin
  rw [g2] at hc2
  have HD1 := Lib.hid (dig_calls (c := pk B (o + 1)) w true (by simpa using g1))
  have hn : 3 ≤ n := by omega
  clear hD g1 g2
  generalize pk B (o + 1) = c1 at *
  go_enter Tryz.func81, Tryz.ntmps81
  go_wp2_with fail
  with_reducible refine HD1.out.mono ?_
  rintro e w' ⟨rfl, hw'⟩
  rw [hw']
  clear hw' w'
  go_wp2_with fail
  go_ret
  exact ⟨rfl, rfl⟩

set_option maxRecDepth 100000 in
set_option maxHeartbeats 4000000 in
theorem dts_day {w : World} {db : Nat} {B : List UInt8} {o n m : Nat} (hD : Dt w db B) (h1 : o + n = B.length) (g1 : vD (pk B (o + 1)) < 10) (g2 : vD (pk B (o + 2)) < 10) (g3 : vD (pk B (o + 3)) < 10) (g4 : pk B (o + 4) = 45) :
    Calls Tryz.prog 81 #[.slice (some ⟨db, o, none⟩) n m] w fun e w' => e = .returned (.bool true) ∧ w' = w := by
  have hin : o + 4 < B.length := pk_in (by rw [g4]; decide)
  have hl := hD.len
  have hc1 := hD.pk (i := o + 1) (by omega)
  have hc2 := hD.pk (i := o + 2) (by omega)
  have hc3 := hD.pk (i := o + 3) (by omega)
  have hc4 := hD.pk (i := o + 4) hin
  rw [g4] at hc4
  have HD1 := Lib.hid (dig_calls (c := pk B (o + 1)) w true (by simpa using g1))
  have HD2 := Lib.hid (dig_calls (c := pk B (o + 2)) w true (by simpa using g2))
  have HD3 := Lib.hid (dig_calls (c := pk B (o + 3)) w true (by simpa using g3))
  have t58 : (((pk B (o + 2)).toNat : Int) == 58) = false := by
    have := (vD_ten _).1 g2
    simp
    omega
  have hn : 5 ≤ n := by omega
  clear hD g1 g2 g3 g4
  generalize pk B (o + 1) = c1 at *
  generalize pk B (o + 2) = c2 at *
  generalize pk B (o + 3) = c3 at *
  go_enter Tryz.func81, Tryz.ntmps81
  go_wp2_with (first | (with_reducible refine HD1.out.mono ?_; rintro e w' ⟨rfl, hw'⟩; rw [hw']; clear hw' w') | (with_reducible refine HD2.out.mono ?_; rintro e w' ⟨rfl, hw'⟩; rw [hw']; clear hw' w') | (with_reducible refine HD3.out.mono ?_; rintro e w' ⟨rfl, hw'⟩; rw [hw']; clear hw' w'))
  go_ret
  exact ⟨rfl, rfl⟩

set_option maxRecDepth 100000 in
set_option maxHeartbeats 4000000 in
theorem dts_none {w : World} {db : Nat} {B : List UInt8} {o n m : Nat} (hD : Dt w db B) (h1 : o + n = B.length) (g1 : ¬ (vD (pk B (o + 1)) < 10 ∧ pk B (o + 2) = 58)) (g2 : ¬ (vD (pk B (o + 1)) < 10 ∧ vD (pk B (o + 2)) < 10 ∧ vD (pk B (o + 3)) < 10 ∧ pk B (o + 4) = 45)) :
    Calls Tryz.prog 81 #[.slice (some ⟨db, o, none⟩) n m] w fun e w' => e = .returned (.bool false) ∧ w' = w := by
  have hl := hD.len
  have HD := Lib.hid hD
  clear hD
  by_cases hn3 : 3 ≤ n
  · have hc1 := HD.out.pk (i := o + 1) (by omega)
    have hc2 := HD.out.pk (i := o + 2) (by omega)
    by_cases d1 : vD (pk B (o + 1)) < 10
    · have HD1 := Lib.hid (dig_calls (c := pk B (o + 1)) w true (by simpa using d1))
      have t58 := byte_ne (fun e => g1 ⟨d1, e⟩) (n := 58) rfl
      by_cases hn5 : 5 ≤ n
      · have hc3 := HD.out.pk (i := o + 3) (by omega)
        have hc4 := HD.out.pk (i := o + 4) (by omega)
        by_cases d2 : vD (pk B (o + 2)) < 10
        · have HD2 := Lib.hid (dig_calls (c := pk B (o + 2)) w true (by simpa using d2))
          by_cases d3 : vD (pk B (o + 3)) < 10
          · have HD3 := Lib.hid (dig_calls (c := pk B (o + 3)) w true (by simpa using d3))
            have t45 := byte_ne (fun e => g2 ⟨d1, d2, d3, e⟩) (n := 45) rfl
            clear g1 g2
            try clear d1
            try clear d2
            try clear d3
            try generalize pk B (o + 1) = c1 at *
            try generalize pk B (o + 2) = c2 at *
            try generalize pk B (o + 3) = c3 at *
            try generalize pk B (o + 4) = c4 at *
            go_enter Tryz.func81, Tryz.ntmps81
            go_wp2_with (first | (with_reducible refine HD1.out.mono ?_; rintro e w' ⟨rfl, hw'⟩; rw [hw']; clear hw' w') | (with_reducible refine HD2.out.mono ?_; rintro e w' ⟨rfl, hw'⟩; rw [hw']; clear hw' w') | (with_reducible refine HD3.out.mono ?_; rintro e w' ⟨rfl, hw'⟩; rw [hw']; clear hw' w'))
            go_ret
            exact ⟨rfl, rfl⟩
          · have HD3 := Lib.hid (dig_calls (c := pk B (o + 3)) w false (by simpa using d3))
            clear g1 g2
            try clear d1
            try clear d2
            try clear d3
            try generalize pk B (o + 1) = c1 at *
            try generalize pk B (o + 2) = c2 at *
            try generalize pk B (o + 3) = c3 at *
            try generalize pk B (o + 4) = c4 at *
            go_enter Tryz.func81, Tryz.ntmps81
            go_wp2_with (first | (with_reducible refine HD1.out.mono ?_; rintro e w' ⟨rfl, hw'⟩; rw [hw']; clear hw' w') | (with_reducible refine HD2.out.mono ?_; rintro e w' ⟨rfl, hw'⟩; rw [hw']; clear hw' w') | (with_reducible refine HD3.out.mono ?_; rintro e w' ⟨rfl, hw'⟩; rw [hw']; clear hw' w'))
            go_ret
            exact ⟨rfl, rfl⟩
        · have HD2 := Lib.hid (dig_calls (c := pk B (o + 2)) w false (by simpa using d2))
          have HD3 := HD2
          clear g1 g2
          try clear d1
          try clear d2
          try clear d3
          try generalize pk B (o + 1) = c1 at *
          try generalize pk B (o + 2) = c2 at *
          try generalize pk B (o + 3) = c3 at *
          try generalize pk B (o + 4) = c4 at *
          go_enter Tryz.func81, Tryz.ntmps81
          go_wp2_with (first | (with_reducible refine HD1.out.mono ?_; rintro e w' ⟨rfl, hw'⟩; rw [hw']; clear hw' w') | (with_reducible refine HD2.out.mono ?_; rintro e w' ⟨rfl, hw'⟩; rw [hw']; clear hw' w') | (with_reducible refine HD3.out.mono ?_; rintro e w' ⟨rfl, hw'⟩; rw [hw']; clear hw' w'))
          go_ret
          exact ⟨rfl, rfl⟩
      · have HD2 := HD1
        have HD3 := HD1
        clear g1 g2
        try clear d1
        try clear d2
        try clear d3
        try generalize pk B (o + 1) = c1 at *
        try generalize pk B (o + 2) = c2 at *
        go_enter Tryz.func81, Tryz.ntmps81
        go_wp2_with (first | (with_reducible refine HD1.out.mono ?_; rintro e w' ⟨rfl, hw'⟩; rw [hw']; clear hw' w') | (with_reducible refine HD2.out.mono ?_; rintro e w' ⟨rfl, hw'⟩; rw [hw']; clear hw' w') | (with_reducible refine HD3.out.mono ?_; rintro e w' ⟨rfl, hw'⟩; rw [hw']; clear hw' w'))
        go_ret
        exact ⟨rfl, rfl⟩
    · have HD1 := Lib.hid (dig_calls (c := pk B (o + 1)) w false (by simpa using d1))
      have HD2 := HD1
      have HD3 := HD1
      by_cases hn5 : 5 ≤ n
      · skip
        clear g1 g2
        try clear d1
        try clear d2
        try clear d3
        try generalize pk B (o + 1) = c1 at *
        try generalize pk B (o + 2) = c2 at *
        go_enter Tryz.func81, Tryz.ntmps81
        go_wp2_with (first | (with_reducible refine HD1.out.mono ?_; rintro e w' ⟨rfl, hw'⟩; rw [hw']; clear hw' w') | (with_reducible refine HD2.out.mono ?_; rintro e w' ⟨rfl, hw'⟩; rw [hw']; clear hw' w') | (with_reducible refine HD3.out.mono ?_; rintro e w' ⟨rfl, hw'⟩; rw [hw']; clear hw' w'))
        go_ret
        exact ⟨rfl, rfl⟩
      · skip
        clear g1 g2
        try clear d1
        try clear d2
        try clear d3
        try generalize pk B (o + 1) = c1 at *
        try generalize pk B (o + 2) = c2 at *
        go_enter Tryz.func81, Tryz.ntmps81
        go_wp2_with (first | (with_reducible refine HD1.out.mono ?_; rintro e w' ⟨rfl, hw'⟩; rw [hw']; clear hw' w') | (with_reducible refine HD2.out.mono ?_; rintro e w' ⟨rfl, hw'⟩; rw [hw']; clear hw' w') | (with_reducible refine HD3.out.mono ?_; rintro e w' ⟨rfl, hw'⟩; rw [hw']; clear hw' w'))
        go_ret
        exact ⟨rfl, rfl⟩
  · clear g1 g2
    go_enter Tryz.func81, Tryz.ntmps81
    go_wp2_with fail
    go_ret
    exact ⟨rfl, rfl⟩
end Go.Proofs.YtalmpddmhakdmaaGreat

/-
  Plain: texts of several lines, step by step. Conditions: as each lemma states.
-/
namespace Go.Proofs.YtalmpddmhakdmaaGreat
open Go.RowKit

theorem Tr.le {B : List UInt8} {a b : Nat} (h : Tr B a b) : a ≤ b := by
  induction h with
  | stop h1 => exact skp_ge B _
  | more h1 h2 ih => exact Nat.le_trans (skp_ge B _) (Nat.le_trans (Nat.le_add_right _ _) ih)
theorem LnR.len {q : UInt8} (hq : q ≠ 0) {B : List UInt8} {i j : Nat} {u : List UInt8} (h : LnR q B i j u) : i + 3 ≤ j ∧ j ≤ B.length := by
  induction h with
  | stop h1 h2 =>
    have e2 := pk_in (B := B) (k := _) (by rw [h1.2.2]; exact hq)
    rcases h2 with ⟨rfl, _⟩ | ⟨rfl, h3, _⟩ | ⟨rfl, h3, h4⟩
    · omega
    · have := pk_in (B := B) (k := _) (by rw [h3]; exact hq)
      omega
    · have := pk_in (B := B) (k := _) (by rw [h4]; exact hq)
      omega
  | cont h1 g2 g3 g4 h5 h6 g7 ih =>
    rename_i i m j u
    have hs := skp_ge B (i + 1)
    have := h6.le
    omega
  | esc _ _ _ _ _ h6 _ ih => have := esc_len h6; omega
  | nl _ _ _ _ _ ih => omega
  | sgn _ _ _ _ _ _ ih => omega
theorem LnR.quotes {q : UInt8} {B : List UInt8} {i j : Nat} {u : List UInt8} (h : LnR q B i j u) (h3 : three q B i) : ∃ n, qN q B i n ∧ j = i + n ∧ u = List.replicate (n - 3) q := by
  cases h with
  | stop _ h2 => exact ⟨_, h2, rfl, rfl⟩
  | cont _ h _ _ _ _ _ => exact absurd h3 h
  | esc _ h _ _ _ _ _ => exact absurd h3 h
  | nl _ h _ _ _ => exact absurd h3 h
  | sgn _ h _ _ _ _ => exact absurd h3 h
theorem LnR.step {q : UInt8} {B : List UInt8} {i j : Nat} {u : List UInt8} (h : LnR q B i j u) (h3 : ¬ three q B i) (h92 : ¬ (pk B i = 92 ∧ q = 34)) :
    (lnN B i ≠ 0 ∧ ∃ u', u = cutB B i (lnN B i) ++ u' ∧ LnR q B (i + lnN B i) j u') ∨ (lnN B i = 0 ∧ 0 < sgN B i ∧ ∃ u', u = cutB B i (sgN B i) ++ u' ∧ LnR q B (i + sgN B i) j u') := by
  cases h with
  | stop h _ => exact absurd h h3
  | cont _ _ g1 g2 _ _ _ => exact absurd ⟨g1, g2⟩ h92
  | esc _ _ g1 g2 _ _ _ => exact absurd ⟨g1, g2⟩ h92
  | nl _ _ _ g1 g2 => exact .inl ⟨g1, _, rfl, g2⟩
  | sgn _ _ _ g1 g2 g3 => exact .inr ⟨g1, g2, _, rfl, g3⟩
theorem LnR.plain {q : UInt8} {B : List UInt8} {i j : Nat} {u : List UInt8} (h : LnR q B i j u) (h3 : ¬ three q B i) (h92 : ¬ (pk B i = 92 ∧ q = 34)) (hp : pk B i = 9 ∨ (32 ≤ (pk B i).toNat ∧ (pk B i).toNat < 127)) :
    ∃ u', u = cutB B i 1 ++ u' ∧ LnR q B (i + 1) j u' := by
  have hl : lnN B i = 0 := lnN_plain (by rcases hp with h | h
                                         · rw [h]; decide
                                         · omega) (by rcases hp with h | h
                                                      · rw [h]; decide
                                                      · omega)
  rcases h.step h3 h92 with ⟨g, _⟩ | ⟨_, _, g⟩
  · exact absurd hl g
  · rwa [sgN_plain hp] at g
/-- One or two quotes that end nothing. -/
theorem LnR.few {q : UInt8} (hq : q = 34 ∨ q = 39) {B : List UInt8} {i j r : Nat} {u : List UInt8} (h : LnR q B i j u) (hr : r < 3) (ha : ∀ k, k < r → pk B (i + k) = q) (he : pk B (i + r) ≠ q) :
    ∃ u', u = cutB B i r ++ u' ∧ LnR q B (i + r) j u' := by
  have hpl : ∀ k, pk B k = q → (pk B k = 9 ∨ (32 ≤ (pk B k).toNat ∧ (pk B k).toNat < 127)) ∧ ¬ (pk B k = 92 ∧ q = 34) := fun k hk => by
    rcases hq with rfl | rfl <;> rw [hk] <;> decide
  match r, hr with
  | 0, _ => exact ⟨u, rfl, h⟩
  | 1, _ =>
    have h0 := ha 0 (by decide)
    exact h.plain (fun h3 => he h3.2.1) (hpl i h0).2 (hpl i h0).1
  | 2, _ =>
    have h0 := ha 0 (by decide)
    have h1 := ha 1 (by decide)
    obtain ⟨u1, e1, g1⟩ := h.plain (fun h3 => he h3.2.2) (hpl i h0).2 (hpl i h0).1
    obtain ⟨u2, e2, g2⟩ := g1.plain (fun h3 => he h3.2.1) (hpl _ h1).2 (hpl _ h1).1
    refine ⟨u2, ?_, g2⟩
    rw [e1, e2, ← List.append_assoc, cut_add]
/-- The quotes that end a text. -/
theorem LnR.many {q : UInt8} {B : List UInt8} {i j r : Nat} {u : List UInt8} (h : LnR q B i j u) (hr : 3 ≤ r) (ha : ∀ k, k < r → pk B (i + k) = q) (he : pk B (i + r) ≠ q) (hj : pk B j ≠ q) :
    r ≤ 5 ∧ j = i + r ∧ u = List.replicate (r - 3) q := by
  obtain ⟨n, h1, rfl, rfl⟩ := h.quotes ⟨by have := ha 0 (by omega); rwa [Nat.add_zero] at this, ha 1 (by omega), ha 2 (by omega)⟩
  have key : r = n := by
    rcases h1 with ⟨rfl, g⟩ | ⟨rfl, g1, g2⟩ | ⟨rfl, g1, g2⟩
    · refine Classical.byContradiction fun hne => g (ha 3 (by omega))
    · refine Classical.byContradiction fun hne => ?_
      rcases Nat.lt_or_ge 4 r with h | h
      · exact g2 (ha 4 (by omega))
      · have : r = 3 := by omega
        subst this
        exact he g1
    · refine Classical.byContradiction fun hne => ?_
      rcases Nat.lt_or_ge 5 r with h | h
      · exact hj (ha 5 (by omega))
      · have : r = 3 ∨ r = 4 := by omega
        rcases this with rfl | rfl
        · exact he g1
        · exact he g2
  subst key
  refine ⟨?_, rfl, rfl⟩
  rcases h1 with ⟨h, _⟩ | ⟨h, _⟩ | ⟨h, _⟩ <;> omega
theorem cut_same {B : List UInt8} {i n : Nat} {q : UInt8} (h : ∀ k, k < n → pk B (i + k) = q) (hi : i + n ≤ B.length) : cutB B i n = List.replicate n q := by
  refine List.ext_getElem? fun k => ?_
  rcases Nat.lt_or_ge k n with hk | hk
  · rw [List.getElem?_replicate, if_pos hk]
    unfold cutB
    rw [List.getElem?_take_of_lt hk, List.getElem?_drop, List.getElem?_eq_getElem (by omega)]
    have := h k hk
    unfold pk at this
    rw [List.getD, List.getElem?_eq_getElem (by omega)] at this
    exact congrArg some this
  · rw [List.getElem?_eq_none (by rw [cut_len hi]; exact hk), List.getElem?_eq_none (by rw [List.length_replicate]; exact hk)]
theorem LnR.run {q : UInt8} {B : List UInt8} {i j : Nat} {u : List UInt8} (hq : q = 34 ∨ q = 39) (h : LnR q B i j u) : ∃ k, Rn B i k ∧ ∃ u', u = cutB B i (k - i) ++ u' ∧ LnR q B k j u' := by
  have hq0 : q ≠ 0 := by rcases hq with rfl | rfl <;> decide
  have hq8 : q.toNat < 128 := by rcases hq with rfl | rfl <;> decide
  induction h with
  | stop h1 h2 =>
    have := pk_in (B := B) (k := _) (by rw [h1.1]; exact hq0)
    exact ⟨_, .stop (Nat.le_of_lt this) (.inr (by rw [h1.1]; exact hq8)), _, by rw [Nat.sub_self]; rfl, .stop h1 h2⟩
  | cont h1 h2 h3 h4 h5 h6 h7 _ => exact ⟨_, .stop (Nat.le_of_lt h1) (.inr (by rw [h3]; decide)), _, by rw [Nat.sub_self]; rfl, .cont h1 h2 h3 h4 h5 h6 h7⟩
  | esc h1 h2 h3 h4 h5 h6 h7 _ => exact ⟨_, .stop (Nat.le_of_lt h1) (.inr (by rw [h3]; decide)), _, by rw [Nat.sub_self]; rfl, .esc h1 h2 h3 h4 h5 h6 h7⟩
  | nl h1 h2 h3 h4 h5 _ =>
    refine ⟨_, .stop (Nat.le_of_lt h1) (.inr ?_), _, by rw [Nat.sub_self]; rfl, .nl h1 h2 h3 h4 h5⟩
    rcases lnN_cases h4 with e | ⟨e, _⟩ <;> rw [e] <;> decide
  | sgn h1 h2 h3 h4 h5 h6 ih =>
    rename_i i j u
    rcases Nat.lt_or_ge (pk B i).toNat 128 with hp | hp
    · exact ⟨i, .stop (Nat.le_of_lt h1) (.inr hp), _, by rw [Nat.sub_self]; rfl, .sgn h1 h2 h3 h4 h5 h6⟩
    · have hs := sgN_high hp
      obtain ⟨k, g1, u', g2, g3⟩ := ih
      have hk := g1.lt.1
      refine ⟨k, .step h1 hp (by omega) (by rwa [← hs]), u', ?_, g3⟩
      rw [g2, ← List.append_assoc]
      have := cut_add B i (sgN B i) (k - (i + sgN B i))
      rw [show sgN B i + (k - (i + sgN B i)) = k - i by omega] at this
      rw [← this]
      rfl
end Go.Proofs.YtalmpddmhakdmaaGreat
