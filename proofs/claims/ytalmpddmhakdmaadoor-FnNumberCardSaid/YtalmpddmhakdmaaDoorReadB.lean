/-
  The walk of the library's long reader of numbers (the mantissa, the exponent, the sign) over a text without an exponent, with a minus ahead. Conditions: the text has the letters and the length that its bounds say.
-/
import Derived.Test.YtalmpddmhakdmaaDoorScope
import Derived.Test.YtalmpddmhakdmaaDoorSmall
namespace Go.Proofs.YtalmpddmhakdmaaDoor
open Go.RowKit
attribute [local go_sem] unary_neg_float' jump_normal jump_exit jump_ret jump_panic jump_goto

set_option maxRecDepth 100000 in
set_option maxHeartbeats 2000000 in
theorem read_nil_true (s : ByteArray) (w : World) (t u : List UInt8) (hst : s = ⟨t.toArray⟩) (ht : t = 45 :: u) (hn : t.length ≤ 18)
    (hok : ∀ c ∈ t, Pl.okC c = true) (hu : ∃ c r, u = c :: r ∧ Pl.isD c = true) (m nd : Nat) (dp : Int) (dot : Bool) (ex : List UInt8) (hs : Pl.rscan u 0 0 0 false = (m, nd, dp, dot, ex)) (hm : m ≤ 4294967295)
    (E R : Int) (hR : R = (if m = 0 then 0 else (if dot = true then dp else (nd : Int)) + E - nd)) (hx : ex = [] ∧ E = 0) :
    Calls Tryd.prog 30 #[.string s] w fun e w' => e = .returned (.tuple #[.int .u64 m, .int .i64 R, .bool true, .bool false, .bool false, .int .i64 s.size, .bool true]) ∧ w = w' := by
  have hi0' : t.drop 1 = u := by rw [ht]; rfl
  have hsz : s.size = t.length := by rw [hst]; rfl
  have hlen : 1 + u.length = s.size := by
    rw [hsz, ht]
    simp; omega
  have hn' : s.size ≤ 18 := by omega
  have HC : Hid (∀ (i : Nat) (c : UInt8), t[i]? = some c → ∃ h : i < s.size, s[i]'h = c) := by
    intro i c h
    subst hst
    obtain ⟨h1, h2⟩ := List.getElem?_eq_some_iff.1 h
    exact ⟨h1, h2⟩
  have HSZ := Lib.hid hsz
  have HOK := Lib.hid hok
  have HT := Lib.hid ht
  have HI' := Lib.hid hi0'
  have HS := Lib.hid hs
  have HX := Lib.hid hx
  have HR := Lib.hid hR
  obtain ⟨c0, r0, hu0, hc0⟩ := hu
  have HU := Lib.hid hu0
  have hc0' := Pl.isD_iff.1 hc0
  have HC0 := Lib.hid hc0
  have hulen : 0 < u.length := by rw [hu0]; simp
  clear hu0 hc0 ht hi0' hs hsz hst hok hn hx hR
  obtain ⟨hlt0, hg0⟩ := HC.out 1 c0 (by rw [HT.out, HU.out]; rfl)
  obtain ⟨hlts, hgs⟩ := HC.out 0 45 (by rw [HT.out]; rfl)
  have e1 : ((c0.toNat : Int) == 43) = false := by simp; omega
  have e2 : ((c0.toNat : Int) == 45) = false := by simp; omega
  have hne : ¬ s = ByteArray.empty := by
    rintro rfl
    exact absurd hlt0 (by decide)
  go_enter Tryd.func30, Tryd.ntmps30
  go_wp2_with fail
  go_step3
  go_upto_region 12 with (fail)
  go_cut [54] (fun x wx => x = .bool false ∧ w = wx)
  case first =>
    by_cases h2 : 1 + 2 < s.size
    · by_cases h48 : c0.toNat = 48
      · have e48 : ((c0.toNat : Int) == 48) = true := by simp; omega
        clear h48
        have hlt1 : 1 + 1 < s.size := by omega
        have hx120 := lower_okC (c := s[1 + 1]'hlt1) (by
          obtain ⟨c1, hc1⟩ : ∃ c1, t[1 + 1]? = some c1 := ⟨t[1 + 1]'(by have := HSZ.out; omega), List.getElem?_eq_getElem _⟩
          obtain ⟨_, h⟩ := HC.out _ _ hc1
          rw [h]
          exact HOK.out c1 (List.mem_of_getElem? hc1))
        go_wp2_with (go_at_call 46; refine (lower_any _ _).mono ?_; rintro e w' ⟨rfl, rfl⟩)
        go_meet
        case rel => exact ⟨by simp, rfl⟩
      · have e48 : ((c0.toNat : Int) == 48) = false := by simp; omega
        go_wp2_with fail
        go_meet
        case rel => exact ⟨rfl, rfl⟩
    · go_wp2_with fail
      go_meet
      case rel => exact ⟨rfl, rfl⟩
  case rest =>
    obtain ⟨rfl, rfl⟩ := hcut
    go_wp2_with fail
    go_step3
    go_wp2_with fail
    go_loop [2, 5, 7, 9, 13, 14, 15, 16, 17] (fun mm tr i us sd sg nn nm pp => ∃ (k M N : Nat) (P : Int) (dt sb : Bool), 1 ≤ k ∧ k ≤ s.size ∧ N ≤ k ∧ -(k : Int) ≤ P ∧ P ≤ k ∧ Hid (Pl.rscan (t.drop k) M N P dt = (m, nd, dp, dot, ex)) ∧ Hid (sb = decide (1 < k)) ∧
        mm = .int .u64 M ∧ tr = .bool false ∧ i = .int .i64 k ∧ us = .bool false ∧ sd = .bool dt ∧ sg = .bool sb ∧ nn = .int .i64 N ∧ nm = .int .i64 N ∧ pp = .int .i64 P) (fun _ _ i _ _ _ _ _ _ => s.size - (intOf i).toNat)
    case atStart => exact ⟨1, 0, 0, 0, false, false, by omega, by omega, by omega, by omega, by omega, by rw [HI'.out]; exact HS, by simp [Hid], rfl, rfl, rfl, rfl, rfl, rfl, rfl, rfl, rfl⟩
    case round =>
      obtain ⟨k, M, N, P, dt, sb, hk0, hk, hNk, hP0, hP1, hsc, hsb, rfl, rfl, rfl, rfl, rfl, rfl, rfl, rfl, rfl⟩ := hrel
      obtain ⟨hM, hN⟩ := Pl.rscan_grows _ _ _ _ _ _ _ _ _ _ hsc.out
      cases hr : t.drop k with
      | nil =>
        have hsc' := hsc.out
        rw [hr, Pl.rscan] at hsc'
        have hk' : s.size ≤ k := by
          have := congrArg List.length hr
          rw [List.length_drop] at this
          have h2 := HSZ.out
          simp at this
          omega
        obtain rfl : k = s.size := by omega
        simp only [Prod.mk.injEq] at hsc'
        obtain ⟨rfl, rfl, rfl, rfl, rfl⟩ := hsc'
        have hsb' : sb = true := by rw [hsb.out]; simp; omega
        subst hsb'
        clear hr hk' hsb hsc
        obtain ⟨_, rfl⟩ := HX.out
        clear HX
        cases dt
        · by_cases hM0 : M = 0
          · subst hM0
            obtain rfl : R = 0 := by
              have h := HR.out
              rw [if_pos rfl] at h
              omega
            clear HR
            go_wp2_with fail
            refine bodyPost_ret (results_tmp7 rfl _ _ _) rfl ⟨?_, rfl⟩
            rfl
          · have hM0' : ((M : Int) != 0) = true := by simp; omega
            obtain rfl : R = 0 := by
              have h := HR.out
              rw [if_neg hM0] at h
              simp only [Bool.false_eq_true, if_false] at h
              omega
            clear HR
            go_wp2_with fail
            refine bodyPost_ret (results_tmp7 rfl _ _ _) rfl ⟨?_, rfl⟩
            rfl
        · by_cases hM0 : M = 0
          · subst hM0
            obtain rfl : R = 0 := by
              have h := HR.out
              rw [if_pos rfl] at h
              omega
            clear HR
            go_wp2_with fail
            refine bodyPost_ret (results_tmp7 rfl _ _ _) rfl ⟨?_, rfl⟩
            rfl
          · have hM0' : ((M : Int) != 0) = true := by simp; omega
            obtain rfl : R = P - N := by
              have h := HR.out
              rw [if_neg hM0] at h
              simp only [if_true] at h
              omega
            clear HR
            go_wp2_with fail
            refine bodyPost_ret (results_tmp7 rfl _ _ _) rfl ⟨?_, rfl⟩
            rfl

      | cons c rr =>
        obtain ⟨hltt, hget, hdrop⟩ := Pl.drop_cons hr
        obtain ⟨hlt, hcell⟩ := HC.out k c hget
        have hok : Pl.okC c = true := HOK.out c (List.mem_of_getElem? hget)
        have HDR := Lib.hid hdrop
        have hsc' := hsc.out
        rw [hr] at hsc'
        clear hr hget hdrop hsc hltt
        by_cases hcd : Pl.isD c = true
        · have hcb := Pl.isD_iff.1 hcd
          have e95 : ((c.toNat : Int) == 95) = false := by simp; omega
          have e46 : ((c.toNat : Int) == 46) = false := by simp; omega
          by_cases h48 : c = 48
          · subst h48
            by_cases hN0 : N = 0
            · subst hN0
              rw [Pl.rscan_nought] at hsc'
              have HSC := Lib.hid hsc'
              clear hsc' hcd hok e95 e46 hcb
              go_wp2_with fail
              go_round
              case rel => exact ⟨k + 1, M, 0, P - 1, dt, true, by omega, by omega, by omega, by omega, by omega, by rw [HDR.out]; exact HSC, by simp [Hid] <;> omega, rfl, rfl, by go_num, rfl, rfl, rfl, rfl, rfl, rfl⟩
              case measure => simp [intOf]; omega
            · rw [Pl.rscan_digit hcd (fun h => hN0 h.2)] at hsc'
              have HSC : Hid (Pl.rscan rr (M * 10 + 0) (N + 1) P dt = (m, nd, dp, dot, ex)) := hsc'
              have en0 : ((N : Int) == 0) = false := by simp; omega
              clear hsc' hcd hok e95 e46 hcb hN0
              go_wp2_with fail
              go_round
              case rel => exact ⟨k + 1, M * 10 + 0, N + 1, P, dt, true, by omega, by omega, by omega, by omega, by omega, by rw [HDR.out]; exact HSC, by simp [Hid] <;> omega, by go_num, rfl, by go_num, rfl, rfl, rfl, by go_num, by go_num, rfl⟩
              case measure => simp [intOf]; omega
          · rw [Pl.rscan_digit hcd (fun h => h48 h.1)] at hsc'
            have HSC := Lib.hid hsc'
            have e48 : ((c.toNat : Int) == 48) = false := by
              have : c.toNat ≠ 48 := fun e => h48 (UInt8.toNat_inj.1 e)
              simp
              omega
            clear hsc' hcd hok h48
            go_wp2_with fail
            go_round
            case rel => exact ⟨k + 1, M * 10 + (c.toNat - 48), N + 1, P, dt, true, by omega, by omega, by omega, by omega, by omega, by rw [HDR.out]; exact HSC, by simp [Hid] <;> omega, by go_num, rfl, by go_num, rfl, rfl, rfl, by go_num, by go_num, rfl⟩
            case measure => simp [intOf]; omega
        · by_cases hdot : c = 46
          · subst hdot
            rw [Pl.rscan_dot] at hsc'
            cases dt
            · have HSC : Hid (Pl.rscan rr M N N true = (m, nd, dp, dot, ex)) := hsc'
              have hsb0 : 1 < k := by
                rcases Nat.lt_or_ge 1 k with h | h
                · exact h
                · obtain rfl : k = 1 := by omega
                  rw [hg0] at hcell
                  subst hcell
                  exact absurd HC0.out (by decide)
              have hsb' : sb = true := by rw [hsb.out]; simpa using hsb0
              subst hsb'
              clear hsc' hcd hok
              go_wp2_with fail
              go_round
              case rel => exact ⟨k + 1, M, N, N, true, true, by omega, by omega, by omega, by omega, by omega, by rw [HDR.out]; exact HSC, by simp [Hid] <;> omega, rfl, rfl, by go_num, rfl, rfl, rfl, rfl, rfl, rfl⟩
              case measure => simp [intOf]; omega
            · simp only [if_true, Prod.mk.injEq] at hsc'
              obtain ⟨_, _, _, _, he⟩ := hsc'
              rw [HX.out.1] at he
              cases he
          · have hcd' : Pl.isD c = false := by simpa using hcd
            rw [Pl.rscan_stop hcd' hdot] at hsc'
            simp only [Prod.mk.injEq] at hsc'
            obtain ⟨rfl, rfl, rfl, rfl, he⟩ := hsc'
            have := HX.out.1
            rw [← he] at this
            cases this
end Go.Proofs.YtalmpddmhakdmaaDoor
