/-
  The walk of the library's long reader of numbers (the mantissa, the exponent, the sign) over a text with an exponent without a sign, without a sign ahead. Conditions: the text has the letters and the length that its bounds say.
-/
import Derived.Test.YtalmpddmhakdmaaDoorScope
import Derived.Test.YtalmpddmhakdmaaDoorSmall
namespace Go.Proofs.YtalmpddmhakdmaaDoor
open Go.RowKit
attribute [local go_sem] unary_neg_float' jump_normal jump_exit jump_ret jump_panic jump_goto

set_option maxRecDepth 100000 in
set_option maxHeartbeats 2000000 in
theorem read_expo0_false (s : ByteArray) (w : World) (t u : List UInt8) (hst : s = ⟨t.toArray⟩) (ht : t = u) (hn : t.length ≤ 18)
    (hok : ∀ c ∈ t, Pl.okC c = true) (hu : ∃ c r, u = c :: r ∧ Pl.isD c = true) (m nd : Nat) (dp : Int) (dot : Bool) (ex : List UInt8) (hs : Pl.rscan u 0 0 0 false = (m, nd, dp, dot, ex)) (hm : m ≤ 4294967295)
    (E R : Int) (hR : R = (if m = 0 then 0 else (if dot = true then dp else (nd : Int)) + E - nd)) (hx : ∃ (ds : List UInt8) (X : Nat), ex = 101 :: ([] ++ ds) ∧ ds ≠ [] ∧ (∀ c ∈ ds, Pl.isD c = true) ∧
        Pl.valL 0 ds = X ∧ X ≤ 1000 ∧ E = X) :
    Calls Tryd.prog 30 #[.string s] w fun e w' => e = .returned (.tuple #[.int .u64 m, .int .i64 R, .bool false, .bool false, .bool false, .int .i64 s.size, .bool true]) ∧ w = w' := by
  have hi0' : t.drop 0 = u := by rw [ht]; rfl
  have hsz : s.size = t.length := by rw [hst]; rfl
  have hlen : 0 + u.length = s.size := by
    rw [hsz, ht]
    simp
  have hn' : s.size ≤ 18 := by omega
  have HC : Hid (∀ (i : Nat) (c : UInt8), t[i]? = some c → ∃ h : i < s.size, s[i]'h = c) := by
    intro i c h
    subst hst
    obtain ⟨h1, h2⟩ := List.getElem?_eq_some_iff.1 h
    exact ⟨h1, h2⟩
  have HSZ := Lib.hid hsz
  have HOK := Lib.hid hok
  have HT := Lib.hid ht
  have HI' := Lib.hid hi0'
  have HS := Lib.hid hs
  have HX := Lib.hid hx
  have HR := Lib.hid hR
  obtain ⟨c0, r0, hu0, hc0⟩ := hu
  have HU := Lib.hid hu0
  have hc0' := Pl.isD_iff.1 hc0
  have HC0 := Lib.hid hc0
  have hulen : 0 < u.length := by rw [hu0]; simp
  clear hu0 hc0 ht hi0' hs hsz hst hok hn hx hR
  obtain ⟨hlt0, hg0⟩ := HC.out 0 c0 (by rw [HT.out, HU.out]; rfl)
  have e1 : ((c0.toNat : Int) == 43) = false := by simp; omega
  have e2 : ((c0.toNat : Int) == 45) = false := by simp; omega
  have hne : ¬ s = ByteArray.empty := by
    rintro rfl
    exact absurd hlt0 (by decide)
  go_enter Tryd.func30, Tryd.ntmps30
  go_wp2_with fail
  go_step3
  go_upto_region 12 with (fail)
  go_cut [54] (fun x wx => x = .bool false ∧ w = wx)
  case first =>
    by_cases h2 : 0 + 2 < s.size
    · by_cases h48 : c0.toNat = 48
      · have e48 : ((c0.toNat : Int) == 48) = true := by simp; omega
        clear h48
        have hlt1 : 0 + 1 < s.size := by omega
        have hx120 := lower_okC (c := s[0 + 1]'hlt1) (by
          obtain ⟨c1, hc1⟩ : ∃ c1, t[0 + 1]? = some c1 := ⟨t[0 + 1]'(by have := HSZ.out; omega), List.getElem?_eq_getElem _⟩
          obtain ⟨_, h⟩ := HC.out _ _ hc1
          rw [h]
          exact HOK.out c1 (List.mem_of_getElem? hc1))
        go_wp2_with (go_at_call 46; refine (lower_any _ _).mono ?_; rintro e w' ⟨rfl, rfl⟩)
        go_meet
        case rel => exact ⟨by simp, rfl⟩
      · have e48 : ((c0.toNat : Int) == 48) = false := by simp; omega
        go_wp2_with fail
        go_meet
        case rel => exact ⟨rfl, rfl⟩
    · go_wp2_with fail
      go_meet
      case rel => exact ⟨rfl, rfl⟩
  case rest =>
    obtain ⟨rfl, rfl⟩ := hcut
    go_wp2_with fail
    go_step3
    go_wp2_with fail
    go_loop [2, 5, 7, 9, 13, 14, 15, 16, 17] (fun mm tr i us sd sg nn nm pp => ∃ (k M N : Nat) (P : Int) (dt sb : Bool), 0 ≤ k ∧ k ≤ s.size ∧ N ≤ k ∧ -(k : Int) ≤ P ∧ P ≤ k ∧ Hid (Pl.rscan (t.drop k) M N P dt = (m, nd, dp, dot, ex)) ∧ Hid (sb = decide (0 < k)) ∧
        mm = .int .u64 M ∧ tr = .bool false ∧ i = .int .i64 k ∧ us = .bool false ∧ sd = .bool dt ∧ sg = .bool sb ∧ nn = .int .i64 N ∧ nm = .int .i64 N ∧ pp = .int .i64 P) (fun _ _ i _ _ _ _ _ _ => s.size - (intOf i).toNat)
    case atStart => exact ⟨0, 0, 0, 0, false, false, by omega, by omega, by omega, by omega, by omega, by rw [HI'.out]; exact HS, by simp [Hid], rfl, rfl, rfl, rfl, rfl, rfl, rfl, rfl, rfl⟩
    case round =>
      obtain ⟨k, M, N, P, dt, sb, hk0, hk, hNk, hP0, hP1, hsc, hsb, rfl, rfl, rfl, rfl, rfl, rfl, rfl, rfl, rfl⟩ := hrel
      obtain ⟨hM, hN⟩ := Pl.rscan_grows _ _ _ _ _ _ _ _ _ _ hsc.out
      cases hr : t.drop k with
      | nil =>
        have hsc' := hsc.out
        rw [hr, Pl.rscan] at hsc'
        have hk' : s.size ≤ k := by
          have := congrArg List.length hr
          rw [List.length_drop] at this
          have h2 := HSZ.out
          simp at this
          omega
        obtain rfl : k = s.size := by omega
        simp only [Prod.mk.injEq] at hsc'
        obtain ⟨rfl, rfl, rfl, rfl, rfl⟩ := hsc'
        have hsb' : sb = true := by rw [hsb.out]; simp; omega
        subst hsb'
        clear hr hk' hsb hsc
        obtain ⟨ds, X, he, _⟩ := HX.out
        cases he
      | cons c rr =>
        obtain ⟨hltt, hget, hdrop⟩ := Pl.drop_cons hr
        obtain ⟨hlt, hcell⟩ := HC.out k c hget
        have hok : Pl.okC c = true := HOK.out c (List.mem_of_getElem? hget)
        have HDR := Lib.hid hdrop
        have hsc' := hsc.out
        rw [hr] at hsc'
        clear hr hget hdrop hsc hltt
        by_cases hcd : Pl.isD c = true
        · have hcb := Pl.isD_iff.1 hcd
          have e95 : ((c.toNat : Int) == 95) = false := by simp; omega
          have e46 : ((c.toNat : Int) == 46) = false := by simp; omega
          by_cases h48 : c = 48
          · subst h48
            by_cases hN0 : N = 0
            · subst hN0
              rw [Pl.rscan_nought] at hsc'
              have HSC := Lib.hid hsc'
              clear hsc' hcd hok e95 e46 hcb
              go_wp2_with fail
              go_round
              case rel => exact ⟨k + 1, M, 0, P - 1, dt, true, by omega, by omega, by omega, by omega, by omega, by rw [HDR.out]; exact HSC, by simp [Hid] <;> omega, rfl, rfl, by go_num, rfl, rfl, rfl, rfl, rfl, rfl⟩
              case measure => simp [intOf]; omega
            · rw [Pl.rscan_digit hcd (fun h => hN0 h.2)] at hsc'
              have HSC : Hid (Pl.rscan rr (M * 10 + 0) (N + 1) P dt = (m, nd, dp, dot, ex)) := hsc'
              have en0 : ((N : Int) == 0) = false := by simp; omega
              clear hsc' hcd hok e95 e46 hcb hN0
              go_wp2_with fail
              go_round
              case rel => exact ⟨k + 1, M * 10 + 0, N + 1, P, dt, true, by omega, by omega, by omega, by omega, by omega, by rw [HDR.out]; exact HSC, by simp [Hid] <;> omega, by go_num, rfl, by go_num, rfl, rfl, rfl, by go_num, by go_num, rfl⟩
              case measure => simp [intOf]; omega
          · rw [Pl.rscan_digit hcd (fun h => h48 h.1)] at hsc'
            have HSC := Lib.hid hsc'
            have e48 : ((c.toNat : Int) == 48) = false := by
              have : c.toNat ≠ 48 := fun e => h48 (UInt8.toNat_inj.1 e)
              simp
              omega
            clear hsc' hcd hok h48
            go_wp2_with fail
            go_round
            case rel => exact ⟨k + 1, M * 10 + (c.toNat - 48), N + 1, P, dt, true, by omega, by omega, by omega, by omega, by omega, by rw [HDR.out]; exact HSC, by simp [Hid] <;> omega, by go_num, rfl, by go_num, rfl, rfl, rfl, by go_num, by go_num, rfl⟩
            case measure => simp [intOf]; omega
        · by_cases hdot : c = 46
          · subst hdot
            rw [Pl.rscan_dot] at hsc'
            cases dt
            · have HSC : Hid (Pl.rscan rr M N N true = (m, nd, dp, dot, ex)) := hsc'
              have hsb0 : 0 < k := by
                rcases Nat.lt_or_ge 0 k with h | h
                · exact h
                · obtain rfl : k = 0 := by omega
                  rw [hg0] at hcell
                  subst hcell
                  exact absurd HC0.out (by decide)
              have hsb' : sb = true := by rw [hsb.out]; simpa using hsb0
              subst hsb'
              clear hsc' hcd hok
              go_wp2_with fail
              go_round
              case rel => exact ⟨k + 1, M, N, N, true, true, by omega, by omega, by omega, by omega, by omega, by rw [HDR.out]; exact HSC, by simp [Hid] <;> omega, rfl, rfl, by go_num, rfl, rfl, rfl, rfl, rfl, rfl⟩
              case measure => simp [intOf]; omega
            · simp only [if_true, Prod.mk.injEq] at hsc'
              obtain ⟨_, _, _, _, he⟩ := hsc'
              obtain ⟨ds, X, hv, _⟩ := HX.out
              rw [← he] at hv
              cases hv
          · have hcd' : Pl.isD c = false := by simpa using hcd
            rw [Pl.rscan_stop hcd' hdot] at hsc'
            simp only [Prod.mk.injEq] at hsc'
            obtain ⟨rfl, rfl, rfl, rfl, he⟩ := hsc'
            have hsb0 : 0 < k := by
              rcases Nat.lt_or_ge 0 k with h | h
              · exact h
              · obtain rfl : k = 0 := by omega
                rw [hg0] at hcell
                subst hcell
                exact absurd HC0.out (by rw [hcd']; decide)
            have hsb' : sb = true := by rw [hsb.out]; simpa using hsb0
            subst hsb'
            clear hcd hcd' hdot hok hsb hc0' e1 e2 hg0
            obtain ⟨ds, X, hv, hne, hds, hX, hX1, hE⟩ := HX.out
            rw [← he] at hv
            injection hv with hv1 hv2
            subst hv1
            clear he HX
            have hrest : t.drop (k + 1) = [] ++ ds := by rw [HDR.out, hv2]
            clear hv2 HDR
            obtain ⟨d1, ds', hds1⟩ := List.exists_cons_of_ne_nil hne
            have hd1b := Pl.isD_iff.1 (hds d1 (by rw [hds1]; simp))
            have hdk : t.drop (k + 1) = ds := by
              rw [show k + 1 = k + 1 + 0 from rfl, ← List.drop_drop, hrest]
              rfl
            have hk1g : t[k + 1]? = some d1 := (Pl.drop_cons (hdk.trans hds1)).2.1
            obtain ⟨hk1len, hk1c⟩ := HC.out _ _ hk1g
            have q1 : ((d1.toNat : Int) == 43) = false := by simp; omega
            have q2 : ((d1.toNat : Int) == 45) = false := by simp; omega
            have b1 : decide ((d1.toNat : Int) < 48) = false := by simp; omega
            have b2 : decide (57 < (d1.toNat : Int)) = false := by simp; omega
            have b3 : decide (s.size ≤ k + 1) = false := by simp; omega
            have HE := Lib.hid hE
            have HDK := Lib.hid hdk
            have HX' := Lib.hid hX
            have HDS := Lib.hid hds
            clear hdk hX hrest hds hds1 hE hne hk1g
            have hl101 : bits .or .u8 101 32 = 101 := by decide +kernel
            cases dt
            · go_wp2_with (go_at_call 46; refine (lower_any _ _).mono ?_; rintro e w' ⟨rfl, rfl⟩)
              go_loop [7, 9, 20] (fun i us ev => ∃ (j V : Nat), j ≤ s.size ∧ i = .int .i64 j ∧ us = .bool false ∧ ev = .int .i64 V ∧ k ≤ j ∧ Hid (Pl.valL V (t.drop j) = X) ∧ Hid (∀ c ∈ t.drop j, Pl.isD c = true)) (fun i _ _ => s.size - (intOf i).toNat)
              case atStart => exact ⟨k + 1, 0, by omega, by go_num, rfl, rfl, by omega, by rw [HDK.out]; exact HX', by rw [HDK.out]; exact HDS⟩
              case round =>
                obtain ⟨j, V, hj, rfl, rfl, rfl, hkj, hval, hdig⟩ := hrel
                have hVX : V ≤ X := by rw [← hval.out]; exact Pl.valL_le _ _
                cases hr : t.drop j with
                | nil =>
                  have hj' : s.size ≤ j := by
                    have := congrArg List.length hr
                    rw [List.length_drop] at this
                    have h2 := HSZ.out
                    simp at this
                    omega
                  obtain rfl : j = s.size := by omega
                  have hV : V = X := by have := hval.out; rw [hr] at this; exact this
                  subst hV
                  clear hr hj' hval hdig HDK HX' HDS
                  obtain rfl := HE.out
                  clear HE
                  by_cases hM0 : M = 0
                  · subst hM0
                    obtain rfl : R = 0 := by
                      have h := HR.out
                      rw [if_pos rfl] at h
                      omega
                    clear HR
                    go_wp2_with fail
                    refine bodyPost_ret (results_tmp7 rfl _ _ _) rfl ⟨?_, rfl⟩
                    rfl
                  · have hM0' : ((M : Int) != 0) = true := by simp; omega
                    obtain rfl : R = (N : Int) + V - N := by
                      have h := HR.out
                      rw [if_neg hM0] at h
                      simp only [Bool.false_eq_true, if_false] at h
                      omega
                    clear HR
                    go_wp2_with fail
                    refine bodyPost_ret (results_tmp7 rfl _ _ _) rfl ⟨?_, rfl⟩
                    rfl
                | cons c rr =>
                  obtain ⟨_, hget, hdrop⟩ := Pl.drop_cons hr
                  obtain ⟨hlt, hcl⟩ := HC.out j c hget
                  have hcb := Pl.isD_iff.1 (hdig.out c (by rw [hr]; simp))
                  have e95 : ((c.toNat : Int) == 95) = false := by simp; omega
                  have hval' : Hid (Pl.valL (V * 10 + (c.toNat - 48)) (t.drop (j + 1)) = X) := by
                    have := hval.out
                    rw [hr, Pl.valL_cons] at this
                    show _ = _
                    rw [hdrop]
                    exact this
                  have hdig' : Hid (∀ c ∈ t.drop (j + 1), Pl.isD c = true) := by
                    intro x hx
                    exact hdig.out x (by rw [hr]; rw [hdrop] at hx; simp [hx])
                  have hV2 : V * 10 + (c.toNat - 48) ≤ X := by rw [← hval'.out]; exact Pl.valL_le _ _
                  clear hr hget hdrop hval hdig
                  go_wp2_with fail
                  go_round
                  case rel => exact ⟨j + 1, V * 10 + (c.toNat - 48), by omega, by go_num, rfl, by go_num, by omega, hval', hdig'⟩
                  case measure => simp [intOf]; omega
            · go_wp2_with (go_at_call 46; refine (lower_any _ _).mono ?_; rintro e w' ⟨rfl, rfl⟩)
              go_loop [7, 9, 20] (fun i us ev => ∃ (j V : Nat), j ≤ s.size ∧ i = .int .i64 j ∧ us = .bool false ∧ ev = .int .i64 V ∧ k ≤ j ∧ Hid (Pl.valL V (t.drop j) = X) ∧ Hid (∀ c ∈ t.drop j, Pl.isD c = true)) (fun i _ _ => s.size - (intOf i).toNat)
              case atStart => exact ⟨k + 1, 0, by omega, by go_num, rfl, rfl, by omega, by rw [HDK.out]; exact HX', by rw [HDK.out]; exact HDS⟩
              case round =>
                obtain ⟨j, V, hj, rfl, rfl, rfl, hkj, hval, hdig⟩ := hrel
                have hVX : V ≤ X := by rw [← hval.out]; exact Pl.valL_le _ _
                cases hr : t.drop j with
                | nil =>
                  have hj' : s.size ≤ j := by
                    have := congrArg List.length hr
                    rw [List.length_drop] at this
                    have h2 := HSZ.out
                    simp at this
                    omega
                  obtain rfl : j = s.size := by omega
                  have hV : V = X := by have := hval.out; rw [hr] at this; exact this
                  subst hV
                  clear hr hj' hval hdig HDK HX' HDS
                  obtain rfl := HE.out
                  clear HE
                  by_cases hM0 : M = 0
                  · subst hM0
                    obtain rfl : R = 0 := by
                      have h := HR.out
                      rw [if_pos rfl] at h
                      omega
                    clear HR
                    go_wp2_with fail
                    refine bodyPost_ret (results_tmp7 rfl _ _ _) rfl ⟨?_, rfl⟩
                    rfl
                  · have hM0' : ((M : Int) != 0) = true := by simp; omega
                    obtain rfl : R = P + V - N := by
                      have h := HR.out
                      rw [if_neg hM0] at h
                      simp only [if_true] at h
                      omega
                    clear HR
                    go_wp2_with fail
                    refine bodyPost_ret (results_tmp7 rfl _ _ _) rfl ⟨?_, rfl⟩
                    rfl
                | cons c rr =>
                  obtain ⟨_, hget, hdrop⟩ := Pl.drop_cons hr
                  obtain ⟨hlt, hcl⟩ := HC.out j c hget
                  have hcb := Pl.isD_iff.1 (hdig.out c (by rw [hr]; simp))
                  have e95 : ((c.toNat : Int) == 95) = false := by simp; omega
                  have hval' : Hid (Pl.valL (V * 10 + (c.toNat - 48)) (t.drop (j + 1)) = X) := by
                    have := hval.out
                    rw [hr, Pl.valL_cons] at this
                    show _ = _
                    rw [hdrop]
                    exact this
                  have hdig' : Hid (∀ c ∈ t.drop (j + 1), Pl.isD c = true) := by
                    intro x hx
                    exact hdig.out x (by rw [hr]; rw [hdrop] at hx; simp [hx])
                  have hV2 : V * 10 + (c.toNat - 48) ≤ X := by rw [← hval'.out]; exact Pl.valL_le _ _
                  clear hr hget hdrop hval hdig
                  go_wp2_with fail
                  go_round
                  case rel => exact ⟨j + 1, V * 10 + (c.toNat - 48), by omega, by go_num, rfl, by go_num, by omega, hval', hdig'⟩
                  case measure => simp [intOf]; omega

end Go.Proofs.YtalmpddmhakdmaaDoor
