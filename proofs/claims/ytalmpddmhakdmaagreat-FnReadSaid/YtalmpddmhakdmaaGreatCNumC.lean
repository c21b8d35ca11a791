/-
  The walk of a function of the spec's parser: a number, a date or a time; its ways that read figures of ten or a word. Conditions: the parser lies in memory as stated.
-/
import Derived.Test.YtalmpddmhakdmaaGreatCJ07
import Derived.Deep.RegionHeld3
namespace Go.Proofs.YtalmpddmhakdmaaGreat
open Go.RowKit

theorem grouped_ten {w : World} {pb : Nat} {a : Addr} {C : Nat} {B : List UInt8} {k : Nat} {st : Int} (hS : SP w pb a C B k st) (n : Int) (i : Nat) (hi : (k : Int) + n = i) (hn : 0 ≤ n ∧ n ≤ 70000) (hi2 : i ≤ 70000) :
    Calls Tryz.prog 54 #[.pointer (some ⟨pb, 0, none⟩), .int .i64 n, .int .i64 10] w fun e w' => ∃ g : Nat, e = .returned (.int .i64 g) ∧ g ≤ 70000 ∧ (g ≠ 0 → GrpR B 10 i (i + g)) ∧ ∃ m, w' = w.drewN m :=
  grouped_any hS n i 10 hi hn hi2 (by decide)
theorem grp_lt {B : List UInt8} {base i e : Nat} (h : GrpR B base i e) : i < e := (grp_in h).1
/-- A point with figures behind it, or none. -/
def FracR (B : List UInt8) (e1 e2 : Nat) (kd : Int) : Prop := (pk B e1 ≠ 46 ∧ e2 = e1 ∧ kd = 1) ∨ (pk B e1 = 46 ∧ GrpR B 10 (e1 + 1) e2 ∧ kd = 2)
/-- The letter of a power stands at a place. -/
def ExpC (B : List UInt8) (e2 : Nat) : Prop := pk B e2 = 101 ∨ pk B e2 = 69
/-- How many signs a power's letter and sign have. -/
def ExpS (B : List UInt8) (e2 m : Nat) : Prop := (m = 2 ∧ (pk B (e2 + 1) = 43 ∨ pk B (e2 + 1) = 45)) ∨ (m = 1 ∧ pk B (e2 + 1) ≠ 43 ∧ pk B (e2 + 1) ≠ 45)
/-- Whether a sign stands at a place. -/
def SgT (B : List UInt8) (i : Nat) (t : Bool) : Prop := (t = true → (pk B i = 43 ∨ pk B i = 45)) ∧ (t = false → ¬ (pk B i = 43 ∨ pk B i = 45))
theorem sg_le {B : List UInt8} {k s : Nat} (h : SgR B k s) (hk : k ≤ B.length) : s ≤ 1 ∧ k + s ≤ B.length := by
  rcases h with ⟨h1, h2⟩ | ⟨h1, _⟩
  · have : k < B.length := pk_in (by rcases h2 with h | h <;> rw [h] <;> decide)
    omega
  · omega
theorem num_dec {B : List UInt8} {k s e1 e2 e3 : Nat} {kd kd3 : Int} (hs : SgR B k s) (h1 : GrpR B 10 (k + s) e1) (h48 : pk B (k + s) = 48 → e1 = k + s + 1)
    (h2 : FracR B e1 e2 kd) (h3 : (¬ ExpC B e2 ∧ e3 = e2 ∧ kd3 = kd) ∨ (ExpC B e2 ∧ ∃ m, ExpS B e2 m ∧ GrpR B 10 (e2 + m) e3 ∧ kd3 = 2)) :
    NumR B k (e3 - k) kd3 ∧ k < e3 := by
  have l1 := grp_lt h1
  have l2 : e1 ≤ e2 ∧ (e2 = e1 ∨ kd = 2) := by
    rcases h2 with ⟨_, h, _⟩ | ⟨_, h, hk⟩
    · exact ⟨by omega, .inl h⟩
    · have := grp_lt h
      exact ⟨by omega, .inr hk⟩
  have l3 : e2 ≤ e3 := by
    rcases h3 with ⟨_, h, _⟩ | ⟨_, m, _, h, _⟩
    · omega
    · have := grp_lt h
      omega
  have hd : DecR B (k + s) (e3 - (k + s)) kd3 := by
    refine ⟨e1, e2, e3, h1, h48, ?_, ?_, by omega, ?_⟩
    · rcases h2 with ⟨a, b, _⟩ | ⟨a, b, _⟩
      · exact .inl ⟨a, b⟩
      · exact .inr ⟨a, b⟩
    · rcases h3 with ⟨a, c, _⟩ | ⟨a, m, b, c, _⟩
      · exact .inl ⟨fun h => a (.inl h), fun h => a (.inr h), c⟩
      · exact .inr ⟨a, m, b, c⟩
    · rcases h3 with ⟨_, c, d⟩ | ⟨_, m, hm, c, d⟩
      · rcases h2 with ⟨_, b, e⟩ | ⟨_, b, e⟩
        · rw [if_pos (by omega), d, e]
        · have := grp_lt b
          rw [if_neg (by omega), d, e]
      · have := grp_lt c
        rw [if_neg (by omega), d]
  have h := NumR.dec hs hd (by omega)
  rw [show s + (e3 - (k + s)) = e3 - k by omega] at h
  exact ⟨h, by omega⟩

/-- The words of numbers that are none. -/
abbrev ZW : Obj := .cells #[.string ⟨#[105, 110, 102]⟩, .string ⟨#[110, 97, 110]⟩] 9
theorem hasB_abc {B : List UInt8} {k : Nat} (x y z : UInt8) (hz : z ≠ 0) : hasB B k ⟨#[x, y, z]⟩ = (pk B k == x && pk B (k + 1) == y && pk B (k + 2) == z) := by
  unfold hasB
  have e2 : (⟨#[x, y, z]⟩ : ByteArray).size = 3 := rfl
  have e3 : (⟨#[x, y, z]⟩ : ByteArray).toList = [x, y, z] := ByteArray.toList_mk [x, y, z]
  rw [ByteArray.toList_mk, e2, e3]
  rcases Nat.lt_or_ge (k + 2) B.length with h | h
  · rw [decide_eq_true (by omega), Bool.true_and, drop_pk (by omega : k < B.length), drop_pk (by omega : k + 1 < B.length), drop_pk h]
    simp [Bool.and_assoc]
  · rw [decide_eq_false (by omega), Bool.false_and]
    have : pk B (k + 2) = 0 := by simp [pk, List.getD, List.getElem?_eq_none h]
    rw [this, beq_eq_false_iff_ne.2 (Ne.symm hz), Bool.and_false]
theorem hasw {w : World} {pb : Nat} {a : Addr} {C : Nat} {B : List UInt8} {k : Nat} {st : Int} (hS : SP w pb a C B k st) (x y z : UInt8) (hz : z ≠ 0) (v : Bool) (hv : (pk B k == x && pk B (k + 1) == y && pk B (k + 2) == z) = v) :
    Calls Tryz.prog 10 #[.pointer (some ⟨pb, 0, none⟩), .string ⟨#[x, y, z]⟩] w fun e w' => e = .returned (.bool v) ∧ ∃ m, w' = w.drewN m := by
  have h := has_in hS ⟨#[x, y, z]⟩ (show 3 ≤ 100 by decide) (show 0 < 3 by decide)
  rw [hasB_abc x y z hz, hv] at h
  exact h
/-- A parser of the same text at another place, in a new block. -/
theorem SP.boxed {w : World} {pb : Nat} {a : Addr} {C : Nat} {B : List UInt8} {k : Nat} {st : Int} (hS : SP w pb a C B k st) (hB : B ≠ []) (k' : Nat) (hk : k' ≤ 70000) (n : Nat) (hn : w.heap.size = n) (t : TypeId) : SP (w.alloc (.cells #[.slice (some a) B.length C, .int .i64 k', .int .i64 0] t)) n a C B k' 0 := by
  subst hn
  have hf : ∀ j, (w.alloc (.cells #[.slice (some a) B.length C, .int .i64 k', .int .i64 0] t)).frozen? ⟨w.heap.size, j, none⟩ = false := by
    intro j
    have hh : (w.alloc (.cells #[.slice (some a) B.length C, .int .i64 k', .int .i64 0] t)).heap[w.heap.size]? = some (.cells #[.slice (some a) B.length C, .int .i64 k', .int .i64 0] t (0, 0)) := by
      show (w.heap.push _)[w.heap.size]? = _
      simp
    unfold World.frozen?
    rw [hh]
    simp
  refine ⟨by rw [cell_marked]; rfl, by rw [cell_marked]; rfl, by rw [cell_marked]; rfl, hf 1, hf 2, ?_, hS.len, hk, hS.cap, (hS.alloc _).data⟩
  have := hS.in_heap.2 hB
  omega
theorem word_cell {wf wx : World} {pb : Nat} (hg : Gr (wf.alloc ZW) wx pb) (hp : pb < wf.heap.size) : wx.cell? ⟨wf.heap.size, 1, none⟩ = some (.string ⟨#[110, 97, 110]⟩) := by
  have hb : wx.heap[wf.heap.size]? = (wf.alloc ZW).heap[wf.heap.size]? := hg.block _ (by simp) (by intro e; injection e with e; omega)
  rw [World.cell?_of_block (w := wf.alloc ZW) hb, cell_marked]
  rfl

set_option maxRecDepth 100000 in
set_option maxHeartbeats 4000000 in
theorem number_word {w : World} {pb : Nat} {a : Addr} {C : Nat} {B : List UInt8} {k : Nat} {st : Int} (hS : SP w pb a C B k st) (hk : k ≤ B.length) (hB : B ≠ []) (hd : ¬ dayB B k) (hh : ¬ hourB B k) (hnr : ∀ d, radB d ≠ 0 → (pk B k == 48 && pk B (k + 1) == d) = false) (hyw : ∀ s, SgR B k s → ((pk B (k + s) == 105 && pk B (k + s + 1) == 110 && pk B (k + s + 2) == 102) || (pk B (k + s) == 110 && pk B (k + s + 1) == 97 && pk B (k + s + 2) == 110)) = true) :
    Calls Tryz.prog 32 #[.pointer (some ⟨pb, 0, none⟩)] w (VPost pb a C B k st w (NumR B k)) := by
  have HB := hB
  have HNR := Lib.hid hnr
  have HYW := Lib.hid hyw
  clear hnr hyw
  have HD := Lib.hid hd
  have HH := Lib.hid hh
  clear hd hh
  have hin := hS.in_heap
  have hi0 : NI pb a C B k st w (w.alloc Z38) := ⟨hS.alloc _, Gr.refl _ _⟩
  have HI0 := Lib.hid hi0
  have hl := hS.len
  clear hS hi0
  go_enter Tryz.func32, Tryz.ntmps32
  go_upto_region 1 with fail
  go_cut [21] from 14 to 21 (fun b wx => b = .bool false ∧ NI pb a C B k st w wx)
  case first =>
    go_wp2_with fail
    refine (two_any (HI0.out.drewN 0).1 0 k 4 (by omega) (by omega) (by decide)).mono ?_
    rintro e w' ⟨y, rfl, ly, uy, iy, m1, rfl⟩
    have IY := Lib.hid iy
    clear iy
    by_cases hy : y < 0
    · go_wp2_with fail
      go_meet
      exact ⟨rfl, (HI0.out.drewN _)⟩
    · have hy0 : 0 ≤ y := by omega
      have tp := byte_ne (c := pk B (k + 4)) (d := 45) (n := 45) (fun h => HD.out ⟨IY.out.1 hy0, h⟩) rfl
      obtain ⟨c4, hc4⟩ : ∃ c, pk B (k + 4) = c := ⟨_, rfl⟩
      have HP4 := Lib.hid (fun (W : World) (hW : SP W pb a C B k st) => peek_any hW 4 (k + 4) (by omega) (by omega))
      rw [hc4] at HP4 tp
      clear hc4 hy
      go_wp2_with fail
      refine (HP4.out _ (HI0.out.drewN _).1).mono ?_
      rintro e w' ⟨rfl, m2, rfl⟩
      go_wp2_with fail
      go_meet
      exact ⟨rfl, (HI0.out.drewN _)⟩
  case rest =>
    obtain ⟨rfl, hI⟩ := hcut
    have HI1 := Lib.hid hI
    clear hI
    obtain ⟨wd, rfl⟩ : ∃ wd : World, wd = wc := ⟨_, rfl⟩
    go_upto_region 3 with fail
    clear HI0
    go_cut [31] from 24 to 31 (fun b wx => b = .bool false ∧ NI pb a C B k st w wx)
    case first =>
      go_wp2_with fail
      refine (two_any (HI1.out.drewN 0).1 0 k 2 (by omega) (by omega) (by decide)).mono ?_
      rintro e w' ⟨y, rfl, ly, uy, iy, m1, rfl⟩
      have IY := Lib.hid iy
      clear iy
      by_cases hy : y < 0
      · go_wp2_with fail
        go_meet
        exact ⟨rfl, (HI1.out.drewN _)⟩
      · have hy0 : 0 ≤ y := by omega
        have tp := byte_ne (c := pk B (k + 2)) (d := 58) (n := 58) (fun h => HH.out ⟨IY.out.1 hy0, h⟩) rfl
        obtain ⟨c4, hc4⟩ : ∃ c, pk B (k + 2) = c := ⟨_, rfl⟩
        have HP4 := Lib.hid (fun (W : World) (hW : SP W pb a C B k st) => peek_any hW 2 (k + 2) (by omega) (by omega))
        rw [hc4] at HP4 tp
        clear hc4 hy
        go_wp2_with fail
        refine (HP4.out _ (HI1.out.drewN _).1).mono ?_
        rintro e w' ⟨rfl, m2, rfl⟩
        go_wp2_with fail
        go_meet
        exact ⟨rfl, (HI1.out.drewN _)⟩
    case rest =>
      obtain ⟨rfl, hI⟩ := hcut
      have HI2 := Lib.hid hI
      clear hI HI1
      obtain ⟨we, rfl⟩ : ∃ we : World, we = wc := ⟨_, rfl⟩
      go_wp2_with fail
      refine wp_loop_rounds 4 ?_
      rw [rounds_succ]
      go_wp2_with fail
      refine (hasr (HI2.out.1.alloc _) 120 (by decide) false (HNR.out _ (by decide))).mono ?_
      rintro e w' ⟨rfl, m1, rfl⟩
      go_wp2_with fail
      rw [rounds_succ]
      go_wp2_with fail
      refine (hasr ((HI2.out.1.alloc _).drewN _) 111 (by decide) false (HNR.out _ (by decide))).mono ?_
      rintro e w' ⟨rfl, m2, rfl⟩
      go_wp2_with fail
      rw [rounds_succ]
      go_wp2_with fail
      refine (hasr ((HI2.out.1.alloc _).drewN _) 98 (by decide) false (HNR.out _ (by decide))).mono ?_
      rintro e w' ⟨rfl, m3, rfl⟩
      go_wp2_with fail
      rw [rounds_succ]
      go_upto_region 23 with fail
      have HI3 := Lib.hid (fun (o : Obj) (q : Nat) => (HI2.out.alloc o).drewN q)
      go_cut [85] from 78 to 85 (fun b wx => ∃ t : Bool, b = .bool t ∧ SgT B k t ∧ NI pb a C B k st w wx)
      case first =>
        obtain ⟨c0, hc0⟩ : ∃ c, pk B k = c := ⟨_, rfl⟩
        have HP0 := Lib.hid (fun (W : World) (hW : SP W pb a C B k st) => peek_any hW 0 k (by omega) (by omega))
        rw [hc0] at HP0
        by_cases h43 : c0 = 43
        · have t43 := byte_eq h43 (n := 43) rfl
          have HT := Lib.hid (hc0.trans h43)
          clear h43 hc0
          go_wp2_with fail
          with_reducible refine (HP0.out _ (HI3.out _ _).1).mono ?_
          rintro e w' ⟨rfl, q1, rfl⟩
          go_wp2_with fail
          go_meet
          exact ⟨true, rfl, ⟨fun _ => .inl HT.out, (fun h => by cases h)⟩, HI3.out _ _⟩
        · have t43 := byte_ne h43 (n := 43) rfl
          by_cases h45 : c0 = 45
          · have t45 := byte_eq h45 (n := 45) rfl
            have HT := Lib.hid (hc0.trans h45)
            clear h43 h45 hc0
            go_wp2_with fail
            with_reducible refine (HP0.out _ (HI3.out _ _).1).mono ?_
            rintro e w' ⟨rfl, q1, rfl⟩
            go_wp2_with fail
            with_reducible refine (HP0.out _ (HI3.out _ _).1).mono ?_
            rintro e w' ⟨rfl, q2, rfl⟩
            go_wp2_with fail
            go_meet
            exact ⟨true, rfl, ⟨fun _ => .inr HT.out, (fun h => by cases h)⟩, HI3.out _ _⟩
          · have t45 := byte_ne h45 (n := 45) rfl
            have HT := Lib.hid (show ¬ (pk B k = 43 ∨ pk B k = 45) by rw [hc0]; rintro (h | h); exact h43 h; exact h45 h)
            clear h43 h45 hc0
            go_wp2_with fail
            with_reducible refine (HP0.out _ (HI3.out _ _).1).mono ?_
            rintro e w' ⟨rfl, q1, rfl⟩
            go_wp2_with fail
            with_reducible refine (HP0.out _ (HI3.out _ _).1).mono ?_
            rintro e w' ⟨rfl, q2, rfl⟩
            go_wp2_with fail
            go_meet
            exact ⟨false, rfl, ⟨(fun h => by cases h), fun _ => HT.out⟩, HI3.out _ _⟩
      case rest =>
        obtain ⟨t, rfl, ht, hI⟩ := hcut
        have HI4 := Lib.hid hI
        have HT := Lib.hid ht
        clear hI ht HI2 HI3
        obtain ⟨wp, rfl⟩ : ∃ wp : World, wp = wc := ⟨_, rfl⟩
        go_upto_if 85 with fail
        go_cut [8] from 8 to 8 (fun v wx => ∃ s : Nat, v = .int .i64 s ∧ SgR B k s ∧ NI pb a C B k st w wx)
        case first =>
          cases t with
          | true =>
            go_wp2_with fail
            go_meet
            exact ⟨1, rfl, .inl ⟨rfl, HT.out.1 rfl⟩, HI4.out⟩
          | false =>
            go_wp2_with fail
            go_meet
            exact ⟨0, rfl, .inr ⟨rfl, fun h => HT.out.2 rfl (.inl h), fun h => HT.out.2 rfl (.inr h)⟩, HI4.out⟩
        case rest =>
          obtain ⟨s, rfl, hsg, hI⟩ := hcut
          have HI5 := Lib.hid hI
          have HSG := Lib.hid hsg
          have hks := sg_le hsg hk
          clear hI hsg HI4 HT
          obtain ⟨wf, rfl⟩ : ∃ wf : World, wf = wc := ⟨_, rfl⟩
          go_wp2_with fail
          refine wp_loop_rounds 3 ?_
          rw [rounds_succ]
          go_upto_region 28 with fail
          by_cases hinf : (pk B (k + s) == 105 && pk B (k + s + 1) == 110 && pk B (k + s + 2) == 102) = true
          · have hi3 : k + s + 2 < B.length := pk_in (by simp only [Bool.and_eq_true, beq_iff_eq] at hinf; rw [hinf.2]; decide)
            have HINF := Lib.hid hinf
            clear hinf
            have hfit : decide ((k : Int) + (s : Int) ≤ (B.length : Int)) = true := by simp; omega
            have hfit2 : decide (k + s ≤ B.length) = true := by simp; omega
            have hw1 : IntKind.i64.wrap ((k : Int) + (s : Int)) = (k : Int) + (s : Int) := IntWalk.i64_in _ (by omega)
            go_cut [119] from 92 to 119 (fun b wx => b = .bool true ∧ NI pb a C B k st w wx ∧ Gr (wf.alloc ZW) wx pb)
            case first =>
              have h1 := (HI5.out.alloc ZW).1.b
              have h2 := (HI5.out.alloc ZW).1.at'
              have hlt := (HI5.out.alloc ZW).1.in_heap
              have hx : SP (((wf.alloc ZW).alloc (.cells #[.slice (some a) B.length C, .int .i64 ((k : Int) + (s : Int)), .int .i64 0] 33)).drew) (wf.heap.size + 1) a C B (k + s) 0 := ((HI5.out.alloc ZW).1.boxed HB (k + s) (by omega) (wf.heap.size + 1) (by simp) 33).drewN 1
              have HCALL := Lib.hid (hasw hx 105 110 102 (by decide) true (HINF.out))
              clear hx
              go_region_held3 (fun w' => w'.cell? ⟨pb, 0, none⟩ = some (.slice (some a) B.length C) ∧ w'.cell? ⟨pb, 1, none⟩ = some (.int .i64 k)) (go_keep) (first | (go_at_call 10; refine (HCALL.out).mono ?_; rintro e w' ⟨rfl, q, rfl⟩))
              all_goals
                go_wp2_with fail
                go_meet
                exact ⟨rfl, ((HI5.out.alloc ZW).alloc _).drewN _, ((Gr.refl (wf.alloc ZW) pb).alloc _).drewN _⟩
            case rest =>
              obtain ⟨rfl, hI, hG⟩ := hcut
              have HI6 := Lib.hid (And.intro hI hG)
              clear hI hG hfit hfit2 hw1
              obtain ⟨s5, hs⟩ : ∃ s5 : ByteArray, s5 = ⟨((B.drop k).take (s + 3)).toArray⟩ := ⟨_, rfl⟩
              have hrw := fun (W : World) (hW : SP W pb a C B k st) => raw_z hW 2 ((s : Int) + 3) (s + 3) (by omega) (by omega) (by omega) s5 hs
              have HRW := Lib.hid hrw
              have HSS := Lib.hid hs
              have hres : NumR B k (s + 3) 2 := .word HSG.out (by have h := HINF.out; simp only [Bool.and_eq_true, beq_iff_eq] at h; exact .inl ⟨h.1.1, h.1.2, h.2⟩)
              have HRES := Lib.hid hres
              clear hres
              clear hs hrw
              go_wp2_with fail
              refine (HRW.out _ (HI6.out.1).1).mono ?_
              rintro e w3 ⟨rfl, hS3, hG3⟩
              have HS3 := Lib.hid hS3
              have hg := ((HI6.out.1).2.trans hG3)
              have HG3 := Lib.hid hg.fromAlloc
              obtain ⟨⟨c0, hc0⟩, ⟨c1, hc1⟩, ⟨c2, hc2⟩, ⟨c3, hc3⟩, hcf⟩ := Res.of _ _ _ _ _ hg hin.1
              clear hS3 hG3 hg
              go_wp2_with fail
              exact bodyPost_ret (v := .agg #[.int .i64 2, .string s5, .slice none 0 0, .slice none 0 0]) (by simp [results, Tryz.results32, go_sem, hc0, hc1, hc2, hc3]) rfl (VPost.mk 2 ((B.drop k).take (s + 3)) (by rw [HSS.out]; rfl) ((SPost.mk HS3.out HG3.out (by omega) (by omega) fun h => ⟨h, by rw [Nat.add_sub_cancel_left]; exact ⟨HRES.out, rfl⟩⟩).res hin _ _ _ _))
          · have hinf2 : (pk B (k + s) == 105 && pk B (k + s + 1) == 110 && pk B (k + s + 2) == 102) = false := by simpa using hinf
            have HINF := Lib.hid hinf2
            clear hinf hinf2
            have hfit : decide ((k : Int) + (s : Int) ≤ (B.length : Int)) = true := by simp; omega
            have hfit2 : decide (k + s ≤ B.length) = true := by simp; omega
            have hw1 : IntKind.i64.wrap ((k : Int) + (s : Int)) = (k : Int) + (s : Int) := IntWalk.i64_in _ (by omega)
            go_cut [119] from 92 to 119 (fun b wx => b = .bool false ∧ NI pb a C B k st w wx ∧ Gr (wf.alloc ZW) wx pb)
            case first =>
              have h1 := (HI5.out.alloc ZW).1.b
              have h2 := (HI5.out.alloc ZW).1.at'
              have hlt := (HI5.out.alloc ZW).1.in_heap
              have hx : SP (((wf.alloc ZW).alloc (.cells #[.slice (some a) B.length C, .int .i64 ((k : Int) + (s : Int)), .int .i64 0] 33)).drew) (wf.heap.size + 1) a C B (k + s) 0 := ((HI5.out.alloc ZW).1.boxed HB (k + s) (by omega) (wf.heap.size + 1) (by simp) 33).drewN 1
              have HCALL := Lib.hid (hasw hx 105 110 102 (by decide) false (HINF.out))
              clear hx
              go_region_held3 (fun w' => w'.cell? ⟨pb, 0, none⟩ = some (.slice (some a) B.length C) ∧ w'.cell? ⟨pb, 1, none⟩ = some (.int .i64 k)) (go_keep) (first | (go_at_call 10; refine (HCALL.out).mono ?_; rintro e w' ⟨rfl, q, rfl⟩))
              all_goals
                go_wp2_with fail
                go_meet
                exact ⟨rfl, ((HI5.out.alloc ZW).alloc _).drewN _, ((Gr.refl (wf.alloc ZW) pb).alloc _).drewN _⟩
            case rest =>
              obtain ⟨rfl, hI, hG⟩ := hcut
              have HI6 := Lib.hid (And.intro hI hG)
              clear hI hG hfit hfit2 hw1
              have hp4 := HI5.out.1.in_heap
              have hnan := word_cell HI6.out.2 hp4.1
              obtain ⟨wg, rfl⟩ : ∃ wg : World, wg = wc := ⟨_, rfl⟩
              go_wp2_with fail
              rw [rounds_succ]
              go_upto_region 28 with fail
              clear hnan
              by_cases hnan : (pk B (k + s) == 110 && pk B (k + s + 1) == 97 && pk B (k + s + 2) == 110) = true
              · have hi3 : k + s + 2 < B.length := pk_in (by simp only [Bool.and_eq_true, beq_iff_eq] at hnan; rw [hnan.2]; decide)
                have HNAN := Lib.hid hnan
                clear hnan
                have hfit : decide ((k : Int) + (s : Int) ≤ (B.length : Int)) = true := by simp; omega
                have hfit2 : decide (k + s ≤ B.length) = true := by simp; omega
                have hw1 : IntKind.i64.wrap ((k : Int) + (s : Int)) = (k : Int) + (s : Int) := IntWalk.i64_in _ (by omega)
                go_cut [119] from 92 to 119 (fun b wx => b = .bool true ∧ NI pb a C B k st w wx ∧ Gr (wf.alloc ZW) wx pb)
                case first =>
                  have h1 := (HI6.out.1).1.b
                  have h2 := (HI6.out.1).1.at'
                  have hlt := (HI6.out.1).1.in_heap
                  have hx : SP (((wg).alloc (.cells #[.slice (some a) B.length C, .int .i64 ((k : Int) + (s : Int)), .int .i64 0] 33)).drew) (wg.heap.size) a C B (k + s) 0 := ((HI6.out.1).1.boxed HB (k + s) (by omega) (wg.heap.size) (by simp) 33).drewN 1
                  have HCALL := Lib.hid (hasw hx 110 97 110 (by decide) true (HNAN.out))
                  clear hx
                  go_region_held3 (fun w' => w'.cell? ⟨pb, 0, none⟩ = some (.slice (some a) B.length C) ∧ w'.cell? ⟨pb, 1, none⟩ = some (.int .i64 k)) (go_keep) (first | (go_at_call 10; refine (HCALL.out).mono ?_; rintro e w' ⟨rfl, q, rfl⟩))
                  all_goals
                    go_wp2_with fail
                    go_meet
                    exact ⟨rfl, ((HI6.out.1).alloc _).drewN _, ((HI6.out.2).alloc _).drewN _⟩
                case rest =>
                  obtain ⟨rfl, hI, hG⟩ := hcut
                  have HI7 := Lib.hid (And.intro hI hG)
                  clear hI hG hfit hfit2 hw1
                  obtain ⟨s5, hs⟩ : ∃ s5 : ByteArray, s5 = ⟨((B.drop k).take (s + 3)).toArray⟩ := ⟨_, rfl⟩
                  have hrw := fun (W : World) (hW : SP W pb a C B k st) => raw_z hW 2 ((s : Int) + 3) (s + 3) (by omega) (by omega) (by omega) s5 hs
                  have HRW := Lib.hid hrw
                  have HSS := Lib.hid hs
                  have hres : NumR B k (s + 3) 2 := .word HSG.out (by have h := HNAN.out; simp only [Bool.and_eq_true, beq_iff_eq] at h; exact .inr ⟨h.1.1, h.1.2, h.2⟩)
                  have HRES := Lib.hid hres
                  clear hres
                  clear hs hrw
                  go_wp2_with fail
                  refine (HRW.out _ (HI7.out.1).1).mono ?_
                  rintro e w3 ⟨rfl, hS3, hG3⟩
                  have HS3 := Lib.hid hS3
                  have hg := ((HI7.out.1).2.trans hG3)
                  have HG3 := Lib.hid hg.fromAlloc
                  obtain ⟨⟨c0, hc0⟩, ⟨c1, hc1⟩, ⟨c2, hc2⟩, ⟨c3, hc3⟩, hcf⟩ := Res.of _ _ _ _ _ hg hin.1
                  clear hS3 hG3 hg
                  go_wp2_with fail
                  exact bodyPost_ret (v := .agg #[.int .i64 2, .string s5, .slice none 0 0, .slice none 0 0]) (by simp [results, Tryz.results32, go_sem, hc0, hc1, hc2, hc3]) rfl (VPost.mk 2 ((B.drop k).take (s + 3)) (by rw [HSS.out]; rfl) ((SPost.mk HS3.out HG3.out (by omega) (by omega) fun h => ⟨h, by rw [Nat.add_sub_cancel_left]; exact ⟨HRES.out, rfl⟩⟩).res hin _ _ _ _))
              · have hnan2 : (pk B (k + s) == 110 && pk B (k + s + 1) == 97 && pk B (k + s + 2) == 110) = false := by simpa using hnan
                have HNAN := Lib.hid hnan2
                clear hnan hnan2
                exact absurd (HYW.out s HSG.out) (by rw [HINF.out, HNAN.out]; decide)
end Go.Proofs.YtalmpddmhakdmaaGreat
