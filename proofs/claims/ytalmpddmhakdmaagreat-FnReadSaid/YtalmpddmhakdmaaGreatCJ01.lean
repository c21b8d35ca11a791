/-
  Plain: how many bytes a sign of UTF-8 has, by tests on its bytes; and that what encodes a rune passes these tests. No conditions.
-/
import Derived.Test.YtalmpddmhakdmaaGreatCJ00
import GoSem.Core.Utf8
namespace Go.Proofs.YtalmpddmhakdmaaGreat

/-- How many bytes a sign of more than one byte has; 0 where none stands. -/
def hiL (c d e f : Nat) : Nat :=
  if c < 194 then 0
  else if c < 224 then (if d / 64 = 2 then 2 else 0)
  else if c < 240 then (if e / 64 = 2 ∧ (if c = 224 then 160 else 128) ≤ d ∧ d ≤ (if c = 237 then 159 else 191) then 3 else 0)
  else if c < 245 then (if e / 64 = 2 ∧ f / 64 = 2 ∧ (if c = 240 then 144 else 128) ≤ d ∧ d ≤ (if c = 244 then 143 else 191) then 4 else 0)
  else 0
def hiN (B : List UInt8) (i : Nat) : Nat := hiL (pk B i).toNat (pk B (i + 1)).toNat (pk B (i + 2)).toNat (pk B (i + 3)).toNat
/-- How many bytes the sign at a place has; 0 where none may stand there. -/
def sgN (B : List UInt8) (i : Nat) : Nat :=
  if pk B i = 9 ∨ (32 ≤ (pk B i).toNat ∧ (pk B i).toNat < 127) then 1 else if (pk B i).toNat < 128 then 0 else hiN B i

theorem ofNat_toNat (n : Nat) (h : n < 256) : (UInt8.ofNat n).toNat = n := by
  rw [UInt8.toNat_ofNat']
  exact Nat.mod_eq_of_lt h

set_option maxHeartbeats 1000000 in
/-- What encodes a rune, where it has more than one byte, passes the tests. -/
theorem enc_hi (r : Int) (B : List UInt8) (i : Nat) (h : ∀ j, j < (Utf8.encode r).size → pk B (i + j) = (Utf8.encode r).toList.getD j 0) (hh : 128 ≤ (pk B i).toNat) : hiN B i = (Utf8.encode r).size := by
  have hc : ∃ c : Nat, c = (if Utf8.valid r then r.toNat else Utf8.runeError) ∧ (c < 55296 ∨ (57344 ≤ c ∧ c ≤ 1114111)) := by
    refine ⟨_, rfl, ?_⟩
    unfold Utf8.valid Utf8.runeError
    split
    · rename_i hv
      simp only [Bool.or_eq_true, Bool.and_eq_true, decide_eq_true_eq] at hv
      omega
    · omega
  obtain ⟨c, hc, hv⟩ := hc
  unfold Utf8.encode at h ⊢
  rw [← hc] at h ⊢
  clear hc
  have hz := h 0
  rw [Nat.add_zero] at hz
  unfold hiN
  by_cases h1 : c < 128
  · exfalso
    simp only [if_pos h1] at hz
    rw [hz (show 0 < 1 from by decide), ByteArray.toList_mk] at hh
    simp only [List.getD_cons_zero] at hh
    rw [ofNat_toNat _ (by omega)] at hh
    omega
  by_cases h2 : c < 2048
  · simp only [if_neg h1, if_pos h2] at h hz ⊢
    have ha := hz (show 0 < 2 from by decide)
    have hb := h 1 (show 1 < 2 from by decide)
    rw [ByteArray.toList_mk] at ha hb
    simp only [List.getD_cons_zero, List.getD_cons_succ] at ha hb
    rw [ha, hb, ofNat_toNat _ (by omega), ofNat_toNat _ (by omega)]
    show hiL _ _ _ _ = 2
    unfold hiL
    rw [if_neg (by omega), if_pos (by omega), if_pos (by omega)]
  by_cases h3 : c < 65536
  · simp only [if_neg h1, if_neg h2, if_pos h3] at h hz ⊢
    have ha := hz (show 0 < 3 from by decide)
    have hb := h 1 (show 1 < 3 from by decide)
    have hd := h 2 (show 2 < 3 from by decide)
    rw [ByteArray.toList_mk] at ha hb hd
    simp only [List.getD_cons_zero, List.getD_cons_succ] at ha hb hd
    rw [ha, hb, hd, ofNat_toNat _ (by omega), ofNat_toNat _ (by omega), ofNat_toNat _ (by omega)]
    show hiL _ _ _ _ = 3
    unfold hiL
    rw [if_neg (by omega), if_neg (by omega), if_pos (by omega), if_pos ⟨by omega, by split <;> omega, by split <;> omega⟩]
  · simp only [if_neg h1, if_neg h2, if_neg h3] at h hz ⊢
    have ha := hz (show 0 < 4 from by decide)
    have hb := h 1 (show 1 < 4 from by decide)
    have hd := h 2 (show 2 < 4 from by decide)
    have he := h 3 (show 3 < 4 from by decide)
    rw [ByteArray.toList_mk] at ha hb hd he
    simp only [List.getD_cons_zero, List.getD_cons_succ] at ha hb hd he
    rw [ha, hb, hd, he, ofNat_toNat _ (by omega), ofNat_toNat _ (by omega), ofNat_toNat _ (by omega), ofNat_toNat _ (by omega)]
    show hiL _ _ _ _ = 4
    unfold hiL
    rw [if_neg (by omega), if_neg (by omega), if_neg (by omega), if_pos (by omega), if_pos ⟨by omega, by omega, by split <;> omega, by split <;> omega⟩]
end Go.Proofs.YtalmpddmhakdmaaGreat

/-
  The walk of a function of the spec's parser: how many bytes the sign at a place has. Conditions: the parser lies in memory as stated.
-/
namespace Go.Proofs.YtalmpddmhakdmaaGreat
open Go.RowKit

theorem cell_lt {w : World} {p : Addr} {v : Value} (h : w.cell? p = some v) : p.block < w.heap.size := by
  rcases Nat.lt_or_ge p.block w.heap.size with h1 | h1
  · exact h1
  · have : w.heap[p.block]? = none := Array.getElem?_eq_none h1
    simp [World.cell?, this] at h

theorem add_block (a : Addr) (i : Nat) : (a.add i).block = a.block := by unfold Addr.add; split <;> rfl

/-- The parser lies as it did where its own block and the text's have not turned. -/
theorem SP.blocks {w w' : World} {pb : Nat} {a : Addr} {C : Nat} {B : List UInt8} {k : Nat} {st : Int} (h : SP w pb a C B k st) (h1 : w'.heap[pb]? = w.heap[pb]?) (h2 : B ≠ [] → w'.heap[a.block]? = w.heap[a.block]?) : SP w' pb a C B k st where
  b := (World.cell?_of_block (w := w) h1).trans h.b
  at' := (World.cell?_of_block (w := w) h1).trans h.at'
  st' := (World.cell?_of_block (w := w) h1).trans h.st'
  f1 := (World.frozen?_of_block (w := w) h1).trans h.f1
  f2 := (World.frozen?_of_block (w := w) h1).trans h.f2
  ne := h.ne
  len := h.len
  far := h.far
  cap := h.cap
  data := fun i c hi => (World.cell?_of_block (w := w) (by rw [add_block]; exact h2 (by rintro rfl; simp at hi))).trans (h.data i c hi)

theorem SP.alloc {w : World} {pb : Nat} {a : Addr} {C : Nat} {B : List UInt8} {k : Nat} {st : Int} (h : SP w pb a C B k st) (o : Obj) : SP (w.alloc o) pb a C B k st :=
  h.blocks (Below.heap_alloc w o pb (cell_lt h.b)) fun hne => Below.heap_alloc w o a.block (by
    obtain ⟨c, l, rfl⟩ := List.exists_cons_of_ne_nil hne
    have := cell_lt (h.data 0 c rfl)
    rwa [add_block] at this)

/-- What the walk over a sign ends with. -/
def SignPost (B : List UInt8) (i : Nat) (w : World) (pb : Nat) (a : Addr) (C : Nat) (st : Int) (e : Ending) (w' : World) : Prop :=
  ∃ (n : Nat) (b : Bool), e = .returned (.tuple #[.int .i64 n, .bool b]) ∧ (b = true → n = sgN B i ∧ 0 < n) ∧ n ≤ 4 ∧ SP w' pb a C B i st ∧ Gr w w' pb
theorem SignPost.mk {B : List UInt8} {i : Nat} {w : World} {pb : Nat} {a : Addr} {C : Nat} {st : Int} {e : Ending} {w' : World}
    (h : ∃ (n : Nat) (b : Bool), e = .returned (.tuple #[.int .i64 n, .bool b]) ∧ (b = true → n = sgN B i ∧ 0 < n) ∧ n ≤ 4 ∧ SP w' pb a C B i st ∧ Gr w w' pb) : SignPost B i w pb a C st e w' := h

set_option maxRecDepth 100000 in
set_option maxHeartbeats 1000000 in
theorem sign_low {w : World} {pb : Nat} {a : Addr} {C : Nat} {B : List UInt8} {k : Nat} {st : Int} (hS : SP w pb a C B k st) (hlow : (pk B k).toNat < 128) :
    Calls Tryz.prog 33 #[.pointer (some ⟨pb, 0, none⟩)] w (SignPost B k w pb a C st) := by
  have HP := Lib.hid (peek_any hS 0 k (by omega) (by omega))
  have HS := Lib.hid hS
  clear hS
  have hsg : sgN B k = if pk B k = 9 ∨ (32 ≤ (pk B k).toNat ∧ (pk B k).toNat < 127) then 1 else 0 := by
    unfold sgN
    rw [if_pos hlow]
  have HG := Lib.hid hsg
  clear hsg
  obtain ⟨c, hc⟩ : ∃ c, pk B k = c := ⟨_, rfl⟩
  rw [hc] at HP HG hlow
  clear hc
  by_cases h9 : c = 9
  · have t1 := byte_eq h9 (n := 9) rfl
    have h1 := HG.out
    rw [if_pos (.inl h9)] at h1
    have H1 := Lib.hid h1
    clear h9 h1
    go_enter Tryz.func33, Tryz.ntmps33
    go_wp2_with (go_at_call 8; refine (HP.out).mono ?_; rintro e w' ⟨rfl, m, rfl⟩)
    all_goals
      go_ret2
      exact SignPost.mk ⟨1, true, rfl, fun _ => ⟨H1.out.symm, by omega⟩, by omega, HS.out.drewN _, (Gr.refl w pb).drewN _⟩
  · have t1 := byte_ne h9 (n := 9) rfl
    by_cases h32 : 32 ≤ c.toNat
    · by_cases h127 : c.toNat < 127
      · have h1 := HG.out
        rw [if_pos (.inr ⟨h32, h127⟩)] at h1
        have H1 := Lib.hid h1
        clear h9 h1
        go_enter Tryz.func33, Tryz.ntmps33
        go_wp2_with (go_at_call 8; refine (HP.out).mono ?_; rintro e w' ⟨rfl, m, rfl⟩)
        all_goals
          go_ret2
          exact SignPost.mk ⟨1, true, rfl, fun _ => ⟨H1.out.symm, by omega⟩, by omega, HS.out.drewN _, (Gr.refl w pb).drewN _⟩
      · have h1 := HG.out
        rw [if_neg (by rintro (h | h); exact h9 h; omega)] at h1
        have H1 := Lib.hid h1
        clear h9 h1
        go_enter Tryz.func33, Tryz.ntmps33
        go_wp2_with (go_at_call 8; refine (HP.out).mono ?_; rintro e w' ⟨rfl, m, rfl⟩)
        all_goals
          go_ret2
          exact SignPost.mk ⟨1, false, rfl, (fun h => by cases h), by omega, HS.out.drewN _, (Gr.refl w pb).drewN _⟩
    · have h1 := HG.out
      rw [if_neg (by rintro (h | h); exact h9 h; omega)] at h1
      have H1 := Lib.hid h1
      clear h9 h1
      go_enter Tryz.func33, Tryz.ntmps33
      go_wp2_with (go_at_call 8; refine (HP.out).mono ?_; rintro e w' ⟨rfl, m, rfl⟩)
      all_goals
        go_ret2
        exact SignPost.mk ⟨1, false, rfl, (fun h => by cases h), by omega, HS.out.drewN _, (Gr.refl w pb).drewN _⟩

/-- The first bytes at a place, four at most. -/
def fourB (B : List UInt8) (i : Nat) : List UInt8 := (B.drop i).take 4
theorem SP.conv0 {w : World} {pb : Nat} {a : Addr} {C : Nat} {B : List UInt8} {k : Nat} {st : Int} (hS : SP w pb a C B k st) (T : List UInt8) (h : T = fourB B k) (q c n : Nat) (hn : n = T.length) :
    (convert 22 9 (.slice (some (a.add k)) n c)).run Tryz.prog (w.drewN q) = .ok (.string ⟨T.toArray⟩) (w.drewN q) := by
  subst h
  subst hn
  exact run_conv _ _ _ _ rfl ((hS.drewN q).part k 4)

theorem four_pre {B : List UInt8} {i : Nat} {E : ByteArray} (hle : E.size ≤ (fourB B i).length) (he : ((⟨(fourB B i).toArray⟩ : ByteArray).extract 0 E.size).toList = E.toList) (j : Nat) (hj : j < E.size) : pk B (i + j) = E.toList.getD j 0 := by
  have h1 : E.toList = (fourB B i).take E.size := by
    rw [← he, ByteArray.toList_eq, ByteArray.data_extract]
    simp
  rw [h1]
  unfold fourB at hle ⊢
  rw [List.length_take] at hle
  rw [List.getD, List.getElem?_take_of_lt hj, List.getElem?_take_of_lt (by omega), List.getElem?_drop]
  rfl
theorem enc_size (r : Int) : 0 < (Utf8.encode r).size ∧ (Utf8.encode r).size ≤ 4 := by
  simp only [Utf8.encode]
  generalize (if Utf8.valid r = true then r.toNat else Utf8.runeError) = c
  split
  · exact ⟨by show 0 < 1; decide, by show 1 ≤ 4; decide⟩
  · split
    · exact ⟨by show 0 < 2; decide, by show 2 ≤ 4; decide⟩
    · split
      · exact ⟨by show 0 < 3; decide, by show 3 ≤ 4; decide⟩
      · exact ⟨by show 0 < 4; decide, by show 4 ≤ 4; decide⟩

set_option maxRecDepth 100000 in
set_option maxHeartbeats 1000000 in
theorem sign_high {w : World} {pb : Nat} {a : Addr} {C : Nat} {B : List UInt8} {k : Nat} {st : Int} (hS : SP w pb a C B k st) (hhi : 128 ≤ (pk B k).toNat) :
    Calls Tryz.prog 33 #[.pointer (some ⟨pb, 0, none⟩)] w (SignPost B k w pb a C st) := by
  have HP := Lib.hid (peek_any hS 0 k (by omega) (by omega))
  have hin : k < B.length := pk_in (by intro e; rw [e] at hhi; have h0 : (0 : UInt8).toNat = 0 := rfl; omega)
  have HH := Lib.hid hhi
  have HS := Lib.hid hS
  have h1 := hS.b
  have h2 := hS.at'
  have hl := hS.len
  have hC := hS.cap
  obtain ⟨T, hT⟩ : ∃ T, T = fourB B k := ⟨_, rfl⟩
  have hTl : T.length = min 4 (B.length - k) := by rw [hT, fourB, List.length_take, List.length_drop]
  have HCV := Lib.hid (fun (q c n : Nat) (hn : n = T.length) => hS.conv0 T hT q c n hn)
  obtain ⟨s, hs⟩ : ∃ s : ByteArray, s = ⟨T.toArray⟩ := ⟨_, rfl⟩
  rw [← hs] at HCV
  have hss : s.size = T.length := by rw [hs]; rfl
  have HT := Lib.hid hT
  have Hs := Lib.hid hs
  have HSS := Lib.hid hss
  clear hS hT hs hss
  obtain ⟨c, hc⟩ : ∃ c, pk B k = c := ⟨_, rfl⟩
  rw [hc] at HP hhi
  have HC := Lib.hid hc
  clear hc
  have hCk : ¬ C = k := by omega
  have t9 : ((c.toNat : Int) == 9) = false := by simp; omega
  have t127 : decide ((c.toNat : Int) < 127) = false := by simp; omega
  have t128 : decide ((c.toNat : Int) < 128) = false := by simp; omega
  have hpos : 0 < s.size := by rw [HSS.out]; omega
  obtain ⟨r, hr⟩ : ∃ r, (Utf8.decode s 0).1 = r := ⟨_, rfl⟩
  have hnx : ∀ (q : Nat) (ty : TypeId), (Instr.next (.pointer (some ⟨w.heap.size, 0, none⟩)) true ty).run Tryz.prog ((w.drewN q).iter s 0) = .ok (.tuple #[.bool true, .int .i64 (0 : Nat), .int .i32 r]) ((w.drewN q).iter s (0 + (Utf8.decode s 0).2)) := by
    intro q ty
    rw [← hr]
    exact run_next_any (w.drewN q) s 0 ty hpos
  have HR := Lib.hid hr
  clear hr
  obtain ⟨E, hE⟩ : ∃ E, E = Utf8.encode (r : Int) := ⟨_, rfl⟩
  have hcvE : ∀ W : World, (convert 21 9 (.int .i32 (r : Int))).run Tryz.prog W = .ok (.string E) W := by
    intro W
    rw [hE]
    exact run_convert_int_string W 21 9 .i32 r (by rw [Tryz.underlying21]; rfl) Tryz.underlying9
  have HE := Lib.hid hE
  clear hE
  have hfin : s.size < E.size ∨ (E.size ≤ s.size ∧ ((s.extract 0 E.size).toList == E.toList) = false) ∨ (E.size ≤ s.size ∧ ((s.extract 0 E.size).toList == E.toList) = true ∧ E.size = sgN B k ∧ 0 < E.size ∧ E.size ≤ 4) := by
    rcases Nat.lt_or_ge s.size E.size with h | h
    · exact .inl h
    · cases hb : ((s.extract 0 E.size).toList == E.toList) with
      | false => exact .inr (.inl ⟨h, rfl⟩)
      | true =>
        refine .inr (.inr ⟨h, rfl, ?_⟩)
        have he : (s.extract 0 E.size).toList = E.toList := by simpa using hb
        have hpre : ∀ j, j < E.size → pk B (k + j) = E.toList.getD j 0 := fun j hj => four_pre (by rw [← HT.out, ← HSS.out]; exact h) (by rw [← HT.out, ← Hs.out]; exact he) j hj
        rw [HE.out] at hpre ⊢
        have hsz := enc_hi r B k hpre HH.out
        have h4 := enc_size r
        refine ⟨?_, by omega, by omega⟩
        unfold sgN
        rw [if_neg (by rintro (h9 | h9); (have h2 := HH.out; rw [h9] at h2; revert h2; decide); (have h2 := HH.out; omega)), if_neg (by have h2 := HH.out; omega), hsz]
  by_cases hlen : B.length ≤ k + 4
  · have hcv := fun (q c : Nat) => HCV.out q c (B.length - k) (by omega)
    have hmin : ((B.length : Int) ≤ (k : Int) + 4) := by omega
    clear hTl
    rcases hfin with h | ⟨h, hb⟩ | ⟨h, hb, hE1, hE2, hE3⟩
    · go_enter Tryz.func33, Tryz.ntmps33
      go_upto_region 6 with (go_at_call 8; refine (HP.out).mono ?_; rintro e w' ⟨rfl, m, rfl⟩)
      go_quiet (fail)
      go_wp2_with fail
      refine wp_loop_rounds 1 ?_
      rw [rounds_succ]
      go_wp2_with fail
      go_ret2
      exact SignPost.mk ⟨1, false, rfl, (fun h => by cases h), by omega, (HS.out.drewN _).alloc _, ((Gr.refl w pb).drewN _).alloc _⟩
    · go_enter Tryz.func33, Tryz.ntmps33
      go_upto_region 6 with (go_at_call 8; refine (HP.out).mono ?_; rintro e w' ⟨rfl, m, rfl⟩)
      go_quiet (fail)
      go_wp2_with fail
      refine wp_loop_rounds 1 ?_
      rw [rounds_succ]
      go_wp2_with fail
      go_ret2
      exact SignPost.mk ⟨1, false, rfl, (fun h => by cases h), by omega, (HS.out.drewN _).alloc _, ((Gr.refl w pb).drewN _).alloc _⟩
    · have HE1 := Lib.hid hE1
      clear hE1
      go_enter Tryz.func33, Tryz.ntmps33
      go_upto_region 6 with (go_at_call 8; refine (HP.out).mono ?_; rintro e w' ⟨rfl, m, rfl⟩)
      go_quiet (fail)
      go_wp2_with fail
      refine wp_loop_rounds 1 ?_
      rw [rounds_succ]
      go_wp2_with fail
      go_ret2
      exact SignPost.mk ⟨E.size, true, rfl, fun _ => ⟨HE1.out, hE2⟩, hE3, (HS.out.drewN _).alloc _, ((Gr.refl w pb).drewN _).alloc _⟩
  · have hcv := fun (q c : Nat) => HCV.out q c 4 (by omega)
    have hmin : ((k : Int) + 4 < (B.length : Int)) := by omega
    have hmin2 : ¬ ((B.length : Int) ≤ (k : Int) + 4) := by omega
    clear hTl
    rcases hfin with h | ⟨h, hb⟩ | ⟨h, hb, hE1, hE2, hE3⟩
    · go_enter Tryz.func33, Tryz.ntmps33
      go_upto_region 6 with (go_at_call 8; refine (HP.out).mono ?_; rintro e w' ⟨rfl, m, rfl⟩)
      go_quiet (fail)
      go_wp2_with fail
      refine wp_loop_rounds 1 ?_
      rw [rounds_succ]
      go_wp2_with fail
      go_ret2
      exact SignPost.mk ⟨1, false, rfl, (fun h => by cases h), by omega, (HS.out.drewN _).alloc _, ((Gr.refl w pb).drewN _).alloc _⟩
    · go_enter Tryz.func33, Tryz.ntmps33
      go_upto_region 6 with (go_at_call 8; refine (HP.out).mono ?_; rintro e w' ⟨rfl, m, rfl⟩)
      go_quiet (fail)
      go_wp2_with fail
      refine wp_loop_rounds 1 ?_
      rw [rounds_succ]
      go_wp2_with fail
      go_ret2
      exact SignPost.mk ⟨1, false, rfl, (fun h => by cases h), by omega, (HS.out.drewN _).alloc _, ((Gr.refl w pb).drewN _).alloc _⟩
    · have HE1 := Lib.hid hE1
      clear hE1
      go_enter Tryz.func33, Tryz.ntmps33
      go_upto_region 6 with (go_at_call 8; refine (HP.out).mono ?_; rintro e w' ⟨rfl, m, rfl⟩)
      go_quiet (fail)
      go_wp2_with fail
      refine wp_loop_rounds 1 ?_
      rw [rounds_succ]
      go_wp2_with fail
      go_ret2
      exact SignPost.mk ⟨E.size, true, rfl, fun _ => ⟨HE1.out, hE2⟩, hE3, (HS.out.drewN _).alloc _, ((Gr.refl w pb).drewN _).alloc _⟩

theorem sign_any {w : World} {pb : Nat} {a : Addr} {C : Nat} {B : List UInt8} {k : Nat} {st : Int} (hS : SP w pb a C B k st) :
    Calls Tryz.prog 33 #[.pointer (some ⟨pb, 0, none⟩)] w (SignPost B k w pb a C st) := by
  rcases Nat.lt_or_ge (pk B k).toNat 128 with h | h
  · exact sign_low hS h
  · exact sign_high hS h
end Go.Proofs.YtalmpddmhakdmaaGreat
