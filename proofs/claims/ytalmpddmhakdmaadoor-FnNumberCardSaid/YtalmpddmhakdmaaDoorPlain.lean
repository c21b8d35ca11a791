/-
  Plain laws on the texts of numbers: the figures of a number, the text that the reference makes of a number, and that both ways to read a number text (the short one, and the long one behind which strokes were taken out) find the number again. No conditions but those that each law states.
-/
import Derived.KernelRfl
namespace Go.Proofs.YtalmpddmhakdmaaDoor
namespace Pl

/-- Is the byte a figure? -/
def isD (c : UInt8) : Bool := decide (48 ≤ c.toNat) && decide (c.toNat ≤ 57)
theorem isD_iff {c : UInt8} : isD c = true ↔ 48 ≤ c.toNat ∧ c.toNat ≤ 57 := by simp [isD]
theorem isD_not {c : UInt8} : isD c = false ↔ c.toNat < 48 ∨ 57 < c.toNat := by simp [isD]; omega

/-- The figures of a number, at least so many. -/
def figs (v n : Nat) : List UInt8 :=
  if _h : v = 0 ∧ n = 0 then [] else figs (v / 10) (n - 1) ++ [UInt8.ofNat (48 + v % 10)]
  termination_by v + n
  decreasing_by omega

theorem figs_nil : figs 0 0 = [] := by rw [figs]; simp
theorem figs_step {v n : Nat} (h : 0 < v ∨ 0 < n) : figs v n = figs (v / 10) (n - 1) ++ [UInt8.ofNat (48 + v % 10)] := by
  rw [figs, dif_neg (by omega)]

theorem dig_toNat (v : Nat) : (UInt8.ofNat (48 + v % 10)).toNat = 48 + v % 10 := by
  rw [UInt8.toNat_ofNat']
  omega

theorem figs_ind {P : Nat → Nat → Prop} (h0 : P 0 0) (h1 : ∀ v n, 0 < v ∨ 0 < n → P (v / 10) (n - 1) → P v n) : ∀ k v n, v + n ≤ k → P v n := by
  intro k
  induction k with
  | zero =>
    intro v n h
    obtain rfl : v = 0 := by omega
    obtain rfl : n = 0 := by omega
    exact h0
  | succ k ih =>
    intro v n h
    by_cases hv : 0 < v ∨ 0 < n
    · exact h1 v n hv (ih _ _ (by omega))
    · obtain rfl : v = 0 := by omega
      obtain rfl : n = 0 := by omega
      exact h0

theorem figs_digits (v n : Nat) : ∀ c ∈ figs v n, isD c = true := by
  refine figs_ind (P := fun v n => ∀ c ∈ figs v n, isD c = true) ?_ ?_ (v + n) v n (Nat.le_refl _)
  · rw [figs_nil]; simp
  · intro v n h ih c hc
    rw [figs_step h, List.mem_append] at hc
    rcases hc with hc | hc
    · exact ih c hc
    · rw [List.mem_singleton] at hc
      subst hc
      rw [isD_iff, dig_toNat]
      omega

/-- What figures tell, behind a number. -/
def valL (a : Nat) (l : List UInt8) : Nat := l.foldl (fun a c => a * 10 + (c.toNat - 48)) a

theorem valL_append (a : Nat) (l r : List UInt8) : valL a (l ++ r) = valL (valL a l) r := by simp [valL, List.foldl_append]
theorem valL_nil (a : Nat) : valL a [] = a := rfl
theorem valL_cons (a : Nat) (c : UInt8) (l : List UInt8) : valL a (c :: l) = valL (a * 10 + (c.toNat - 48)) l := by unfold valL; rw [List.foldl_cons]

theorem val_step (a v : Nat) (l : List UInt8) (h : valL a l = v / 10) : valL a (l ++ [UInt8.ofNat (48 + v % 10)]) = v := by
  rw [valL_append, h, valL_cons, valL_nil, dig_toNat]
  omega

theorem figs_val_le (k : Nat) : ∀ v n, v + n ≤ k → valL 0 (figs v n) = v := by
  induction k with
  | zero =>
    intro v n h
    obtain rfl : v = 0 := by omega
    obtain rfl : n = 0 := by omega
    rw [figs_nil, valL_nil]
  | succ k ih =>
    intro v n h
    by_cases hv : 0 < v ∨ 0 < n
    · rw [figs_step hv]
      exact val_step 0 v _ (ih _ _ (by omega))
    · obtain rfl : v = 0 := by omega
      obtain rfl : n = 0 := by omega
      rw [figs_nil, valL_nil]

theorem figs_val (v n : Nat) : valL 0 (figs v n) = v := figs_val_le (v + n) v n (Nat.le_refl _)

theorem figs_least (v n : Nat) : n ≤ (figs v n).length := by
  refine figs_ind (P := fun v n => n ≤ (figs v n).length) ?_ ?_ (v + n) v n (Nat.le_refl _)
  · simp
  · intro v n h ih
    rw [figs_step h, List.length_append, List.length_singleton]
    omega

theorem figs_most (k : Nat) : ∀ v n, v < 10 ^ k → n ≤ k → (figs v n).length ≤ k := by
  induction k with
  | zero =>
    intro v n hv hn
    obtain rfl : v = 0 := by simpa using hv
    obtain rfl : n = 0 := by omega
    rw [figs_nil]
    simp
  | succ k ih =>
    intro v n hv hn
    by_cases h : 0 < v ∨ 0 < n
    · rw [figs_step h, List.length_append, List.length_singleton]
      have := ih (v / 10) (n - 1) (by rw [Nat.pow_succ] at hv; omega) (by omega)
      omega
    · obtain rfl : v = 0 := by omega
      obtain rfl : n = 0 := by omega
      rw [figs_nil]
      simp

theorem figs_any (k : Nat) : ∀ v n, v < 10 ^ k → (figs v n).length ≤ k + n := by
  intro v n hv
  by_cases h : n ≤ k
  · have := figs_most k v n hv h
    omega
  · have := figs_most n v n (Nat.lt_of_lt_of_le hv (Nat.pow_le_pow_right (by omega) (by omega))) (Nat.le_refl _)
    omega

theorem valL_lt (l : List UInt8) (h : ∀ c ∈ l, isD c = true) : ∀ a, valL a l < (a + 1) * 10 ^ l.length := by
  induction l with
  | nil => intro a; simp [valL]
  | cons c l ih =>
    intro a
    have hc := isD_iff.1 (h c (by simp))
    have := ih (fun x hx => h x (by simp [hx])) (a * 10 + (c.toNat - 48))
    rw [valL_cons, List.length_cons, Nat.pow_succ]
    refine Nat.lt_of_lt_of_le this ?_
    rw [Nat.mul_comm (10 ^ l.length) 10, ← Nat.mul_assoc]
    exact Nat.mul_le_mul_right _ (by omega)

/-- The text of a number as the reference makes it: its figures, strokes where bits tell so, a point. -/
def bit (s k : Nat) : Bool := s / 2 ^ (k % 16) % 2 == 1
def piece (D : List UInt8) (b s k : Nat) : List UInt8 :=
  (if decide (0 < k) && (decide (D.length - k ≠ b) && bit s k) then [95] else []) ++ ((if decide (0 < k) && decide (D.length - k = b) then [46] else []) ++ (D.drop k).take 1)
def mant (D : List UInt8) (b s : Nat) : Nat → List UInt8
  | 0 => []
  | k + 1 => mant D b s k ++ piece D b s k
/-- The same without strokes. -/
def plain (D : List UInt8) (b k : Nat) : List UInt8 := (if decide (0 < k) && decide (D.length - k = b) then [46] else []) ++ (D.drop k).take 1
def plains (D : List UInt8) (b : Nat) : Nat → List UInt8
  | 0 => []
  | k + 1 => plains D b k ++ plain D b k

def noStroke (l : List UInt8) : List UInt8 := l.filter (fun c => c != 95)

theorem isD_ne {c : UInt8} (h : isD c = true) (n : UInt8) (hn : isD n = false) : c ≠ n := by
  rintro rfl
  rw [h] at hn
  cases hn

theorem noStroke_digits {l : List UInt8} (h : ∀ c ∈ l, isD c = true) : noStroke l = l := by
  unfold noStroke
  rw [List.filter_eq_self]
  intro c hc
  have := isD_ne (h c hc) 95 (by decide)
  simpa using this

theorem noStroke_append (l r : List UInt8) : noStroke (l ++ r) = noStroke l ++ noStroke r := by simp [noStroke]

theorem noStroke_piece {D : List UInt8} (h : ∀ c ∈ D, isD c = true) (b s k : Nat) : noStroke (piece D b s k) = plain D b k := by
  unfold piece plain
  rw [noStroke_append, noStroke_append, noStroke_digits (l := (D.drop k).take 1) (fun c hc => h c (List.mem_of_mem_drop (List.mem_of_mem_take hc)))]
  split <;> split <;> simp [noStroke]

theorem noStroke_mant {D : List UInt8} (h : ∀ c ∈ D, isD c = true) (b s k : Nat) : noStroke (mant D b s k) = plains D b k := by
  induction k with
  | zero => rfl
  | succ k ih => rw [mant, plains, noStroke_append, ih, noStroke_piece h]

/-- Without strokes: the figures ahead of the point, the point, the figures behind it. -/
theorem plains_ahead {D : List UInt8} {b : Nat} : ∀ k, k + b ≤ D.length → plains D b k = D.take k := by
  intro k
  induction k with
  | zero => intro _; simp [plains]
  | succ k ih =>
    intro h
    have hlt : k < D.length := by omega
    rw [plains, ih (by omega), plain]
    have : (decide (0 < k) && decide (D.length - k = b)) = false := by
      rw [Bool.and_eq_false_iff]
      right
      simp only [decide_eq_false_iff_not]
      omega
    rw [this, List.take_add]
    simp

theorem plains_behind {D : List UInt8} {b : Nat} (hb : 0 < b) (hl : b < D.length) : ∀ j, j < b → plains D b (D.length - b + (j + 1)) = D.take (D.length - b) ++ 46 :: (D.drop (D.length - b)).take (j + 1) := by
  intro j
  induction j with
  | zero =>
    intro _
    rw [show D.length - b + (0 + 1) = (D.length - b) + 1 from rfl, plains, plains_ahead _ (by omega), plain]
    have : (decide (0 < D.length - b) && decide (D.length - (D.length - b) = b)) = true := by
      rw [Bool.and_eq_true]
      simp only [decide_eq_true_eq]
      omega
    rw [this]
    simp
  | succ j ih =>
    intro h
    rw [show D.length - b + (j + 1 + 1) = (D.length - b + (j + 1)) + 1 from rfl, plains, ih (by omega), plain]
    have : (decide (0 < D.length - b + (j + 1)) && decide (D.length - (D.length - b + (j + 1)) = b)) = false := by
      rw [Bool.and_eq_false_iff]
      right
      simp only [decide_eq_false_iff_not]
      omega
    have hlt : j + 1 < (D.drop (D.length - b)).length := by rw [List.length_drop]; omega
    rw [this, List.take_add (i := j + 1) (j := 1), List.drop_drop]
    simp

/-- The clean text: figures, and where some are behind the point, the point between. -/
def clean (D : List UInt8) (b : Nat) : List UInt8 := D.take (D.length - b) ++ (if b = 0 then [] else 46 :: D.drop (D.length - b))

theorem plains_all {D : List UInt8} {b : Nat} (hl : b < D.length) : plains D b D.length = clean D b := by
  unfold clean
  by_cases hb : b = 0
  · subst hb
    rw [plains_ahead _ (by omega)]
    simp
  · have := plains_behind (D := D) (b := b) (by omega) hl (b - 1) (by omega)
    rw [show D.length - b + (b - 1 + 1) = D.length by omega, show b - 1 + 1 = b by omega] at this
    rw [this, if_neg hb, List.take_of_length_le (l := D.drop _) (by rw [List.length_drop]; omega)]

/-- The short reader's way over the figures and the point: what they tell, how many they are, how many stand behind the point, what is left. -/
def fscan : List UInt8 → Nat → Nat → Nat → Bool → Option (Nat × Nat × Nat × List UInt8)
  | [], m, d, f, _ => some (m, d, f, [])
  | c :: r, m, d, f, dot =>
    if isD c = true then (if 19 ≤ d then none else fscan r (m * 10 + (c.toNat - 48)) (d + 1) (if dot = true then f + 1 else f) dot)
    else if c = 46 then (if dot = true then none else fscan r m d f true)
    else some (m, d, f, c :: r)

theorem fscan_nil (m d f : Nat) (dot : Bool) : fscan [] m d f dot = some (m, d, f, []) := rfl
theorem fscan_digit {c : UInt8} (h : isD c = true) (r : List UInt8) {d : Nat} (hd : d < 19) (m f : Nat) (dot : Bool) : fscan (c :: r) m d f dot = fscan r (m * 10 + (c.toNat - 48)) (d + 1) (if dot = true then f + 1 else f) dot := by
  rw [fscan, if_pos h, if_neg (by omega)]
theorem fscan_full {c : UInt8} (h : isD c = true) (r : List UInt8) {d : Nat} (hd : 19 ≤ d) (m f : Nat) (dot : Bool) : fscan (c :: r) m d f dot = none := by
  rw [fscan, if_pos h, if_pos hd]
theorem fscan_dot (r : List UInt8) (m d f : Nat) (dot : Bool) : fscan (46 :: r) m d f dot = if dot = true then none else fscan r m d f true := by
  rw [fscan, if_neg (by decide), if_pos rfl]
theorem fscan_stop {c : UInt8} (h : isD c = false) (h' : c ≠ 46) (r : List UInt8) (m d f : Nat) (dot : Bool) : fscan (c :: r) m d f dot = some (m, d, f, c :: r) := by
  rw [fscan, if_neg (by rw [h]; decide), if_neg h']

theorem fscan_digits (l : List UInt8) (h : ∀ c ∈ l, isD c = true) : ∀ (r : List UInt8) (m d f : Nat) (dot : Bool), d + l.length ≤ 19 → fscan (l ++ r) m d f dot = fscan r (valL m l) (d + l.length) (if dot = true then f + l.length else f) dot := by
  induction l with
  | nil => intro r m d f dot _; simp [valL_nil]
  | cons c l ih =>
    intro r m d f dot hl
    rw [List.length_cons] at hl
    rw [List.cons_append, fscan_digit (h c (by simp)) _ (by omega), ih (fun x hx => h x (by simp [hx])) _ _ _ _ _ (by omega), valL_cons, List.length_cons]
    congr 1
    · omega
    · cases dot
      · rfl
      · simp only [if_true]
        omega

/-- What is left behind the figures begins with no figure and no point. -/
def Stops (r : List UInt8) : Prop := ∀ c t, r = c :: t → isD c = false ∧ c ≠ 46

theorem fscan_rest {r : List UInt8} (h : Stops r) (m d f : Nat) (dot : Bool) : fscan r m d f dot = some (m, d, f, r) := by
  cases r with
  | nil => rfl
  | cons c t => exact fscan_stop (h c t rfl).1 (h c t rfl).2 t m d f dot

theorem fscan_clean {D : List UInt8} {b : Nat} (hD : ∀ c ∈ D, isD c = true) (hl : D.length ≤ 19) (hb : b < D.length) {r : List UInt8} (hr : Stops r) : fscan (clean D b ++ r) 0 0 0 false = some (valL 0 D, D.length, b, r) := by
  have h1 : ∀ c ∈ D.take (D.length - b), isD c = true := fun c hc => hD c (List.mem_of_mem_take hc)
  have h2 : ∀ c ∈ D.drop (D.length - b), isD c = true := fun c hc => hD c (List.mem_of_mem_drop hc)
  have l1 : (D.take (D.length - b)).length = D.length - b := by rw [List.length_take]; omega
  have l2 : (D.drop (D.length - b)).length = b := by rw [List.length_drop]; omega
  have hv : valL (valL 0 (D.take (D.length - b))) (D.drop (D.length - b)) = valL 0 D := by rw [← valL_append, List.take_append_drop]
  unfold clean
  rw [List.append_assoc, fscan_digits _ h1 _ _ _ _ _ (by omega)]
  by_cases h0 : b = 0
  · subst h0
    rw [if_pos rfl, List.nil_append, fscan_rest hr, l1, List.take_of_length_le (by omega)]
    simp
  · rw [if_neg h0, List.cons_append, fscan_dot, if_neg (by decide), fscan_digits _ h2 _ _ _ _ _ (by omega), fscan_rest hr, hv, l1, l2]
    congr 2
    simp
    omega

/-- Figures with one point at most. -/
def okV : Bool → List UInt8 → Bool
  | _, [] => true
  | dot, c :: r => if isD c = true then okV dot r else (c == 46) && (!dot && okV true r)

theorem okV_digits (l : List UInt8) (h : ∀ c ∈ l, isD c = true) (dot : Bool) (r : List UInt8) : okV dot (l ++ r) = okV dot r := by
  induction l with
  | nil => rfl
  | cons c l ih =>
    rw [List.cons_append, okV, if_pos (h c (by simp))]
    exact ih (fun x hx => h x (by simp [hx]))

theorem okV_clean {D : List UInt8} {b : Nat} (hD : ∀ c ∈ D, isD c = true) : okV false (clean D b) = true := by
  have h1 : ∀ c ∈ D.take (D.length - b), isD c = true := fun c hc => hD c (List.mem_of_mem_take hc)
  have h2 : ∀ c ∈ D.drop (D.length - b), isD c = true := fun c hc => hD c (List.mem_of_mem_drop hc)
  unfold clean
  rw [okV_digits _ h1]
  by_cases h0 : b = 0
  · rw [if_pos h0]; rfl
  · rw [if_neg h0]
    have := okV_digits _ h2 true []
    rw [List.append_nil] at this
    show (if isD 46 = true then _ else _) = true
    rw [if_neg (by decide), this]
    rfl

theorem okV_prefix (l : List UInt8) : ∀ (dot : Bool) (r : List UInt8), okV dot (l ++ r) = true → okV dot l = true := by
  induction l with
  | nil => intro _ _ _; rfl
  | cons c l ih =>
    intro dot r h
    rw [List.cons_append, okV] at h
    rw [okV]
    by_cases hc : isD c = true
    · rw [if_pos hc] at h ⊢
      exact ih _ _ h
    · rw [if_neg hc] at h ⊢
      simp only [Bool.and_eq_true] at h ⊢
      exact ⟨h.1, h.2.1, ih _ _ h.2.2⟩

theorem fscan_okV (l : List UInt8) : ∀ (r : List UInt8) (m d f : Nat) (dot : Bool), okV dot l = true → d + l.length ≤ 19 → Stops r → ∃ m' d' f', fscan (l ++ r) m d f dot = some (m', d', f', r) ∧ d ≤ d' := by
  induction l with
  | nil => intro r m d f dot _ _ hr; exact ⟨m, d, f, fscan_rest hr m d f dot, Nat.le_refl _⟩
  | cons c l ih =>
    intro r m d f dot h hl hr
    rw [List.length_cons] at hl
    rw [okV] at h
    by_cases hc : isD c = true
    · rw [if_pos hc] at h
      obtain ⟨m', d', f', h', hd⟩ := ih r (m * 10 + (c.toNat - 48)) (d + 1) (if dot = true then f + 1 else f) dot h (by omega) hr
      exact ⟨m', d', f', by rw [List.cons_append, fscan_digit hc _ (by omega), h'], by omega⟩
    · rw [if_neg hc] at h
      simp only [Bool.and_eq_true, beq_iff_eq, Bool.not_eq_true'] at h
      obtain ⟨rfl, rfl, h⟩ := h
      obtain ⟨m', d', f', h', hd⟩ := ih r m d f true h (by omega) hr
      exact ⟨m', d', f', by rw [List.cons_append, fscan_dot, if_neg (by decide), h'], hd⟩

/-- The first stroke of a list. -/
theorem first_stroke (l : List UInt8) (h : 95 ∈ l) : ∃ v w, l = v ++ 95 :: w ∧ 95 ∉ v := by
  induction l with
  | nil => cases h
  | cons c l ih =>
    by_cases hc : c = 95
    · subst hc
      exact ⟨[], l, rfl, by simp⟩
    · have h' : 95 ∈ l := by
        rcases List.mem_cons.1 h with h | h
        · exact absurd h.symm hc
        · exact h
      obtain ⟨v, w, rfl, hv⟩ := ih h'
      exact ⟨c :: v, w, rfl, by simp [hv, Ne.symm hc]⟩

theorem noStroke_none {l : List UInt8} (h : 95 ∉ l) : noStroke l = l := by
  unfold noStroke
  rw [List.filter_eq_self]
  intro c hc
  simp only [bne_iff_ne, ne_eq]
  rintro rfl
  exact h hc

theorem mant_head {D : List UInt8} {b s : Nat} (k : Nat) (hD : D ≠ []) : ∃ c t, mant D b s (k + 1) = c :: t ∧ D = c :: D.drop 1 := by
  obtain ⟨c, D', rfl⟩ := List.exists_cons_of_ne_nil hD
  induction k with
  | zero => exact ⟨c, [], by simp [mant, piece], rfl⟩
  | succ k ih =>
    obtain ⟨c', t, h, h'⟩ := ih
    rw [mant, h]
    exact ⟨c', _, rfl, h'⟩

/-- A text with strokes: the short reader stops at the first stroke, behind a figure. -/
theorem fscan_stroke {D : List UInt8} {b s : Nat} (hD : ∀ c ∈ D, isD c = true) (hl : D.length ≤ 10) (hb : b < D.length) (h : 95 ∈ mant D b s D.length) (r : List UInt8) :
    ∃ m d f w, fscan (mant D b s D.length ++ r) 0 0 0 false = some (m, d, f, 95 :: w) ∧ 0 < d := by
  obtain ⟨v, w, e, hv⟩ := first_stroke _ h
  have hc : noStroke (mant D b s D.length) = clean D b := by rw [noStroke_mant hD, plains_all hb]
  rw [e, noStroke_append, noStroke_none hv] at hc
  have hok := okV_prefix v false _ (hc ▸ okV_clean hD)
  have hlen : (clean D b).length ≤ 11 := by
    unfold clean
    rw [List.length_append, List.length_take]
    split
    · simp; omega
    · rw [List.length_cons, List.length_drop]; omega
  have hvl : v.length ≤ 11 := by
    rw [← hc, List.length_append] at hlen
    omega
  have hst : Stops (95 :: (w ++ r)) := by
    intro c t e
    cases e
    exact ⟨by decide, by decide⟩
  obtain ⟨L, hL⟩ : ∃ L, D.length = L + 1 := ⟨D.length - 1, by omega⟩
  obtain ⟨c, t, e', hD'⟩ := mant_head (D := D) (b := b) (s := s) L (by intro e; rw [e] at hb; simp at hb)
  rw [← hL, e] at e'
  rw [e, List.append_assoc, List.cons_append]
  cases v with
  | nil =>
    simp only [List.nil_append] at e'
    injection e' with e1 e2
    have := hD c (by rw [hD']; simp)
    rw [← e1] at this
    cases this
  | cons x v =>
    have hx : isD x = true := by
      rw [List.cons_append] at e'
      injection e' with e1 e2
      rw [e1]
      exact hD c (by rw [hD']; simp)
    rw [okV, if_pos hx] at hok
    rw [List.length_cons] at hvl
    obtain ⟨m, d, f, h1, h2⟩ := fscan_okV v (95 :: (w ++ r)) (0 * 10 + (x.toNat - 48)) (0 + 1) 0 false hok (by omega) hst
    refine ⟨m, d, f, w ++ r, ?_, by omega⟩
    rw [List.cons_append, fscan_digit hx _ (by omega)]
    exact h1

/-- The long reader's way over the figures and the point: what they tell, how many without noughts ahead, where the point is, whether one was met, what is left. -/
def rscan : List UInt8 → Nat → Nat → Int → Bool → Nat × Nat × Int × Bool × List UInt8
  | [], m, nd, dp, dot => (m, nd, dp, dot, [])
  | c :: r, m, nd, dp, dot =>
    if isD c = true then (if c = 48 ∧ nd = 0 then rscan r m nd (dp - 1) dot else rscan r (m * 10 + (c.toNat - 48)) (nd + 1) dp dot)
    else if c = 46 then (if dot = true then (m, nd, dp, dot, c :: r) else rscan r m nd nd true)
    else (m, nd, dp, dot, c :: r)

theorem rscan_nought (r : List UInt8) (m : Nat) (dp : Int) (dot : Bool) : rscan (48 :: r) m 0 dp dot = rscan r m 0 (dp - 1) dot := by
  rw [rscan, if_pos (by decide), if_pos ⟨rfl, rfl⟩]
theorem rscan_digit {c : UInt8} (h : isD c = true) {nd : Nat} (h' : ¬ (c = 48 ∧ nd = 0)) (r : List UInt8) (m : Nat) (dp : Int) (dot : Bool) : rscan (c :: r) m nd dp dot = rscan r (m * 10 + (c.toNat - 48)) (nd + 1) dp dot := by
  rw [rscan, if_pos h, if_neg h']
theorem rscan_dot (r : List UInt8) (m nd : Nat) (dp : Int) (dot : Bool) : rscan (46 :: r) m nd dp dot = if dot = true then (m, nd, dp, dot, 46 :: r) else rscan r m nd nd true := by
  rw [rscan, if_neg (by decide), if_pos rfl]
theorem rscan_stop {c : UInt8} (h : isD c = false) (h' : c ≠ 46) (r : List UInt8) (m nd : Nat) (dp : Int) (dot : Bool) : rscan (c :: r) m nd dp dot = (m, nd, dp, dot, c :: r) := by
  rw [rscan, if_neg (by rw [h]; decide), if_neg h']
theorem rscan_rest {r : List UInt8} (h : Stops r) (m nd : Nat) (dp : Int) (dot : Bool) : rscan r m nd dp dot = (m, nd, dp, dot, r) := by
  cases r with
  | nil => rfl
  | cons c t => exact rscan_stop (h c t rfl).1 (h c t rfl).2 t m nd dp dot

theorem rscan_digits (l : List UInt8) (h : ∀ c ∈ l, isD c = true) : ∀ (r : List UInt8) (m nd : Nat) (dp : Int) (dot : Bool), (nd = 0 → m = 0) →
    ∃ nd' dp', rscan (l ++ r) m nd dp dot = rscan r (valL m l) nd' dp' dot ∧ dp' - nd' = dp - nd - l.length ∧ nd' ≤ nd + l.length ∧ (nd' = 0 → valL m l = 0) := by
  induction l with
  | nil => intro r m nd dp dot h0; exact ⟨nd, dp, by simp [valL_nil], by simp, by simp, by simpa [valL_nil] using h0⟩
  | cons c l ih =>
    intro r m nd dp dot h0
    have hc := h c (by simp)
    by_cases hn : c = 48 ∧ nd = 0
    · obtain ⟨rfl, rfl⟩ := hn
      obtain ⟨nd', dp', h1, h2, h3, h4⟩ := ih (fun x hx => h x (by simp [hx])) r m 0 (dp - 1) dot h0
      have hm : m = 0 := h0 rfl
      subst hm
      have e : valL 0 (48 :: l) = valL 0 l := by rw [valL_cons]; rfl
      exact ⟨nd', dp', by rw [List.cons_append, rscan_nought, h1, e], by rw [h2, List.length_cons]; omega, by rw [List.length_cons]; omega, by rw [e]; exact h4⟩
    · obtain ⟨nd', dp', h1, h2, h3, h4⟩ := ih (fun x hx => h x (by simp [hx])) r (m * 10 + (c.toNat - 48)) (nd + 1) dp dot (by omega)
      exact ⟨nd', dp', by rw [List.cons_append, rscan_digit hc hn, h1, valL_cons], by rw [h2, List.length_cons]; omega, by rw [List.length_cons]; omega, by rw [valL_cons]; exact h4⟩

theorem rscan_clean {D : List UInt8} {b : Nat} (hD : ∀ c ∈ D, isD c = true) (hb : b < D.length) {r : List UInt8} (hr : Stops r) :
    ∃ nd dp, rscan (clean D b ++ r) 0 0 0 false = (valL 0 D, nd, dp, decide (b ≠ 0), r) ∧ nd ≤ D.length ∧ (b ≠ 0 → dp - nd = -(b : Int)) := by
  have h1 : ∀ c ∈ D.take (D.length - b), isD c = true := fun c hc => hD c (List.mem_of_mem_take hc)
  have h2 : ∀ c ∈ D.drop (D.length - b), isD c = true := fun c hc => hD c (List.mem_of_mem_drop hc)
  have l1 : (D.take (D.length - b)).length = D.length - b := by rw [List.length_take]; omega
  have l2 : (D.drop (D.length - b)).length = b := by rw [List.length_drop]; omega
  have hv : valL (valL 0 (D.take (D.length - b))) (D.drop (D.length - b)) = valL 0 D := by rw [← valL_append, List.take_append_drop]
  unfold clean
  rw [List.append_assoc]
  by_cases h0 : b = 0
  · subst h0
    obtain ⟨nd, dp, g1, _, g3, _⟩ := rscan_digits _ h1 ([] ++ r) 0 0 0 false (fun _ => rfl)
    refine ⟨nd, dp, ?_, by omega, fun h => absurd rfl h⟩
    rw [if_pos rfl, g1, List.nil_append, rscan_rest hr, List.take_of_length_le (by omega)]
    rfl
  · obtain ⟨nd, dp, g1, _, g3, g4⟩ := rscan_digits _ h1 ((46 :: D.drop (D.length - b)) ++ r) 0 0 0 false (fun _ => rfl)
    obtain ⟨nd', dp', k1, k2, k3, _⟩ := rscan_digits _ h2 r (valL 0 (D.take (D.length - b))) nd (nd : Int) true g4
    refine ⟨nd', dp', ?_, by omega, fun _ => by omega⟩
    rw [if_neg h0, g1, List.cons_append, rscan_dot, if_neg (by decide), k1, rscan_rest hr, hv]
    simp [h0]

/-- The exponent's text. -/
def expo (p : Int) (b s : Nat) : List UInt8 :=
  if p ≠ 0 ∨ b = 0 then 101 :: ((if p < 0 then [45] else if s % 2 = 1 then [43] else []) ++ figs p.natAbs (1 + s / 2 % 2)) else []

theorem expo_stops (p : Int) (b s : Nat) : Stops (expo p b s) := by
  intro c t e
  unfold expo at e
  split at e
  · cases e
    exact ⟨by decide, by decide⟩
  · cases e

theorem valL_le (l : List UInt8) : ∀ a, a ≤ valL a l := by
  induction l with
  | nil => intro a; exact Nat.le_refl a
  | cons c l ih =>
    intro a
    have := ih (a * 10 + (c.toNat - 48))
    rw [valL_cons]
    omega

/-- What the short reader tells only grows; it is below ten to the number of figures. -/
theorem fscan_grows (l : List UInt8) : ∀ (m d f : Nat) (dot : Bool) (m' d' f' : Nat) (r : List UInt8), fscan l m d f dot = some (m', d', f', r) → m ≤ m' ∧ d ≤ d' ∧ d' ≤ d + l.length ∧ f ≤ f' := by
  induction l with
  | nil =>
    intro m d f dot m' d' f' r h
    cases h
    exact ⟨Nat.le_refl _, Nat.le_refl _, by simp, Nat.le_refl _⟩
  | cons c l ih =>
    intro m d f dot m' d' f' r h
    rw [fscan] at h
    rw [List.length_cons]
    split at h
    · split at h
      · cases h
      · have := ih _ _ _ _ _ _ _ _ h
        refine ⟨by omega, by omega, by omega, ?_⟩
        have h4 := this.2.2.2
        split at h4 <;> omega
    · split at h
      · split at h
        · cases h
        · have := ih _ _ _ _ _ _ _ _ h
          exact ⟨by omega, by omega, by omega, by omega⟩
      · cases h
        exact ⟨Nat.le_refl _, Nat.le_refl _, by omega, Nat.le_refl _⟩

theorem fscan_below (l : List UInt8) : ∀ (m d f : Nat) (dot : Bool) (m' d' f' : Nat) (r : List UInt8), fscan l m d f dot = some (m', d', f', r) → m < 10 ^ d → m' < 10 ^ d' := by
  induction l with
  | nil =>
    intro m d f dot m' d' f' r h hm
    cases h
    exact hm
  | cons c l ih =>
    intro m d f dot m' d' f' r h hm
    rw [fscan] at h
    split at h
    · rename_i hc
      have hd := isD_iff.1 hc
      split at h
      · cases h
      · refine ih _ _ _ _ _ _ _ _ h ?_
        rw [Nat.pow_succ]
        omega
    · split at h
      · split at h
        · cases h
        · exact ih _ _ _ _ _ _ _ _ h hm
      · cases h
        exact hm

/-- What stands behind the mantissa: nothing, or e, a sign or none, and figures. -/
theorem expo_forms (p : Int) (b s : Nat) (hp0 : -13 ≤ p) (hp1 : p ≤ 22) : (expo p b s = [] ∧ p = 0) ∨
    ∃ (sg : List UInt8) (ds : List UInt8) (minus : Bool), expo p b s = 101 :: (sg ++ ds) ∧ ((sg = [] ∧ minus = false) ∨ (sg = [43] ∧ minus = false) ∨ (sg = [45] ∧ minus = true)) ∧ ds ≠ [] ∧ (∀ c ∈ ds, isD c = true) ∧ valL 0 ds = p.natAbs ∧ ds.length ≤ 2 ∧ (p : Int) = (if minus = true then -(p.natAbs : Int) else p.natAbs) := by
  unfold expo
  by_cases h : p ≠ 0 ∨ b = 0
  · right
    rw [if_pos h]
    have hd := figs_digits p.natAbs (1 + s / 2 % 2)
    have hv := figs_val p.natAbs (1 + s / 2 % 2)
    have hl := figs_least p.natAbs (1 + s / 2 % 2)
    have hm := figs_most 2 p.natAbs (1 + s / 2 % 2) (by omega) (by omega)
    have hne : figs p.natAbs (1 + s / 2 % 2) ≠ [] := by
      intro e
      rw [e] at hl
      simp at hl
    by_cases hneg : p < 0
    · rw [if_pos hneg]
      exact ⟨[45], _, true, rfl, .inr (.inr ⟨rfl, rfl⟩), hne, hd, hv, hm, by simp; omega⟩
    · rw [if_neg hneg]
      split
      · exact ⟨[43], _, false, rfl, .inr (.inl ⟨rfl, rfl⟩), hne, hd, hv, hm, by simp; omega⟩
      · exact ⟨[], _, false, rfl, .inl ⟨rfl, rfl⟩, hne, hd, hv, hm, by simp; omega⟩
  · left
    rw [if_neg h]
    exact ⟨rfl, by omega⟩

theorem drop_cons {t r : List UInt8} {k : Nat} {c : UInt8} (h : t.drop k = c :: r) : k < t.length ∧ t[k]? = some c ∧ t.drop (k + 1) = r := by
  have hlt : k < t.length := by
    rcases Nat.lt_or_ge k t.length with h' | h'
    · exact h'
    · rw [List.drop_of_length_le h'] at h; cases h
  rw [List.drop_eq_getElem_cons hlt] at h
  injection h with h1 h2
  exact ⟨hlt, by rw [List.getElem?_eq_getElem hlt, h1], h2⟩

end Pl
end Go.Proofs.YtalmpddmhakdmaaDoor
