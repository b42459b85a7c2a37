/-
  Plain mathematics for the seat Qxb6602372a: the forward escape scanner, the end of a bracketed value, the end of a scalar. No Go here.
-/
namespace Go.Proofs.Qxb6602372a.Pl

/-- The forward scanner: a backslash (92) passes over the byte behind it; the first quote (34) is the answer, else n. -/
def scan (d : Nat → Int) (n : Nat) : Nat → Nat → Nat
  | 0, _ => n
  | f + 1, i => if i < n then (if d i = 92 then scan d n f (i + 2) else if d i = 34 then i else scan d n f (i + 1)) else n

theorem scan_out {d : Nat → Int} {n f i : Nat} (h : n ≤ i) : scan d n f i = n := by
  cases f with
  | zero => rfl
  | succ f => unfold scan; rw [if_neg (by omega)]

theorem scan_fuel (d : Nat → Int) (n : Nat) : ∀ (f g i : Nat), n - i ≤ f → n - i ≤ g → scan d n f i = scan d n g i := by
  intro f
  induction f with
  | zero => intro g i h1 _; rw [scan_out (by omega), scan_out (by omega)]
  | succ f ih =>
    intro g i h1 h2
    cases g with
    | zero => rw [scan_out (by omega), scan_out (by omega)]
    | succ g =>
      unfold scan
      by_cases hi : i < n
      · rw [if_pos hi, if_pos hi]
        by_cases hb : d i = 92
        · rw [if_pos hb, if_pos hb]; exact ih g (i + 2) (by omega) (by omega)
        · rw [if_neg hb, if_neg hb]
          by_cases hq : d i = 34
          · rw [if_pos hq, if_pos hq]
          · rw [if_neg hq, if_neg hq]; exact ih g (i + 1) (by omega) (by omega)
      · rw [if_neg hi, if_neg hi]

def sEnd (d : Nat → Int) (n i : Nat) : Nat := scan d n (n - i) i

theorem sEnd_out {d : Nat → Int} {n i : Nat} (h : n ≤ i) : sEnd d n i = n := scan_out h

theorem sEnd_step {d : Nat → Int} {n i : Nat} (h : i < n) :
    sEnd d n i = if d i = 92 then sEnd d n (i + 2) else if d i = 34 then i else sEnd d n (i + 1) := by
  unfold sEnd
  rw [scan_fuel d n (n - i) (n - i + 1) i (by omega) (by omega), scan, if_pos h]
  rw [scan_fuel d n (n - i) (n - (i + 2)) (i + 2) (by omega) (by omega), scan_fuel d n (n - i) (n - (i + 1)) (i + 1) (by omega) (by omega)]

theorem sEnd_bs {d : Nat → Int} {n i : Nat} (h : i < n) (hb : d i = 92) : sEnd d n i = sEnd d n (i + 2) := by
  rw [sEnd_step h, if_pos hb]
theorem sEnd_q {d : Nat → Int} {n i : Nat} (h : i < n) (hq : d i = 34) : sEnd d n i = i := by
  rw [sEnd_step h, if_neg (by omega), if_pos hq]
theorem sEnd_o {d : Nat → Int} {n i : Nat} (h : i < n) (hb : d i ≠ 92) (hq : d i ≠ 34) : sEnd d n i = sEnd d n (i + 1) := by
  rw [sEnd_step h, if_neg hb, if_neg hq]

theorem sEnd_le (d : Nat → Int) (n : Nat) : ∀ (k i : Nat), n - i ≤ k → sEnd d n i ≤ n := by
  intro k
  induction k with
  | zero => intro i h; rw [sEnd_out (by omega)]; omega
  | succ k ih =>
    intro i h
    by_cases hi : i < n
    · rw [sEnd_step hi]
      split
      · exact ih _ (by omega)
      · split
        · omega
        · exact ih _ (by omega)
    · rw [sEnd_out (by omega)]; omega
theorem sEnd_le' (d : Nat → Int) (n i : Nat) : sEnd d n i ≤ n := sEnd_le d n _ i (Nat.le_refl _)

theorem sEnd_ge (d : Nat → Int) (n : Nat) : ∀ (k i : Nat), n - i ≤ k → i ≤ n → i ≤ sEnd d n i := by
  intro k
  induction k with
  | zero => intro i h hn; rw [sEnd_out (by omega)]; omega
  | succ k ih =>
    intro i h hn
    by_cases hi : i < n
    · rw [sEnd_step hi]
      split
      · by_cases h2 : i + 2 ≤ n
        · have := ih (i + 2) (by omega) h2; omega
        · rw [sEnd_out (by omega)]; omega
      · split
        · omega
        · have := ih (i + 1) (by omega) (by omega); omega
    · rw [sEnd_out (by omega)]; omega
theorem sEnd_ge' {d : Nat → Int} {n i : Nat} (h : i ≤ n) : i ≤ sEnd d n i := sEnd_ge d n _ i (Nat.le_refl _) h

/-- No quote from i on: the scanner runs to the end. -/
theorem sEnd_none (d : Nat → Int) (n : Nat) : ∀ (k i : Nat), n - i ≤ k → (∀ j, i ≤ j → j < n → d j ≠ 34) → sEnd d n i = n := by
  intro k
  induction k with
  | zero => intro i h _; exact sEnd_out (by omega)
  | succ k ih =>
    intro i h hq
    by_cases hi : i < n
    · rw [sEnd_step hi]
      split
      · exact ih _ (by omega) (fun j a b => hq j (by omega) b)
      · rw [if_neg (hq i (Nat.le_refl _) hi)]; exact ih _ (by omega) (fun j a b => hq j (by omega) b)
    · exact sEnd_out (by omega)

/-- No quote in i .. p, and the byte ahead of p is no backslash: the scanner comes to p. -/
theorem sEnd_upto (d : Nat → Int) (n p : Nat) (hp : p ≤ n) : ∀ (k i : Nat), p - i ≤ k → i ≤ p → (∀ j, i ≤ j → j < p → d j ≠ 34) → (p = i ∨ d (p - 1) ≠ 92) → sEnd d n i = sEnd d n p := by
  intro k
  induction k with
  | zero => intro i h hi _ _; rw [show i = p by omega]
  | succ k ih =>
    intro i h hi hq hl
    by_cases e : i = p
    · rw [e]
    · have hl' : d (p - 1) ≠ 92 := by
        rcases hl with h | h
        · omega
        · exact h
      rw [sEnd_step (by omega)]
      split
      · rename_i hb
        have : i + 1 ≠ p := by
          intro e2
          apply hl'
          rw [← e2]; exact hb
        exact ih _ (by omega) (by omega) (fun j a b => hq j (by omega) b) (.inr hl')
      · rw [if_neg (hq i (Nat.le_refl _) (by omega))]
        exact ih _ (by omega) (by omega) (fun j a b => hq j (by omega) b) (.inr hl')

/-- A run of backslashes from p to q. -/
theorem sEnd_run (d : Nat → Int) (n q : Nat) (hq : q ≤ n) : ∀ (k p : Nat), q - p ≤ k → p ≤ q → (∀ j, p ≤ j → j < q → d j = 92) →
    ((q - p) % 2 = 0 → sEnd d n p = sEnd d n q) ∧ ((q - p) % 2 = 1 → sEnd d n p = sEnd d n (q + 1)) := by
  intro k
  induction k with
  | zero => intro p h hp _; rw [show p = q by omega]; exact ⟨fun _ => rfl, fun h => by omega⟩
  | succ k ih =>
    intro p h hp hb
    by_cases e : p = q
    · rw [e]; exact ⟨fun _ => rfl, fun h => by omega⟩
    · have h92 := hb p (Nat.le_refl _) (by omega)
      rw [sEnd_bs (by omega) h92]
      by_cases e2 : p + 1 = q
      · refine ⟨fun h => by omega, fun _ => ?_⟩
        rw [show p + 2 = q + 1 by omega]
      · have hi := ih (p + 2) (by omega) (by omega) (fun j a b => hb j (by omega) b)
        exact ⟨fun h => hi.1 (by omega), fun h => hi.2 (by omega)⟩

/-- One round of closingQuote: the quote at q, bs backslashes ahead of it. -/
theorem close_round {d : Nat → Int} {n start i q bs : Nat} (hi : start ≤ i) (hiq : i ≤ q) (hq : q < n) (h34 : d q = 34) (hno : ∀ j, i ≤ j → j < q → d j ≠ 34)
    (hprev : i = start ∨ d (i - 1) = 34) (hbs : bs ≤ q - start) (hrun : ∀ j, q - bs ≤ j → j < q → d j = 92) (hstop : q - bs = start ∨ d (q - bs - 1) ≠ 92) :
    (bs % 2 = 0 → sEnd d n i = q) ∧ (bs % 2 = 1 → sEnd d n i = sEnd d n (q + 1)) := by
  have hpi : i ≤ q - bs := by
    by_cases h : i ≤ q - bs
    · exact h
    · exfalso
      rcases hprev with h1 | h1
      · omega
      · have := hrun (i - 1) (by omega) (by omega); omega
  have up := sEnd_upto d n (q - bs) (by omega) _ i (Nat.le_refl _) hpi (fun j a b => hno j a (by omega)) (by
    by_cases e : q - bs = i
    · exact .inl e
    · right
      rcases hstop with h | h
      · omega
      · exact h)
  have rn := sEnd_run d n q (by omega) _ (q - bs) (Nat.le_refl _) (by omega) hrun
  have eb : q - (q - bs) = bs := by omega
  rw [eb] at rn
  refine ⟨fun h => ?_, fun h => ?_⟩
  · rw [up, rn.1 h, sEnd_q hq h34]
  · rw [up, rn.2 h]

/-- The end of a bracketed value, read from i with depth dep. -/
def brk (d : Nat → Int) (n : Nat) : Nat → Int → Nat → Nat
  | 0, _, _ => n
  | f + 1, dep, i =>
    if i < n then
      (if d i = 34 then brk d n f dep (sEnd d n (i + 1) + 1)
       else if d i = 91 ∨ d i = 123 then brk d n f (dep + 1) (i + 1)
       else if d i = 93 ∨ d i = 125 then (if dep - 1 = 0 then i + 1 else brk d n f (dep - 1) (i + 1))
       else brk d n f dep (i + 1))
    else n

theorem brk_out {d : Nat → Int} {n f i : Nat} {dep : Int} (h : n ≤ i) : brk d n f dep i = n := by
  cases f with
  | zero => rfl
  | succ f => unfold brk; rw [if_neg (by omega)]

theorem brk_fuel (d : Nat → Int) (n : Nat) : ∀ (f g : Nat) (dep : Int) (i : Nat), n - i ≤ f → n - i ≤ g → brk d n f dep i = brk d n g dep i := by
  intro f
  induction f with
  | zero => intro g dep i h1 _; rw [brk_out (by omega), brk_out (by omega)]
  | succ f ih =>
    intro g dep i h1 h2
    cases g with
    | zero => rw [brk_out (by omega), brk_out (by omega)]
    | succ g =>
      unfold brk
      by_cases hi : i < n
      · have hs := sEnd_ge' (d := d) (n := n) (i := i + 1) (by omega)
        rw [if_pos hi, if_pos hi, ih g dep (sEnd d n (i + 1) + 1) (by omega) (by omega), ih g (dep + 1) (i + 1) (by omega) (by omega),
          ih g (dep - 1) (i + 1) (by omega) (by omega), ih g dep (i + 1) (by omega) (by omega)]
      · rw [if_neg hi, if_neg hi]

def bEnd (d : Nat → Int) (n : Nat) (dep : Int) (i : Nat) : Nat := brk d n (n - i) dep i

theorem bEnd_out {d : Nat → Int} {n i : Nat} {dep : Int} (h : n ≤ i) : bEnd d n dep i = n := brk_out h

theorem bEnd_step {d : Nat → Int} {n i : Nat} {dep : Int} (h : i < n) :
    bEnd d n dep i = if d i = 34 then bEnd d n dep (sEnd d n (i + 1) + 1)
       else if d i = 91 ∨ d i = 123 then bEnd d n (dep + 1) (i + 1)
       else if d i = 93 ∨ d i = 125 then (if dep - 1 = 0 then i + 1 else bEnd d n (dep - 1) (i + 1))
       else bEnd d n dep (i + 1) := by
  have hs := sEnd_ge' (d := d) (n := n) (i := i + 1) (by omega)
  unfold bEnd
  rw [brk_fuel d n (n - i) (n - i + 1) dep i (by omega) (by omega), brk, if_pos h,
    brk_fuel d n (n - i) (n - (sEnd d n (i + 1) + 1)) dep (sEnd d n (i + 1) + 1) (by omega) (by omega),
    brk_fuel d n (n - i) (n - (i + 1)) (dep + 1) (i + 1) (by omega) (by omega),
    brk_fuel d n (n - i) (n - (i + 1)) (dep - 1) (i + 1) (by omega) (by omega),
    brk_fuel d n (n - i) (n - (i + 1)) dep (i + 1) (by omega) (by omega)]

theorem bEnd_q {d : Nat → Int} {n i : Nat} {dep : Int} (h : i < n) (hq : d i = 34) : bEnd d n dep i = bEnd d n dep (sEnd d n (i + 1) + 1) := by
  rw [bEnd_step h, if_pos hq]
theorem bEnd_open {d : Nat → Int} {n i : Nat} {dep : Int} (h : i < n) (ho : d i = 91 ∨ d i = 123) : bEnd d n dep i = bEnd d n (dep + 1) (i + 1) := by
  rw [bEnd_step h, if_neg (by omega), if_pos ho]
theorem bEnd_shut {d : Nat → Int} {n i : Nat} {dep : Int} (h : i < n) (hc : d i = 93 ∨ d i = 125) (h0 : dep - 1 ≠ 0) : bEnd d n dep i = bEnd d n (dep - 1) (i + 1) := by
  rw [bEnd_step h, if_neg (by omega), if_neg (by omega), if_pos hc, if_neg h0]
theorem bEnd_last {d : Nat → Int} {n i : Nat} {dep : Int} (h : i < n) (hc : d i = 93 ∨ d i = 125) (h0 : dep - 1 = 0) : bEnd d n dep i = i + 1 := by
  rw [bEnd_step h, if_neg (by omega), if_neg (by omega), if_pos hc, if_pos h0]
theorem bEnd_o {d : Nat → Int} {n i : Nat} {dep : Int} (h : i < n) (h1 : d i ≠ 34) (h2 : d i ≠ 91) (h3 : d i ≠ 123) (h4 : d i ≠ 93) (h5 : d i ≠ 125) : bEnd d n dep i = bEnd d n dep (i + 1) := by
  rw [bEnd_step h, if_neg h1, if_neg (by omega), if_neg (by omega)]

theorem bEnd_le (d : Nat → Int) (n : Nat) : ∀ (k : Nat) (dep : Int) (i : Nat), n - i ≤ k → bEnd d n dep i ≤ n := by
  intro k
  induction k with
  | zero => intro dep i h; rw [bEnd_out (by omega)]; omega
  | succ k ih =>
    intro dep i h
    by_cases hi : i < n
    · have hs := sEnd_ge' (d := d) (n := n) (i := i + 1) (by omega)
      rw [bEnd_step hi]
      split
      · exact ih _ _ (by omega)
      · split
        · exact ih _ _ (by omega)
        · split
          · split
            · omega
            · exact ih _ _ (by omega)
          · exact ih _ _ (by omega)
    · rw [bEnd_out (by omega)]; omega

theorem bEnd_ge (d : Nat → Int) (n : Nat) : ∀ (k : Nat) (dep : Int) (i : Nat), n - i ≤ k → i < n → i < bEnd d n dep i := by
  intro k
  induction k with
  | zero => intro dep i h hi; omega
  | succ k ih =>
    intro dep i h hi
    have hs := sEnd_ge' (d := d) (n := n) (i := i + 1) (by omega)
    have key : ∀ (dep : Int) (j : Nat), i < j → i < bEnd d n dep j := by
      intro dep j hj
      by_cases h' : j < n
      · have := ih dep j (by omega) h'; omega
      · rw [bEnd_out (by omega)]; omega
    rw [bEnd_step hi]
    split
    · exact key _ _ (by omega)
    · split
      · exact key _ _ (by omega)
      · split
        · split
          · omega
          · exact key _ _ (by omega)
        · exact key _ _ (by omega)

/-- The bytes that a number or a literal may go on with. -/
def isS (c : Int) : Bool := decide (48 ≤ c ∧ c ≤ 57) || decide (97 ≤ c ∧ c ≤ 122) || decide (c = 43) || decide (c = 45) || decide (c = 46) || decide (c = 69)

def scal (d : Nat → Int) (n : Nat) : Nat → Nat → Nat
  | 0, i => i
  | f + 1, i => if i < n then (if isS (d i) = true then scal d n f (i + 1) else i) else i

def cEnd (d : Nat → Int) (n i : Nat) : Nat := scal d n (n - i) i

theorem cEnd_out {d : Nat → Int} {n i : Nat} (h : n ≤ i) : cEnd d n i = i := by
  unfold cEnd; rw [show n - i = 0 by omega]; rfl
theorem cEnd_go {d : Nat → Int} {n i : Nat} (h : i < n) (hs : isS (d i) = true) : cEnd d n i = cEnd d n (i + 1) := by
  unfold cEnd
  rw [show n - i = (n - (i + 1)) + 1 by omega, scal, if_pos h, if_pos hs]
theorem cEnd_stop {d : Nat → Int} {n i : Nat} (h : i < n) (hs : isS (d i) = false) : cEnd d n i = i := by
  unfold cEnd
  rw [show n - i = (n - (i + 1)) + 1 by omega, scal, if_pos h, if_neg (by rw [hs]; exact Bool.false_ne_true)]

theorem cEnd_ge (d : Nat → Int) (n : Nat) : ∀ (k i : Nat), n - i ≤ k → i ≤ cEnd d n i ∧ (i ≤ n → cEnd d n i ≤ n) := by
  intro k
  induction k with
  | zero => intro i h; rw [cEnd_out (by omega)]; exact ⟨Nat.le_refl _, fun h => h⟩
  | succ k ih =>
    intro i h
    by_cases hi : i < n
    · by_cases hs : isS (d i) = true
      · rw [cEnd_go hi hs]
        have := ih (i + 1) (by omega)
        exact ⟨by omega, fun _ => this.2 (by omega)⟩
      · rw [cEnd_stop hi (by simpa using hs)]; exact ⟨Nat.le_refl _, fun h => h⟩
    · rw [cEnd_out (by omega)]; exact ⟨Nat.le_refl _, fun h => h⟩

/-- The end of the value that starts at i. -/
def vEnd (d : Nat → Int) (n i : Nat) : Nat :=
  if d i = 34 then sEnd d n (i + 1) + 1 else if d i = 91 ∨ d i = 123 then bEnd d n 0 i else cEnd d n (i + 1)

theorem vEnd_gt {d : Nat → Int} {n i : Nat} (h : i < n) : i < vEnd d n i := by
  unfold vEnd
  split
  · have := sEnd_ge' (d := d) (n := n) (i := i + 1) (by omega); omega
  · split
    · exact bEnd_ge d n _ 0 i (Nat.le_refl _) h
    · have := (cEnd_ge d n _ (i + 1) (Nat.le_refl _)).1; omega
theorem vEnd_le {d : Nat → Int} {n i : Nat} (_h : i < n) : vEnd d n i ≤ n + 1 := by
  unfold vEnd
  split
  · have := sEnd_le' d n (i + 1); omega
  · split
    · have := bEnd_le d n _ 0 i (Nat.le_refl _); omega
    · have := (cEnd_ge d n _ (i + 1) (Nat.le_refl _)).2 (by omega); omega
theorem vEnd_quote {d : Nat → Int} {n i : Nat} (h : i < n) (hv : vEnd d n i = n + 1) : d i = 34 := by
  unfold vEnd at hv
  by_cases hq : d i = 34
  · exact hq
  · rw [if_neg hq] at hv
    split at hv
    · have := bEnd_le d n _ 0 i (Nat.le_refl _); omega
    · have := (cEnd_ge d n _ (i + 1) (Nat.le_refl _)).2 (by omega); omega

/-! The data cut to start at a. -/
theorem sEnd_shift (d : Nat → Int) (n a : Nat) (ha : a ≤ n) : ∀ (k j : Nat), n - a - j ≤ k → sEnd (fun t => d (a + t)) (n - a) j + a = sEnd d n (a + j) := by
  intro k
  induction k with
  | zero => intro j h; rw [sEnd_out (by omega), sEnd_out (by omega)]; omega
  | succ k ih =>
    intro j h
    by_cases hj : j < n - a
    · rw [sEnd_step hj, sEnd_step (i := a + j) (by omega)]
      by_cases h1 : d (a + j) = 92
      · rw [if_pos h1, if_pos h1]; exact ih (j + 2) (by omega)
      · rw [if_neg h1, if_neg h1]
        by_cases h2 : d (a + j) = 34
        · rw [if_pos h2, if_pos h2]; omega
        · rw [if_neg h2, if_neg h2]; exact ih (j + 1) (by omega)
    · rw [sEnd_out (by omega), sEnd_out (by omega)]; omega

theorem bEnd_shift (d : Nat → Int) (n a : Nat) (ha : a ≤ n) : ∀ (k : Nat) (dep : Int) (j : Nat), n - a - j ≤ k → bEnd (fun t => d (a + t)) (n - a) dep j + a = bEnd d n dep (a + j) := by
  intro k
  induction k with
  | zero => intro dep j h; rw [bEnd_out (by omega), bEnd_out (by omega)]; omega
  | succ k ih =>
    intro dep j h
    by_cases hj : j < n - a
    · have hs := sEnd_ge' (d := fun t => d (a + t)) (n := n - a) (i := j + 1) (by omega)
      have hsh := sEnd_shift d n a ha _ (j + 1) (Nat.le_refl _)
      rw [bEnd_step hj, bEnd_step (i := a + j) (by omega)]
      by_cases h1 : d (a + j) = 34
      · rw [if_pos h1, if_pos h1, ih dep _ (by omega)]
        rw [show a + j + 1 = a + (j + 1) by omega, ← hsh]
        congr 1; omega
      · rw [if_neg h1, if_neg h1]
        by_cases h2 : d (a + j) = 91 ∨ d (a + j) = 123
        · rw [if_pos h2, if_pos h2]; exact ih _ (j + 1) (by omega)
        · rw [if_neg h2, if_neg h2]
          by_cases h3 : d (a + j) = 93 ∨ d (a + j) = 125
          · rw [if_pos h3, if_pos h3]
            by_cases h4 : dep - 1 = 0
            · rw [if_pos h4, if_pos h4]; omega
            · rw [if_neg h4, if_neg h4]; exact ih _ (j + 1) (by omega)
          · rw [if_neg h3, if_neg h3]; exact ih _ (j + 1) (by omega)
    · rw [bEnd_out (by omega), bEnd_out (by omega)]; omega

theorem cEnd_shift (d : Nat → Int) (n a : Nat) (ha : a ≤ n) : ∀ (k j : Nat), n - a - j ≤ k → cEnd (fun t => d (a + t)) (n - a) j + a = cEnd d n (a + j) := by
  intro k
  induction k with
  | zero => intro j h; rw [cEnd_out (by omega), cEnd_out (by omega)]; omega
  | succ k ih =>
    intro j h
    by_cases hj : j < n - a
    · by_cases hs : isS (d (a + j)) = true
      · rw [cEnd_go hj hs, cEnd_go (i := a + j) (by omega) hs]; exact ih (j + 1) (by omega)
      · rw [cEnd_stop hj (by simpa using hs), cEnd_stop (i := a + j) (by omega) (by simpa using hs)]; omega
    · rw [cEnd_out (by omega), cEnd_out (by omega)]; omega

theorem vEnd_shift {d : Nat → Int} {n a : Nat} (ha : a < n) : vEnd (fun t => d (a + t)) (n - a) 0 + a = vEnd d n a := by
  have h1 := sEnd_shift d n a (by omega) _ 1 (Nat.le_refl _)
  have h2 := bEnd_shift d n a (by omega) _ 0 0 (Nat.le_refl _)
  have h3 := cEnd_shift d n a (by omega) _ 1 (Nat.le_refl _)
  unfold vEnd
  show (if d a = 34 then sEnd (fun t => d (a + t)) (n - a) 1 + 1 else if d a = 91 ∨ d a = 123 then bEnd (fun t => d (a + t)) (n - a) 0 0 else cEnd (fun t => d (a + t)) (n - a) 1) + a = _
  split
  · omega
  · split
    · exact h2
    · exact h3

/-! The data cut behind the value. -/
theorem sEnd_cut (d : Nat → Int) (n m : Nat) (hm : m ≤ n) : ∀ (k i : Nat), n - i ≤ k → sEnd d n i < m → sEnd d m i = sEnd d n i := by
  intro k
  induction k with
  | zero => intro i h hs; rw [sEnd_out (by omega)] at hs; omega
  | succ k ih =>
    intro i h hs
    by_cases hi : i < n
    · have hge := sEnd_ge' (d := d) (n := n) (i := i) (by omega)
      rw [sEnd_step hi] at hs ⊢
      rw [sEnd_step (show i < m by rw [← sEnd_step hi] at hs; omega)]
      by_cases h1 : d i = 92
      · rw [if_pos h1] at hs
        rw [if_pos h1, if_pos h1]; exact ih _ (by omega) hs
      · rw [if_neg h1] at hs
        rw [if_neg h1, if_neg h1]
        by_cases h2 : d i = 34
        · rw [if_pos h2, if_pos h2]
        · rw [if_neg h2] at hs
          rw [if_neg h2, if_neg h2]; exact ih _ (by omega) hs
    · rw [sEnd_out (by omega)] at hs; omega

theorem bEnd_cut (d : Nat → Int) (n : Nat) : ∀ (k : Nat) (dep : Int) (i : Nat), n - i ≤ k → i ≤ n → bEnd d (bEnd d n dep i) dep i = bEnd d n dep i := by
  intro k
  induction k with
  | zero => intro dep i h hi; rw [bEnd_out (show n ≤ i by omega), bEnd_out (by omega)]
  | succ k ih =>
    intro dep i h hin
    by_cases hi : i < n
    · by_cases hr : bEnd d n dep i = n
      · rw [hr, hr]
      · have hlt : bEnd d n dep i < n := by have := bEnd_le d n _ dep i (Nat.le_refl _); omega
        have hgt := bEnd_ge d n _ dep i (Nat.le_refl _) hi
        rw [bEnd_step (show i < bEnd d n dep i from hgt)]
        have hst := bEnd_step (d := d) (n := n) (dep := dep) hi
        by_cases h1 : d i = 34
        · rw [if_pos h1] at hst ⊢
          have hsl := sEnd_le' d n (i + 1)
          have hsg := sEnd_ge' (d := d) (n := n) (i := i + 1) (by omega)
          have hsn : sEnd d n (i + 1) + 1 < n := by
            by_cases hb : sEnd d n (i + 1) + 1 < n
            · exact hb
            · rw [bEnd_out (n := n) (i := sEnd d n (i + 1) + 1) (by omega)] at hst; omega
          have hgt2 := bEnd_ge d n _ dep (sEnd d n (i + 1) + 1) (Nat.le_refl _) hsn
          rw [hst, sEnd_cut d n (bEnd d n dep (sEnd d n (i + 1) + 1)) (by omega) _ (i + 1) (Nat.le_refl _) (by omega)]
          exact ih dep _ (by omega) (by omega)
        · rw [if_neg h1] at hst ⊢
          by_cases h2 : d i = 91 ∨ d i = 123
          · rw [if_pos h2] at hst ⊢
            rw [hst]; exact ih _ _ (by omega) (by omega)
          · rw [if_neg h2] at hst ⊢
            by_cases h3 : d i = 93 ∨ d i = 125
            · rw [if_pos h3] at hst ⊢
              by_cases h4 : dep - 1 = 0
              · rw [if_pos h4] at hst ⊢; omega
              · rw [if_neg h4] at hst ⊢
                rw [hst]; exact ih _ _ (by omega) (by omega)
            · rw [if_neg h3] at hst ⊢
              rw [hst]; exact ih _ _ (by omega) (by omega)
    · rw [bEnd_out (show n ≤ i by omega), bEnd_out (by omega)]

theorem cEnd_cut (d : Nat → Int) (n : Nat) : ∀ (k i : Nat), n - i ≤ k → i ≤ n → cEnd d (cEnd d n i) i = cEnd d n i := by
  intro k
  induction k with
  | zero => intro i h hi; rw [cEnd_out (show n ≤ i by omega), cEnd_out (by omega)]
  | succ k ih =>
    intro i h hin
    by_cases hi : i < n
    · by_cases hs : isS (d i) = true
      · have hg := (cEnd_ge d n _ (i + 1) (Nat.le_refl _)).1
        rw [cEnd_go hi hs, cEnd_go (show i < cEnd d n (i + 1) by omega) hs]; exact ih (i + 1) (by omega) (by omega)
      · rw [cEnd_stop hi (by simpa using hs), cEnd_out (Nat.le_refl _)]
    · rw [cEnd_out (show n ≤ i by omega), cEnd_out (by omega)]

theorem vEnd_cut {d : Nat → Int} {n i : Nat} (h : i < n) (hr : vEnd d n i ≤ n) : vEnd d (vEnd d n i) i = vEnd d n i := by
  have hg := vEnd_gt (d := d) h
  by_cases h1 : d i = 34
  · have e : vEnd d n i = sEnd d n (i + 1) + 1 := by unfold vEnd; rw [if_pos h1]
    have e2 : vEnd d (vEnd d n i) i = sEnd d (vEnd d n i) (i + 1) + 1 := by rw [vEnd, if_pos h1]
    rw [e2, sEnd_cut d n (vEnd d n i) hr _ (i + 1) (Nat.le_refl _) (by omega), e]
  · by_cases h2 : d i = 91 ∨ d i = 123
    · have e : vEnd d n i = bEnd d n 0 i := by unfold vEnd; rw [if_neg h1, if_pos h2]
      have e2 : vEnd d (vEnd d n i) i = bEnd d (vEnd d n i) 0 i := by rw [vEnd, if_neg h1, if_pos h2]
      rw [e2, e]; exact bEnd_cut d n _ 0 i (Nat.le_refl _) (by omega)
    · have e : vEnd d n i = cEnd d n (i + 1) := by unfold vEnd; rw [if_neg h1, if_neg h2]
      have e2 : vEnd d (vEnd d n i) i = cEnd d (vEnd d n i) (i + 1) := by rw [vEnd, if_neg h1, if_neg h2]
      rw [e2, e]; exact cEnd_cut d n _ (i + 1) (Nat.le_refl _) (by omega)

/-- The law's two last tests, plainly: cut out and cut behind. -/
theorem vEnd_own {d : Nat → Int} {n a : Nat} (ha : a < n) (hr : vEnd d n a ≤ n) : vEnd (fun t => d (a + t)) (vEnd d n a - a) 0 + a = vEnd d n a := by
  have hg := vEnd_gt (d := d) ha
  have := vEnd_shift (d := d) (n := vEnd d n a) (a := a) hg
  rw [this]; exact vEnd_cut ha hr

end Go.Proofs.Qxb6602372a.Pl
