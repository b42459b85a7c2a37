/-
  Plain mathematics for the seat Qxb6602442a: a string's bytes passed one by one; a text's nesting read one byte at a time. No Go here.
-/
namespace Go.Proofs.Qxb6602442a.Pl

/-- The bytes of a string from k on, e: is the byte at k escaped? Where the closing quote lies (n: nowhere), and whether an escape is pending then. -/
def pm (d : Nat → Int) (n : Nat) : Nat → Bool → Nat → Nat × Bool
  | 0, e, _ => (n, e)
  | f + 1, e, k => if k < n then (if e = true then pm d n f false (k + 1) else if d k = 92 then pm d n f true (k + 1) else if d k = 34 then (k, false) else pm d n f false (k + 1)) else (n, e)

def pass (d : Nat → Int) (n : Nat) (e : Bool) (k : Nat) : Nat × Bool := pm d n (n - k) e k

theorem pass_out {d : Nat → Int} {n k : Nat} {e : Bool} (h : n ≤ k) : pass d n e k = (n, e) := by
  unfold pass; rw [show n - k = 0 by omega]; rfl
theorem pass_step {d : Nat → Int} {n k : Nat} {e : Bool} (h : k < n) :
    pass d n e k = if e = true then pass d n false (k + 1) else if d k = 92 then pass d n true (k + 1) else if d k = 34 then (k, false) else pass d n false (k + 1) := by
  unfold pass
  rw [show n - k = (n - (k + 1)) + 1 by omega, pm, if_pos h]
theorem pass_esc {d : Nat → Int} {n k : Nat} (h : k < n) : pass d n true k = pass d n false (k + 1) := by rw [pass_step h, if_pos rfl]
theorem pass_bs {d : Nat → Int} {n k : Nat} (h : k < n) (hb : d k = 92) : pass d n false k = pass d n true (k + 1) := by
  rw [pass_step h, if_neg Bool.false_ne_true, if_pos hb]
theorem pass_q {d : Nat → Int} {n k : Nat} (h : k < n) (hq : d k = 34) : pass d n false k = (k, false) := by
  rw [pass_step h, if_neg Bool.false_ne_true, if_neg (by omega), if_pos hq]
theorem pass_o {d : Nat → Int} {n k : Nat} (h : k < n) (hb : d k ≠ 92) (hq : d k ≠ 34) : pass d n false k = pass d n false (k + 1) := by
  rw [pass_step h, if_neg Bool.false_ne_true, if_neg hb, if_neg hq]

theorem pass_le (d : Nat → Int) (n : Nat) : ∀ (j k : Nat) (e : Bool), n - k ≤ j → (pass d n e k).1 ≤ n ∧ (k ≤ n → k ≤ (pass d n e k).1) ∧ ((pass d n e k).1 < n → (pass d n e k).2 = false) := by
  intro j
  induction j with
  | zero => intro k e h; rw [pass_out (by omega)]; exact ⟨Nat.le_refl _, fun h => h, fun h => absurd h (Nat.lt_irrefl _)⟩
  | succ j ih =>
    intro k e h
    by_cases hk : k < n
    · have key : ∀ e', (pass d n e' (k + 1)).1 ≤ n ∧ (k ≤ n → k ≤ (pass d n e' (k + 1)).1) ∧ ((pass d n e' (k + 1)).1 < n → (pass d n e' (k + 1)).2 = false) := by
        intro e'
        have := ih (k + 1) e' (by omega)
        exact ⟨this.1, fun _ => by have := this.2.1 (by omega); omega, this.2.2⟩
      rw [pass_step hk]
      split
      · exact key _
      · split
        · exact key _
        · split
          · exact ⟨Nat.le_of_lt hk, fun _ => Nat.le_refl _, fun _ => rfl⟩
          · exact key _
    · rw [pass_out (by omega)]; exact ⟨Nat.le_refl _, fun h => by omega, fun h => absurd h (Nat.lt_irrefl _)⟩

/-- No quote in i .. p, and the byte ahead of p is no backslash: the pass comes to p. -/
theorem pass_upto (d : Nat → Int) (n p : Nat) (hp : p ≤ n) : ∀ (k i : Nat), p - i ≤ k → i ≤ p → (∀ j, i ≤ j → j < p → d j ≠ 34) → (p = i ∨ d (p - 1) ≠ 92) → pass d n false i = pass d n false p := by
  intro k
  induction k with
  | zero => intro i h hi _ _; rw [show i = p by omega]
  | succ k ih =>
    intro i h hi hq hl
    by_cases e : i = p
    · rw [e]
    · have hl' : d (p - 1) ≠ 92 := by
        rcases hl with h | h
        · omega
        · exact h
      by_cases hb : d i = 92
      · have : i + 1 ≠ p := by
          intro e2
          apply hl'
          rw [← e2]; exact hb
        rw [pass_bs (by omega) hb, pass_esc (by omega)]
        exact ih (i + 1 + 1) (by omega) (by omega) (fun j a b => hq j (by omega) b) (.inr hl')
      · rw [pass_o (by omega) hb (hq i (Nat.le_refl _) (by omega))]
        exact ih (i + 1) (by omega) (by omega) (fun j a b => hq j (by omega) b) (.inr hl')

/-- A run of backslashes from p to q. -/
theorem pass_run (d : Nat → Int) (n q : Nat) (hq : q ≤ n) : ∀ (k p : Nat), q - p ≤ k → p ≤ q → (∀ j, p ≤ j → j < q → d j = 92) →
    ((q - p) % 2 = 0 → pass d n false p = pass d n false q) ∧ ((q - p) % 2 = 1 → pass d n false p = pass d n true q) := by
  intro k
  induction k with
  | zero => intro p h hp _; rw [show p = q by omega]; exact ⟨fun _ => rfl, fun h => by omega⟩
  | succ k ih =>
    intro p h hp hb
    by_cases e : p = q
    · rw [e]; exact ⟨fun _ => rfl, fun h => by omega⟩
    · rw [pass_bs (by omega) (hb p (Nat.le_refl _) (by omega))]
      by_cases e2 : p + 1 = q
      · refine ⟨fun h => by omega, fun _ => ?_⟩
        rw [e2]
      · rw [pass_esc (by omega)]
        have hi := ih (p + 1 + 1) (by omega) (by omega) (fun j a b => hb j (by omega) b)
        exact ⟨fun h => hi.1 (by omega), fun h => hi.2 (by omega)⟩

/-- m backslashes end the places i .. q. -/
def RunEnds (d : Nat → Int) (i q m : Nat) : Prop := m ≤ q - i ∧ (∀ j, q - m ≤ j → j < q → d j = 92) ∧ (q - m = i ∨ d (q - m - 1) ≠ 92)

theorem pass_ends {d : Nat → Int} {n i q m : Nat} (hiq : i ≤ q) (hq : q ≤ n) (hno : ∀ j, i ≤ j → j < q → d j ≠ 34) (he : RunEnds d i q m) :
    (m % 2 = 0 → pass d n false i = pass d n false q) ∧ (m % 2 = 1 → pass d n false i = pass d n true q) := by
  obtain ⟨h1, h2, h3⟩ := he
  have up := pass_upto d n (q - m) (by omega) _ i (Nat.le_refl _) (by omega) (fun j a b => hno j a (by omega)) h3
  have rn := pass_run d n q hq _ (q - m) (Nat.le_refl _) (by omega) h2
  rw [show q - (q - m) = m by omega] at rn
  rw [up]; exact rn

/-- No quote to the end. -/
theorem pass_none {d : Nat → Int} {n i m : Nat} (hi : i ≤ n) (hno : ∀ j, i ≤ j → j < n → d j ≠ 34) (he : RunEnds d i n m) : pass d n false i = (n, decide (m % 2 = 1)) := by
  have h := pass_ends hi (Nat.le_refl n) hno he
  by_cases hm : m % 2 = 1
  · rw [h.2 hm, pass_out (Nat.le_refl _), decide_eq_true hm]
  · rw [h.1 (by omega), pass_out (Nat.le_refl _), decide_eq_false hm]
theorem pass_even {d : Nat → Int} {n i q m : Nat} (hiq : i ≤ q) (hq : q < n) (h34 : d q = 34) (hno : ∀ j, i ≤ j → j < q → d j ≠ 34) (he : RunEnds d i q m) (hm : m % 2 = 0) : pass d n false i = (q, false) := by
  rw [(pass_ends hiq (by omega) hno he).1 hm, pass_q hq h34]
theorem pass_odd {d : Nat → Int} {n i q m : Nat} (hiq : i ≤ q) (hq : q < n) (hno : ∀ j, i ≤ j → j < q → d j ≠ 34) (he : RunEnds d i q m) (hm : m % 2 = 1) : pass d n false i = pass d n false (q + 1) := by
  rw [(pass_ends hiq (by omega) hno he).2 hm, pass_esc hq]

/-- The nesting read one byte at a time; W: what an int's sum or difference wraps to. -/
def rd (W : Int → Int) (d : Nat → Int) (n : Nat) (each : Bool) : Nat → Int → Bool → Bool → Nat → Int × Int × Bool × Bool
  | 0, dep, inS, esc, _ => (-1, dep, inS, esc)
  | f + 1, dep, inS, esc, k =>
    if k < n then
      (if inS = true then
        (if esc = true then rd W d n each f dep true false (k + 1) else if d k = 92 then rd W d n each f dep true true (k + 1)
         else if d k = 34 then rd W d n each f dep false false (k + 1) else rd W d n each f dep true false (k + 1))
       else if d k = 34 then rd W d n each f dep true esc (k + 1)
       else if d k = 123 ∨ d k = 91 then (if each = true then ((k : Int) + 1, W (dep + 1), false, esc) else rd W d n each f (W (dep + 1)) false esc (k + 1))
       else if d k = 125 ∨ d k = 93 then (if each = true ∨ W (dep - 1) = 0 then ((k : Int) + 1, W (dep - 1), false, esc) else rd W d n each f (W (dep - 1)) false esc (k + 1))
       else rd W d n each f dep false esc (k + 1))
    else (-1, dep, inS, esc)

def read (W : Int → Int) (d : Nat → Int) (n : Nat) (each : Bool) (dep : Int) (inS esc : Bool) (k : Nat) : Int × Int × Bool × Bool := rd W d n each (n - k) dep inS esc k

section
variable {W : Int → Int} {d : Nat → Int} {n k : Nat} {each : Bool} {dep : Int} {inS esc : Bool}
theorem read_out (h : n ≤ k) : read W d n each dep inS esc k = (-1, dep, inS, esc) := by
  unfold read; rw [show n - k = 0 by omega]; rfl
theorem read_step (h : k < n) : read W d n each dep inS esc k =
      (if inS = true then
        (if esc = true then read W d n each dep true false (k + 1) else if d k = 92 then read W d n each dep true true (k + 1)
         else if d k = 34 then read W d n each dep false false (k + 1) else read W d n each dep true false (k + 1))
       else if d k = 34 then read W d n each dep true esc (k + 1)
       else if d k = 123 ∨ d k = 91 then (if each = true then ((k : Int) + 1, W (dep + 1), false, esc) else read W d n each (W (dep + 1)) false esc (k + 1))
       else if d k = 125 ∨ d k = 93 then (if each = true ∨ W (dep - 1) = 0 then ((k : Int) + 1, W (dep - 1), false, esc) else read W d n each (W (dep - 1)) false esc (k + 1))
       else read W d n each dep false esc (k + 1)) := by
  unfold read
  rw [show n - k = (n - (k + 1)) + 1 by omega, rd, if_pos h]

theorem read_s_esc (h : k < n) : read W d n each dep true true k = read W d n each dep true false (k + 1) := by rw [read_step h, if_pos rfl, if_pos rfl]
theorem read_s_bs (h : k < n) (hb : d k = 92) : read W d n each dep true false k = read W d n each dep true true (k + 1) := by
  rw [read_step h, if_pos rfl, if_neg Bool.false_ne_true, if_pos hb]
theorem read_s_q (h : k < n) (hq : d k = 34) : read W d n each dep true false k = read W d n each dep false false (k + 1) := by
  rw [read_step h, if_pos rfl, if_neg Bool.false_ne_true, if_neg (by omega), if_pos hq]
theorem read_s_o (h : k < n) (hb : d k ≠ 92) (hq : d k ≠ 34) : read W d n each dep true false k = read W d n each dep true false (k + 1) := by
  rw [read_step h, if_pos rfl, if_neg Bool.false_ne_true, if_neg hb, if_neg hq]
theorem read_q (h : k < n) (hq : d k = 34) : read W d n each dep false esc k = read W d n each dep true esc (k + 1) := by
  rw [read_step h, if_neg Bool.false_ne_true, if_pos hq]
theorem read_open (h : k < n) (ho : d k = 123 ∨ d k = 91) (he : each = false) : read W d n each dep false esc k = read W d n each (W (dep + 1)) false esc (k + 1) := by
  rw [read_step h, if_neg Bool.false_ne_true, if_neg (by omega), if_pos ho, if_neg (by rw [he]; exact Bool.false_ne_true)]
theorem read_open_e (h : k < n) (ho : d k = 123 ∨ d k = 91) (he : each = true) : read W d n each dep false esc k = ((k : Int) + 1, W (dep + 1), false, esc) := by
  rw [read_step h, if_neg Bool.false_ne_true, if_neg (by omega), if_pos ho, if_pos he]
theorem read_shut (h : k < n) (hc : d k = 125 ∨ d k = 93) (he : each = false) (h0 : W (dep - 1) ≠ 0) : read W d n each dep false esc k = read W d n each (W (dep - 1)) false esc (k + 1) := by
  rw [read_step h, if_neg Bool.false_ne_true, if_neg (by omega), if_neg (by omega), if_pos hc, if_neg (by intro hh; rcases hh with hh | hh; · rw [he] at hh; exact Bool.false_ne_true hh
                                                                                                          · exact h0 hh)]
theorem read_shut_e (h : k < n) (hc : d k = 125 ∨ d k = 93) (he : each = true ∨ W (dep - 1) = 0) : read W d n each dep false esc k = ((k : Int) + 1, W (dep - 1), false, esc) := by
  rw [read_step h, if_neg Bool.false_ne_true, if_neg (by omega), if_neg (by omega), if_pos hc, if_pos he]
theorem read_o (h : k < n) (h1 : d k ≠ 34) (h2 : d k ≠ 123) (h3 : d k ≠ 91) (h4 : d k ≠ 125) (h5 : d k ≠ 93) : read W d n each dep false esc k = read W d n each dep false esc (k + 1) := by
  rw [read_step h, if_neg Bool.false_ne_true, if_neg h1, if_neg (by omega), if_neg (by omega)]
end

/-- Inside a string: read goes on behind the string's closing quote, as 'pass' finds it. -/
theorem read_pass (W : Int → Int) (d : Nat → Int) (n : Nat) (each : Bool) (dep : Int) : ∀ (j k : Nat) (esc : Bool), n - k ≤ j →
    read W d n each dep true esc k = if (pass d n esc k).1 < n then read W d n each dep false false ((pass d n esc k).1 + 1) else (-1, dep, true, (pass d n esc k).2) := by
  intro j
  induction j with
  | zero => intro k esc h; rw [pass_out (by omega), read_out (by omega), if_neg (Nat.lt_irrefl _)]
  | succ j ih =>
    intro k esc h
    by_cases hk : k < n
    · cases esc with
      | true => rw [read_s_esc hk, pass_esc hk]; exact ih (k + 1) false (by omega)
      | false =>
        by_cases h1 : d k = 92
        · rw [read_s_bs hk h1, pass_bs hk h1]; exact ih (k + 1) true (by omega)
        · by_cases h2 : d k = 34
          · rw [read_s_q hk h2, pass_q hk h2, if_pos hk]
          · rw [read_s_o hk h1 h2, pass_o hk h1 h2]; exact ih (k + 1) false (by omega)
    · rw [pass_out (by omega), read_out (by omega), if_neg (Nat.lt_irrefl _)]

end Go.Proofs.Qxb6602442a.Pl
