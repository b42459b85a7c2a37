/-
  Plain mathematics for the seat Qxb6602430a: lines, their count, their lengths, the first blank line. No Go here.
-/
namespace Go.Proofs.Qxb6602430a.Pl

/-- The byte at i is a line end that closes a blank line, if it is a line end at all. -/
def cb (d : Nat → Int) (i : Nat) : Bool := decide (i = 0 ∨ d (i - 1) = 10 ∨ (d (i - 1) = 13 ∧ (i = 1 ∨ d (i - 2) = 10)))
def closes (d : Nat → Int) (i : Nat) : Prop := d i = 10 ∧ cb d i = true

/-- How many line ends lie ahead of i. -/
def cnt (d : Nat → Int) : Nat → Nat
  | 0 => 0
  | i + 1 => if d i = 10 then cnt d i + 1 else cnt d i
/-- Where the line starts in which i lies. -/
def st (d : Nat → Int) : Nat → Nat
  | 0 => 0
  | i + 1 => if d i = 10 then i + 1 else st d i
def upd (f : Nat → Int) (k : Nat) (v : Int) : Nat → Int := fun j => if j = k then v else f j
/-- What the lengths hold behind the lines ahead of i. -/
def fl (d : Nat → Int) (m : Nat) (f : Nat → Int) : Nat → Nat → Int
  | 0 => f
  | i + 1 => if d i = 10 ∧ cnt d i < m then upd (fl d m f i) (cnt d i) ((i : Int) - (st d i : Int)) else fl d m f i

theorem cnt_le (d : Nat → Int) (i : Nat) : cnt d i ≤ i := by
  induction i with
  | zero => exact Nat.le_refl _
  | succ i ih => unfold cnt; split <;> omega
theorem st_le (d : Nat → Int) (i : Nat) : st d i ≤ i := by
  induction i with
  | zero => exact Nat.le_refl _
  | succ i ih => unfold st; split <;> omega

theorem cnt_hit {d : Nat → Int} {i : Nat} (h : d i = 10) : cnt d (i + 1) = cnt d i + 1 := by rw [cnt, if_pos h]
theorem cnt_miss {d : Nat → Int} {i : Nat} (h : d i ≠ 10) : cnt d (i + 1) = cnt d i := by rw [cnt, if_neg h]
theorem st_hit {d : Nat → Int} {i : Nat} (h : d i = 10) : st d (i + 1) = i + 1 := by rw [st, if_pos h]
theorem st_miss {d : Nat → Int} {i : Nat} (h : d i ≠ 10) : st d (i + 1) = st d i := by rw [st, if_neg h]
theorem fl_hit {d : Nat → Int} {m : Nat} {f : Nat → Int} {i : Nat} (h : d i = 10) (hm : cnt d i < m) : fl d m f (i + 1) = upd (fl d m f i) (cnt d i) ((i : Int) - (st d i : Int)) := by
  rw [fl, if_pos ⟨h, hm⟩]
theorem fl_full {d : Nat → Int} {m : Nat} {f : Nat → Int} {i : Nat} (hm : ¬ cnt d i < m) : fl d m f (i + 1) = fl d m f i := by
  rw [fl, if_neg (fun h => hm h.2)]
theorem fl_miss {d : Nat → Int} {m : Nat} {f : Nat → Int} {i : Nat} (h : d i ≠ 10) : fl d m f (i + 1) = fl d m f i := by
  rw [fl, if_neg (fun hh => h hh.1)]

/-- No line end from a to p: nothing turns. -/
theorem run_same (d : Nat → Int) (m : Nat) (f : Nat → Int) (a : Nat) : ∀ p, a ≤ p → (∀ j, a ≤ j → j < p → d j ≠ 10) → cnt d p = cnt d a ∧ st d p = st d a ∧ fl d m f p = fl d m f a := by
  intro p
  induction p with
  | zero => intro h _; rw [show a = 0 by omega]; exact ⟨rfl, rfl, rfl⟩
  | succ p ih =>
    intro h hno
    by_cases e : a = p + 1
    · rw [e]; exact ⟨rfl, rfl, rfl⟩
    · have hp := hno p (by omega) (by omega)
      have := ih (by omega) (fun j x y => hno j x (by omega))
      rw [cnt_miss hp, st_miss hp, fl_miss hp]; exact this

theorem closes_at {d : Nat → Int} {a p : Nat} (hst : a = 0 ∨ d (a - 1) = 10) (hap : a ≤ p) (hno : ∀ j, a ≤ j → j < p → d j ≠ 10) :
    cb d p = true ↔ (p = a ∨ (p = a + 1 ∧ d a = 13)) := by
  unfold cb
  rw [decide_eq_true_eq]
  by_cases e1 : p = a
  · subst e1
    constructor
    · intro _; exact .inl rfl
    · intro _
      rcases hst with h | h
      · exact .inl h
      · exact .inr (.inl h)
  · have n1 := hno (p - 1) (by omega) (by omega)
    by_cases e2 : p = a + 1
    · subst e2
      rw [show a + 1 - 1 = a by omega, show a + 1 - 2 = a - 1 by omega] at *
      constructor
      · intro h
        rcases h with h | h | h
        · omega
        · exact absurd h n1
        · exact .inr ⟨rfl, h.1⟩
      · intro h
        rcases h with h | h
        · omega
        · refine .inr (.inr ⟨h.2, ?_⟩)
          rcases hst with h' | h'
          · exact .inl (by omega)
          · exact .inr h'
    · have n2 := hno (p - 2) (by omega) (by omega)
      constructor
      · intro h
        rcases h with h | h | h
        · omega
        · exact absurd h n1
        · rcases h.2 with h' | h'
          · omega
          · exact absurd h' n2
      · intro h; omega

/-- The answer: the end and how far was scanned. -/
def EndIs (d : Nat → Int) (n : Nat) (E : Int) (S : Nat) : Prop :=
  (E = -1 ∧ S = n ∧ ∀ i, i < n → ¬ closes d i) ∨ (E = (S : Int) ∧ 0 < S ∧ S ≤ n ∧ closes d (S - 1) ∧ ∀ i, i < S - 1 → ¬ closes d i)

theorem EndIs.unique {d : Nat → Int} {n : Nat} {E E' : Int} {S S' : Nat} (h : EndIs d n E S) (h' : EndIs d n E' S') : E = E' ∧ S = S' := by
  rcases h with ⟨h1, h2, h3⟩ | ⟨h1, h2, h3, h4, h5⟩
  · rcases h' with ⟨g1, g2, g3⟩ | ⟨g1, g2, g3, g4, g5⟩
    · exact ⟨by omega, by omega⟩
    · exact absurd g4 (h3 _ (by omega))
  · rcases h' with ⟨g1, g2, g3⟩ | ⟨g1, g2, g3, g4, g5⟩
    · exact absurd h4 (g3 _ (by omega))
    · have : S = S' := by
        by_cases a : S < S'
        · exact absurd h4 (g5 _ (by omega))
        · by_cases b : S' < S
          · exact absurd g4 (h5 _ (by omega))
          · omega
      exact ⟨by omega, this⟩

theorem EndIs.le {d : Nat → Int} {n : Nat} {E : Int} {S : Nat} (h : EndIs d n E S) : S ≤ n ∧ -1 ≤ E ∧ E ≤ (n : Int) := by
  rcases h with ⟨h1, h2, h3⟩ | ⟨h1, h2, h3, h4, h5⟩ <;> omega

theorem upd_same (f : Nat → Int) (k : Nat) (v : Int) : upd f k v k = v := by unfold upd; rw [if_pos rfl]
theorem upd_other {f : Nat → Int} {k j : Nat} {v : Int} (h : j ≠ k) : upd f k v j = f j := by unfold upd; rw [if_neg h]

end Go.Proofs.Qxb6602430a.Pl
