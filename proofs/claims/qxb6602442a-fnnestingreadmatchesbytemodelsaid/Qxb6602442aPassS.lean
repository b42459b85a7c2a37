/-
  Contracts: backslashesEnding (23), passString (20).
-/
import Derived.Test.Qxb6602442aBase
import Derived.Deep.QuietTactic
import Derived.BigQuiet
import Derived.WalkSmall
namespace Go.Proofs.Qxb6602442a
open Go.RowKit
open Pl
theorem Try.info5 : (Try.prog.info? 5).map (fun i => (i.zero, i.size, i.bytes)) = some (some (.int .u8 0), 1, 1) := by kernel_rfl

theorem beq_t {a b : Int} (h : a = b) : (a == b) = true := by simpa using h
theorem beq_f {a b : Int} (h : a ≠ b) : (a == b) = false := by simpa using h
theorem ret_int {k : IntKind} {a b : Int} (h : a = b) : Ending.returned (.int k a) = .returned (.int k b) := by rw [h]

/-- Only block g may have turned. -/
def Only (g : Nat) (w w' : World) : Prop := w.grownBy w' (some g)
theorem Only.refl (g : Nat) (w : World) : Only g w w := ⟨rfl, rfl, rfl, Nat.le_refl _, fun _ _ _ => rfl⟩
theorem Only.set {g k : Nat} {w w' : World} (h : Only g w w') (v : Value) : Only g w (w'.setCell ⟨g, k, none⟩ v) :=
  ⟨h.os, h.tape, h.output, by simp [World.setCell]; exact h.size, fun i hi hne => by
    rw [Below.heap_setCell _ _ _ _ (by intro e; exact hne (by rw [e]))]; exact h.block i hi hne⟩
theorem Only.trans {g : Nat} {w w' w'' : World} (h : Only g w w') (h' : Only g w' w'') : Only g w w'' :=
  ⟨h'.os.trans h.os, h'.tape.trans h.tape, h'.output.trans h.output, Nat.le_trans h.size h'.size, fun i hi hne => (h'.block i (Nat.lt_of_lt_of_le hi h.size) hne).trans (h.block i hi hne)⟩
theorem Only.cells {g b o n : Nat} {d : Nat → Int} {w w' : World} (h : Only g w w') (hb : b ≠ g) (hc : Cells w b o n d) : Cells w' b o n d := by
  intro i hi
  have := hc i hi
  rw [← this]
  exact World.cell?_of_block (h.block b (World.block_lt_of_cell? w _ this) (by intro e; exact hb (by simpa using e)))
theorem Only.below {B g : Nat} {w0 w w' : World} (h : Only g w w') (hb : Below B w0 w) (hB : B ≤ w.heap.size) (hg : B ≤ g) : Below B w0 w' :=
  hb.grown h hB (fun k e => by simp at e; omega)
theorem Cells.below {B b o n : Nat} {d : Nat → Int} {w w' : World} (h : Below B w w') (hg : b < B) (hL : Cells w b o n d) : Cells w' b o n d := by
  intro i hi
  rw [← hL i hi]; exact World.cell?_of_block (h.block b hg)

theorem first_cut {d : Nat → Int} {n k : Nat} {cv r : Int} (hk : k ≤ n) (h : First (fun t => d (k + t)) (n - k) cv r) :
    (r = -1 ∧ ∀ j, k ≤ j → j < n → d j ≠ cv) ∨ ∃ q : Nat, r + (k : Int) = (q : Int) ∧ k ≤ q ∧ q < n ∧ d q = cv ∧ ∀ j, k ≤ j → j < q → d j ≠ cv := by
  rcases h with ⟨h1, h2⟩ | ⟨q, h1, h2, h3, h4⟩
  · refine .inl ⟨h1, fun j a b e => h2 (j - k) (by omega) ?_⟩
    show d (k + (j - k)) = cv
    rw [show k + (j - k) = j by omega]; exact e
  · refine .inr ⟨k + q, by omega, by omega, by omega, h3, fun j a b e => h4 (j - k) (by omega) ?_⟩
    show d (k + (j - k)) = cv
    rw [show k + (j - k) = j by omega]; exact e

/-- backslashesEnding of the places i .. q of a row. -/
def BE (d : Nat → Int) (l m : Nat) : Prop := m ≤ l ∧ (∀ j, l - m ≤ j → j < l → d j = 92) ∧ (m = l ∨ d (l - m - 1) ≠ 92)
theorem ends_of {d : Nat → Int} {i q m : Nat} (h : BE (fun t => d (i + t)) (q - i) m) (hiq : i ≤ q) : RunEnds d i q m := by
  obtain ⟨hm, h1, h2⟩ := h
  refine ⟨hm, fun j a b => ?_, ?_⟩
  · have : d (i + (j - i)) = 92 := h1 (j - i) (by omega) (by omega)
    rw [show i + (j - i) = j by omega] at this; exact this
  · by_cases e : q - m = i
    · exact .inl e
    · right
      rcases h2 with h | h
      · omega
      · change d (i + ((q - i) - m - 1)) ≠ 92 at h
        rw [show i + ((q - i) - m - 1) = q - m - 1 by omega] at h; exact h

set_option maxHeartbeats 1000000 in
theorem ending_any (b o l c : Nat) (d : Nat → Int) (w : World) (hc : Cells w b o l d) (hl : l ≤ 1048576) :
    Calls Try.prog 23 #[.slice (some ⟨b, o, none⟩) l c] w fun e w' => ∃ m : Nat, e = .returned (.int .i64 (m : Int)) ∧ w' = w ∧ BE d l m := by
  have HC : Hid (Cells w b o l d) := hc
  clear hc
  go_enter Try.func23, Try.ntmps23
  go_wp2
  go_loop [3] (fun x => ∃ m : Nat, m ≤ l ∧ Hid (∀ j, l - m ≤ j → j < l → d j = 92) ∧ x = .int .i64 (m : Int)) (fun x => l - (intOf x).toNat)
  case atStart => exact ⟨0, Nat.zero_le _, (fun j a b => by omega), rfl⟩
  case round =>
    obtain ⟨m, hm, HR, rfl⟩ := hrel
    by_cases hlt : m < l
    · obtain ⟨p, hp⟩ : ∃ p : Nat, p = l - m - 1 := ⟨_, rfl⟩
      have hcell := HC.out p (by omega)
      have hpi : (l : Int) - 1 - (m : Int) = (p : Int) := by omega
      by_cases e : d p = 92
      · have t := beq_t e
        have HR2 : Hid (∀ j, l - (m + 1) ≤ j → j < l → d j = 92) := fun j a b => by
          by_cases h : j = p
          · rw [h]; exact e
          · exact HR.out j (by omega) b
        clear e HR hp
        go_wp2
        go_round
        case rel => exact ⟨m + 1, by omega, HR2, by go_num⟩
        case measure => simp [intOf]; omega
      · have t := beq_f e
        have HX : Hid (d (l - m - 1) ≠ 92) := by rw [← hp]; exact e
        clear e hp
        go_wp2
        go_ret
        exact ⟨m, rfl, rfl, hm, HR.out, Or.inr HX.out⟩
    · go_wp2
      go_ret
      exact ⟨m, rfl, rfl, hm, HR.out, Or.inl (by omega)⟩

/-- A Nesting lies in block g: its depth, whether a string is open, whether an escape is pending; it may be written. -/
structure N3 (w : World) (g : Nat) (dep : Int) (inS esc : Bool) : Prop where
  c0 : w.cell? ⟨g, 0, none⟩ = some (.int .i64 dep)
  c1 : w.cell? ⟨g, 1, none⟩ = some (.bool inS)
  c2 : w.cell? ⟨g, 2, none⟩ = some (.bool esc)
  fz : ∀ i, w.frozen? ⟨g, i, none⟩ = false

theorem N3.set0 {w : World} {g : Nat} {dep : Int} {inS esc : Bool} (h : N3 w g dep inS esc) (x : Int) : N3 (w.setCell ⟨g, 0, none⟩ (.int .i64 x)) g x inS esc :=
  ⟨World.cell?_setCell_same _ _ _ h.c0, by rw [World.cell?_setCell_other _ _ _ _ (by simp)]; exact h.c1, by rw [World.cell?_setCell_other _ _ _ _ (by simp)]; exact h.c2, fun i => by rw [World.frozen?_setCell]; exact h.fz i⟩
theorem N3.set1 {w : World} {g : Nat} {dep : Int} {inS esc : Bool} (h : N3 w g dep inS esc) (x : Bool) : N3 (w.setCell ⟨g, 1, none⟩ (.bool x)) g dep x esc :=
  ⟨by rw [World.cell?_setCell_other _ _ _ _ (by simp)]; exact h.c0, World.cell?_setCell_same _ _ _ h.c1, by rw [World.cell?_setCell_other _ _ _ _ (by simp)]; exact h.c2, fun i => by rw [World.frozen?_setCell]; exact h.fz i⟩
theorem N3.set2 {w : World} {g : Nat} {dep : Int} {inS esc : Bool} (h : N3 w g dep inS esc) (x : Bool) : N3 (w.setCell ⟨g, 2, none⟩ (.bool x)) g dep inS x :=
  ⟨by rw [World.cell?_setCell_other _ _ _ _ (by simp)]; exact h.c0, by rw [World.cell?_setCell_other _ _ _ _ (by simp)]; exact h.c1, World.cell?_setCell_same _ _ _ h.c2, fun i => by rw [World.frozen?_setCell]; exact h.fz i⟩

/-- What passString leaves: r, and whether the string is still open. -/
def openAt (n r : Nat) (inS : Bool) : Bool := if r < n then false else inS

set_option maxHeartbeats 1000000 in
theorem passS_any (g b n c : Nat) (d : Nat → Int) (i : Nat) (dep : Int) (inS esc : Bool) (w : World) (hN : N3 w g dep inS esc) (hC : Cells w b 0 n d) (hd : ∀ i, i < n → 0 ≤ d i ∧ d i ≤ 255)
    (hn : n ≤ 1048576) (hnc : n ≤ c) (hcm : c ≤ maxLen) (hbg : b ≠ g) (hi : i < n) :
    Calls Try.prog 20 #[.pointer (some ⟨g, 0, none⟩), .slice (some ⟨b, 0, none⟩) n c, .int .i64 (i : Int)] w fun e w' => ∃ (r : Nat) (es : Bool), Hid (pass d n esc i = (r, es)) ∧ e = .returned (.int .i64 (r : Int)) ∧ Only g w w' ∧ N3 w' g dep (openAt n r inS) es := by
  unfold maxLen at hcm
  have HD : Hid (∀ i, i < n → 0 ≤ d i ∧ d i ≤ 255) := hd
  have HN : Hid (N3 w g dep inS esc) := hN
  have HC : Hid (Cells w b 0 n d) := hC
  have HBG : Hid (b ≠ g) := hbg
  have c2 := hN.c2
  have fz := hN.fz
  clear hN hC hbg hd
  cases esc with
  | true =>
    have HP : Hid (pass d n true i = pass d n false (i + 1)) := pass_esc hi
    go_enter Try.func20, Try.ntmps20
    go_wp2
    clear c2 fz
    go_loopw [2] (fun x wr => ∃ k : Nat, k ≤ n ∧ Hid (pass d n true i = pass d n false k) ∧ Hid (Only g w wr) ∧ Hid (N3 wr g dep inS false) ∧ x = .int .i64 (k : Int)) (fun x _ => n - (intOf x).toNat)
    case atStart => exact ⟨i + 1, by omega, HP, (Only.refl g w).set _, HN.out.set2 false, by go_num⟩
    case round =>
      obtain ⟨k, hk, HE, HO, HR, rfl⟩ := hrel
      have HCr : Hid (Cells wr b 0 n d) := HO.out.cells HBG.out HC.out
      have c2r := HR.out.c2
      have c1r := HR.out.c1
      have fzr := HR.out.fz
      by_cases hlt : k < n
      · have hib := ib_any b (0 + k) (n - k) (c - k) (fun t => d (k + t)) 34 wr (HCr.out.cut (by omega)) (fun i hi => HD.out _ (by omega)) (by omega)
        rw [Nat.zero_add] at hib
        go_wp2_with fail
        refine hib.mono ?_
        rintro e w' ⟨r, rfl, hw, hf⟩
        have hw2 := hw.symm
        subst hw2
        clear hib
        rcases first_cut hk hf with ⟨hr, hno⟩ | ⟨q, hr, hkq, hqn, h34, hno⟩
        · subst hr
          have hen := ending_any b (0 + k) (n - k) (c - k) (fun t => d (k + t)) wr (HCr.out.cut (by omega)) (by omega)
          rw [Nat.zero_add] at hen
          have HNo : Hid (∀ m, BE (fun t => d (k + t)) (n - k) m → pass d n true i = (n, decide (m % 2 = 1))) := fun m hm => by rw [HE.out]; exact pass_none hk hno (ends_of hm hk)
          clear hf hno
          go_wp2_with (go_at_call 23; refine hen.mono ?_; rintro e w' ⟨m, rfl, hw, hm⟩; have hw2 := hw.symm; subst hw2)
          go_ret
          refine ⟨n, decide (m % 2 = 1), HNo.out m hm, rfl, HO.out.set _, ?_⟩
          have e1 : openAt n n inS = inS := by unfold openAt; rw [if_neg (Nat.lt_irrefl _)]
          have e2 : ((m : Int) % 2 == 1) = decide (m % 2 = 1) := by rw [Bool.eq_iff_iff]; simp; omega
          rw [e1, ← e2]; exact HR.out.set2 _
        · obtain rfl : r = (q : Int) - (k : Int) := by omega
          have hen := ending_any b (0 + k) (q - k) (c - k) (fun t => d (k + t)) wr (HCr.out.cut (by omega)) (by omega)
          rw [Nat.zero_add] at hen
          have HEv : Hid (∀ m, BE (fun t => d (k + t)) (q - k) m → m % 2 = 0 → pass d n true i = (q, false)) := fun m hm h => by rw [HE.out]; exact pass_even hkq hqn h34 hno (ends_of hm hkq) h
          have HOd : Hid (∀ m, BE (fun t => d (k + t)) (q - k) m → m % 2 = 1 → pass d n true i = pass d n false (q + 1)) := fun m hm h => by rw [HE.out]; exact pass_odd hkq hqn hno (ends_of hm hkq) h
          clear hf hno h34 hr
          go_wp2_with fail
          refine hen.mono ?_
          rintro e w' ⟨m, rfl, hw, hm⟩
          have hw2 := hw.symm
          subst hw2
          clear hen
          by_cases hpar : m % 2 = 0
          · have hp' : ((m : Int) % 2 == 0) = true := by simp; omega
            have HX := HEv.out m hm hpar
            have HX' : Hid (pass d n true i = (q, false)) := HX
            clear HEv HOd hm hpar HX
            go_wp2
            go_ret
            refine ⟨q, false, HX', rfl, HO.out.set _, ?_⟩
            have e1 : openAt n q inS = false := by unfold openAt; rw [if_pos hqn]
            rw [e1]; exact HR.out.set1 _
          · have hp' : ((m : Int) % 2 == 0) = false := by simp; omega
            have HX' : Hid (pass d n true i = pass d n false (q + 1)) := HOd.out m hm (by omega)
            clear HEv HOd hm hpar
            go_wp2
            go_roundw
            case rel => exact ⟨q + 1, by omega, HX', HO, HR, by go_num⟩
            case measure => simp [intOf]; omega
      · have HX : Hid (pass d n true i = (n, false)) := by rw [HE.out, pass_out (by omega)]; exact rfl
        clear HE
        go_wp2
        go_ret
        refine ⟨n, false, HX, rfl, HO.out, ?_⟩
        have e1 : openAt n n inS = inS := by unfold openAt; rw [if_neg (Nat.lt_irrefl _)]
        rw [e1]; exact HR.out
  | false =>
    go_enter Try.func20, Try.ntmps20
    go_wp2
    clear c2 fz
    go_loopw [2] (fun x wr => ∃ k : Nat, k ≤ n ∧ Hid (pass d n false i = pass d n false k) ∧ Hid (Only g w wr) ∧ Hid (N3 wr g dep inS false) ∧ x = .int .i64 (k : Int)) (fun x _ => n - (intOf x).toNat)
    case atStart => exact ⟨i, by omega, rfl, Only.refl g w, HN.out, rfl⟩
    case round =>
      obtain ⟨k, hk, HE, HO, HR, rfl⟩ := hrel
      have HCr : Hid (Cells wr b 0 n d) := HO.out.cells HBG.out HC.out
      have c2r := HR.out.c2
      have c1r := HR.out.c1
      have fzr := HR.out.fz
      by_cases hlt : k < n
      · have hib := ib_any b (0 + k) (n - k) (c - k) (fun t => d (k + t)) 34 wr (HCr.out.cut (by omega)) (fun i hi => HD.out _ (by omega)) (by omega)
        rw [Nat.zero_add] at hib
        go_wp2_with fail
        refine hib.mono ?_
        rintro e w' ⟨r, rfl, hw, hf⟩
        have hw2 := hw.symm
        subst hw2
        clear hib
        rcases first_cut hk hf with ⟨hr, hno⟩ | ⟨q, hr, hkq, hqn, h34, hno⟩
        · subst hr
          have hen := ending_any b (0 + k) (n - k) (c - k) (fun t => d (k + t)) wr (HCr.out.cut (by omega)) (by omega)
          rw [Nat.zero_add] at hen
          have HNo : Hid (∀ m, BE (fun t => d (k + t)) (n - k) m → pass d n false i = (n, decide (m % 2 = 1))) := fun m hm => by rw [HE.out]; exact pass_none hk hno (ends_of hm hk)
          clear hf hno
          go_wp2_with (go_at_call 23; refine hen.mono ?_; rintro e w' ⟨m, rfl, hw, hm⟩; have hw2 := hw.symm; subst hw2)
          go_ret
          refine ⟨n, decide (m % 2 = 1), HNo.out m hm, rfl, HO.out.set _, ?_⟩
          have e1 : openAt n n inS = inS := by unfold openAt; rw [if_neg (Nat.lt_irrefl _)]
          have e2 : ((m : Int) % 2 == 1) = decide (m % 2 = 1) := by rw [Bool.eq_iff_iff]; simp; omega
          rw [e1, ← e2]; exact HR.out.set2 _
        · obtain rfl : r = (q : Int) - (k : Int) := by omega
          have hen := ending_any b (0 + k) (q - k) (c - k) (fun t => d (k + t)) wr (HCr.out.cut (by omega)) (by omega)
          rw [Nat.zero_add] at hen
          have HEv : Hid (∀ m, BE (fun t => d (k + t)) (q - k) m → m % 2 = 0 → pass d n false i = (q, false)) := fun m hm h => by rw [HE.out]; exact pass_even hkq hqn h34 hno (ends_of hm hkq) h
          have HOd : Hid (∀ m, BE (fun t => d (k + t)) (q - k) m → m % 2 = 1 → pass d n false i = pass d n false (q + 1)) := fun m hm h => by rw [HE.out]; exact pass_odd hkq hqn hno (ends_of hm hkq) h
          clear hf hno h34 hr
          go_wp2_with fail
          refine hen.mono ?_
          rintro e w' ⟨m, rfl, hw, hm⟩
          have hw2 := hw.symm
          subst hw2
          clear hen
          by_cases hpar : m % 2 = 0
          · have hp' : ((m : Int) % 2 == 0) = true := by simp; omega
            have HX := HEv.out m hm hpar
            have HX' : Hid (pass d n false i = (q, false)) := HX
            clear HEv HOd hm hpar HX
            go_wp2
            go_ret
            refine ⟨q, false, HX', rfl, HO.out.set _, ?_⟩
            have e1 : openAt n q inS = false := by unfold openAt; rw [if_pos hqn]
            rw [e1]; exact HR.out.set1 _
          · have hp' : ((m : Int) % 2 == 0) = false := by simp; omega
            have HX' : Hid (pass d n false i = pass d n false (q + 1)) := HOd.out m hm (by omega)
            clear HEv HOd hm hpar
            go_wp2
            go_roundw
            case rel => exact ⟨q + 1, by omega, HX', HO, HR, by go_num⟩
            case measure => simp [intOf]; omega
      · have HX : Hid (pass d n false i = (n, false)) := by rw [HE.out, pass_out (by omega)]; exact rfl
        clear HE
        go_wp2
        go_ret
        refine ⟨n, false, HX, rfl, HO.out, ?_⟩
        have e1 : openAt n n inS = inS := by unfold openAt; rw [if_neg (Nat.lt_irrefl _)]
        rw [e1]; exact HR.out
end Go.Proofs.Qxb6602442a
