/-
  The contract of headEnd (37), and small laws on rows of bytes and of int32 numbers.
-/
import Derived.Test.Qxb6602430aBase
import Derived.Test.Qxb6602430aPlain
namespace Go.Proofs.Qxb6602430a
open Go.RowKit
open Pl

theorem beq_t {a b : Int} (h : a = b) : (a == b) = true := by simpa using h
theorem beq_f {a b : Int} (h : a ≠ b) : (a == b) = false := by simpa using h

/-- m cells of block g hold the int32 numbers f 0, f 1, .., and may be written. -/
def Lens (w : World) (g m : Nat) (f : Nat → Int) : Prop := ∀ i, i < m → w.cell? ⟨g, i, none⟩ = some (.int .i32 (f i)) ∧ w.frozen? ⟨g, i, none⟩ = false

theorem Lens.set {w : World} {g m k : Nat} {f : Nat → Int} (h : Lens w g m f) (hk : k < m) (v : Int) : Lens (w.setCell ⟨g, k, none⟩ (.int .i32 v)) g m (upd f k v) := by
  intro i hi
  refine ⟨?_, by rw [World.frozen?_setCell]; exact (h i hi).2⟩
  by_cases e : i = k
  · subst e
    rw [World.cell?_setCell_same _ _ _ (h i hi).1, upd_same]
  · rw [World.cell?_setCell_other _ _ _ _ (by intro hh; exact e (by simpa using hh.symm)), upd_other e]; exact (h i hi).1

theorem Cells.set {w : World} {b o n g k : Nat} {d : Nat → Int} (h : Cells w b o n d) (hb : b ≠ g) (v : Value) : Cells (w.setCell ⟨g, k, none⟩ v) b o n d := by
  intro i hi
  rw [World.cell?_setCell_other _ _ _ _ (by intro hh; exact hb (by simpa using (congrArg Addr.block hh).symm))]
  exact h i hi

/-- Only block g may have turned. -/
def Only (g : Nat) (w w' : World) : Prop := w.grownBy w' (some g)
theorem Only.refl (g : Nat) (w : World) : Only g w w := ⟨rfl, rfl, rfl, Nat.le_refl _, fun _ _ _ => rfl⟩
theorem Only.set {g k : Nat} {w w' : World} (h : Only g w w') (v : Value) : Only g w (w'.setCell ⟨g, k, none⟩ v) :=
  ⟨h.os, h.tape, h.output, by simp [World.setCell]; exact h.size, fun i hi hne => by
    rw [Below.heap_setCell _ _ _ _ (by intro e; exact hne (by rw [e]))]; exact h.block i hi hne⟩
theorem Only.cells {g b o n : Nat} {d : Nat → Int} {w w' : World} (h : Only g w w') (hb : b ≠ g) (hc : Cells w b o n d) : Cells w' b o n d := by
  intro i hi
  have := hc i hi
  rw [← this]
  exact World.cell?_of_block (h.block b (World.block_lt_of_cell? w _ this) (by intro e; exact hb (by simpa using e)))

theorem first_cut {d : Nat → Int} {n k : Nat} {cv r : Int} (hk : k ≤ n) (h : First (fun t => d (k + t)) (n - k) cv r) :
    (r = -1 ∧ ∀ j, k ≤ j → j < n → d j ≠ cv) ∨ ∃ q : Nat, r + (k : Int) = (q : Int) ∧ k ≤ q ∧ q < n ∧ d q = cv ∧ ∀ j, k ≤ j → j < q → d j ≠ cv := by
  rcases h with ⟨h1, h2⟩ | ⟨q, h1, h2, h3, h4⟩
  · refine .inl ⟨h1, fun j a b e => h2 (j - k) (by omega) ?_⟩
    show d (k + (j - k)) = cv
    rw [show k + (j - k) = j by omega]; exact e
  · refine .inr ⟨k + q, by omega, by omega, by omega, h3, fun j a b e => h4 (j - k) (by omega) ?_⟩
    show d (k + (j - k)) = cv
    rw [show k + (j - k) = j by omega]; exact e

theorem conv_any (b a l c : Nat) (d : Nat → Int) (w : World) (hc : Cells w b a l d) (hd : ∀ i, i < l → 0 ≤ d i ∧ d i ≤ 255) :
    ∃ sb : ByteArray, (convert 30 9 (.slice (some ⟨b, a, none⟩) l c)).run Try.prog w = .ok (.string sb) w ∧ (sb.toList = [13] ↔ l = 1 ∧ d 0 = 13) := by
  refine ⟨_, run_convert_bytes_arg (P := Try.prog) w 30 5 Try.underlying30 Try.underlying5 b a l c ((List.range l).map d) (by simp) (fun i hi => by rw [hc i hi]; simp [hi]) 9 Try.underlying9, ?_⟩
  have e : (strOfNums ((List.range l).map d)).toList = (List.range l).map fun i => UInt8.ofNat (d i).toNat := by
    rw [Lib.strOfNums_toList]
    simp [Lib.bytesOf]
  rw [e]
  constructor
  · intro h
    have hl : l = 1 := by simpa using congrArg List.length h
    subst hl
    have h2 := congrArg (fun x => x.map UInt8.toNat) h
    simp at h2
    have := hd 0 (by omega)
    exact ⟨rfl, by omega⟩
  · rintro ⟨rfl, h⟩
    simp [h]

theorem st_start {d : Nat → Int} {a : Nat} (h : a = 0 ∨ d (a - 1) = 10) : st d a = a := by
  cases a with
  | zero => rfl
  | succ a =>
    rcases h with h | h
    · omega
    · exact st_hit h

/-- The three ways of the test for a blank line. -/
theorem three {d : Nat → Int} {a q : Nat} {sb : ByteArray} (hcl : cb d q = true ↔ (q = a ∨ (q = a + 1 ∧ d a = 13))) (hsb : sb.toList = [13] ↔ q - a = 1 ∧ (fun t => d (a + t)) 0 = 13) (h : a ≤ q) :
    (q - a = 0 ∧ cb d q = true) ∨ (¬ q - a = 0 ∧ (sb.toList == [13]) = true ∧ cb d q = true) ∨ (¬ q - a = 0 ∧ (sb.toList == [13]) = false ∧ cb d q = false) := by
  change sb.toList = [13] ↔ q - a = 1 ∧ d a = 13 at hsb
  by_cases h0 : q - a = 0
  · exact .inl ⟨h0, hcl.2 (.inl (by omega))⟩
  · by_cases hs : sb.toList = [13]
    · have := hsb.1 hs
      exact .inr (.inl ⟨h0, by rw [hs]; rfl, hcl.2 (.inr ⟨by omega, this.2⟩)⟩)
    · refine .inr (.inr ⟨h0, by simpa using hs, ?_⟩)
      by_cases hb : cb d q = true
      · exfalso
        rcases hcl.1 hb with h1 | h1
        · omega
        · exact hs (hsb.2 ⟨by omega, h1.2⟩)
      · simpa using hb

theorem ret_two {a b x y : Int} (h1 : a = x) (h2 : b = y) : Ending.returned (.tuple #[.int .i64 a, .int .i64 b]) = .returned (.tuple #[.int .i64 x, .int .i64 y]) := by rw [h1, h2]

set_option maxHeartbeats 1000000 in
theorem head_any (b n c : Nat) (d : Nat → Int) (aL : Option Addr) (m cL g : Nat) (f : Nat → Int) (w : World) (hC : Cells w b 0 n d) (hd : ∀ i, i < n → 0 ≤ d i ∧ d i ≤ 255)
    (hn : n ≤ 524288) (hm : m ≤ 65536) (hnc : n ≤ c) (hcm : c ≤ maxLen) (hbg : b ≠ g) (haL : 0 < m → aL = some ⟨g, 0, none⟩) (hL : Lens w g m f) :
    Calls Try.prog 37 #[.slice (some ⟨b, 0, none⟩) n c, .slice aL m cL] w fun e w' => ∃ (E : Int) (S : Nat), EndIs d n E S ∧ e = .returned (.tuple #[.int .i64 E, .int .i64 ((cnt d S : Nat) : Int)]) ∧ Only g w w' ∧ Lens w' g m (fl d m f S) := by
  unfold maxLen at hcm
  have HC : Hid (Cells w b 0 n d) := hC
  have HD : Hid (∀ i, i < n → 0 ≤ d i ∧ d i ≤ 255) := hd
  have HAL : Hid (0 < m → aL = some ⟨g, 0, none⟩) := haL
  have HBG : Hid (b ≠ g) := hbg
  have HL0 : Hid (Lens w g m f) := hL
  clear hC hd haL hbg hL
  go_enter Try.func37, Try.ntmps37
  go_wp2
  go_loopw [5, 6] (fun x y wr => ∃ a k : Nat, a ≤ n ∧ k ≤ a ∧ Hid (k = cnt d a) ∧ Hid (a = 0 ∨ d (a - 1) = 10) ∧ Hid (∀ i, i < a → ¬ closes d i) ∧ Only g w wr ∧ Lens wr g m (fl d m f a) ∧ x = .int .i64 (k : Int) ∧ y = .int .i64 (a : Int)) (fun _ y _ => n - (intOf y).toNat)
  case atStart => exact ⟨0, 0, Nat.zero_le _, Nat.le_refl _, rfl, Or.inl rfl, (fun i hi => absurd hi (Nat.not_lt_zero _)), Only.refl _ _, HL0.out, rfl, rfl⟩
  case round =>
    obtain ⟨a, k, ha, hka, HK, HS, HN, hO, hLn, rfl, rfl⟩ := hrel
    have hCr := hO.cells HBG.out HC.out
    have HI : ∀ (o' c' : Nat), Hid (a = n ∨ o' = 0 + a) → Calls Try.prog 47 #[.slice (some ⟨b, o', none⟩) (n - a) c', .int .u8 10] wr fun e w' => ∃ r : Int, e = .returned (.int .i64 r) ∧ w' = wr ∧ First (fun t => d (a + t)) (n - a) 10 r := by
      intro o' c' h
      refine ib_any b o' (n - a) c' (fun t => d (a + t)) 10 wr ?_ (fun i hi => HD.out _ (by omega)) (by omega)
      rcases h.out with h | rfl
      · intro i hi; omega
      · exact hCr.cut (by omega)
    have HNo : Hid ((∀ j, a ≤ j → j < n → d j ≠ 10) → EndIs d n (-1) n ∧ cnt d n = k ∧ fl d m f n = fl d m f a) := by
      intro hno
      have hr := run_same d m f a n ha hno
      refine ⟨.inl ⟨rfl, rfl, fun i hi hcl => ?_⟩, ?_, hr.2.2⟩
      · by_cases h : i < a
        · exact HN.out i h hcl
        · exact hno i (by omega) hi hcl.1
      · rw [hr.1]; exact HK.out.symm
    have HCr : Hid (Cells wr b 0 n d) := hCr
    have HLn : Hid (Lens wr g m (fl d m f a)) := hLn
    have HO : Hid (Only g w wr) := hO
    clear hCr hLn hO
    go_wp2_with fail
    · have h2 := HI 0 0 (Or.inl (by omega))
      clear HI
      refine h2.mono ?_
      rintro e w' ⟨r, rfl, hw, hf⟩
      subst hw
      rcases first_cut ha hf with ⟨hr, hno⟩ | ⟨q, hr, hkq, hqn, h34, hno⟩
      · subst hr
        obtain ⟨hE, hc1, hf1⟩ := HNo.out hno
        have HE : Hid (EndIs d n (-1) n ∧ cnt d n = k ∧ fl d m f n = fl d m f a) := ⟨hE, hc1, hf1⟩
        clear hno hf h2 hE hc1 hf1
        go_wp2
        go_ret2
        exact ⟨-1, n, HE.out.1, by rw [HE.out.2.1]; rfl, HO.out, by rw [HE.out.2.2]; exact HLn.out⟩
      · omega
    · have h2 := HI a (c - a) (Or.inr (by omega))
      clear HI
      refine h2.mono ?_
      rintro e w' ⟨r, rfl, hw, hf⟩
      subst hw
      rcases first_cut ha hf with ⟨hr, hno⟩ | ⟨q, hr, hkq, hqn, h34, hno⟩
      · subst hr
        obtain ⟨hE, hc1, hf1⟩ := HNo.out hno
        have HE : Hid (EndIs d n (-1) n ∧ cnt d n = k ∧ fl d m f n = fl d m f a) := ⟨hE, hc1, hf1⟩
        clear hno hf h2 hE hc1 hf1
        go_wp2
        go_ret2
        exact ⟨-1, n, HE.out.1, by rw [HE.out.2.1]; rfl, HO.out, by rw [HE.out.2.2]; exact HLn.out⟩
      · obtain rfl : r = (q : Int) - (a : Int) := by omega
        have hcl := closes_at HS.out hkq hno
        have hrs := run_same d m f a q hkq hno
        have H10 : Hid (d q = 10) := h34
        clear hf h2 hr
        have hcq : cnt d (q + 1) = k + 1 := by rw [cnt_hit h34, hrs.1, HK.out]
        have hsta : st d q = a := by rw [hrs.2.1, st_start HS.out]
        have HCQ : Hid (cnt d (q + 1) = k + 1) := hcq
        have HEnd : Hid (cb d q = true → EndIs d n ((q + 1 : Nat) : Int) (q + 1)) := fun h => .inr ⟨rfl, by omega, by omega, ⟨h34, h⟩, fun i hi hc => by
          by_cases h2 : i < a
          · exact HN.out i h2 hc
          · exact hno i (by omega) (by omega) hc.1⟩
        have HNx : Hid (cb d q = false → ∀ i, i < q + 1 → ¬ closes d i) := fun h i hi hc => by
          by_cases h2 : i < a
          · exact HN.out i h2 hc
          · by_cases h3 : i = q
            · subst h3; rw [hc.2] at h; cases h
            · exact hno i (by omega) (by omega) hc.1
        by_cases hk : k < m
        · obtain rfl := HAL.out (by omega)
          have hcg := (HLn.out k hk)
          have HFL : Hid (fl d m f (q + 1) = upd (fl d m f a) k ((q : Int) - (a : Int))) := by
            rw [fl_hit h34 (by rw [hrs.1, ← HK.out]; exact hk), hrs.1, hrs.2.2, hsta, ← HK.out]; exact rfl
          obtain ⟨sb, hconv, hsb⟩ := conv_any b a (q - a) (c - a) (fun t => d (a + t)) (w'.setCell ⟨g, k, none⟩ (.int .i32 ((q : Int) - (a : Int)))) (by have := (HCr.out.set HBG.out (k := k) (.int .i32 ((q : Int) - (a : Int)))).cut (i := a) (m := q - a) (by omega); rw [Nat.zero_add] at this; exact this) (fun i hi => HD.out _ (by omega))
          rcases three hcl hsb hkq with ⟨h0, hb⟩ | ⟨h0, ht, hb⟩ | ⟨h0, ht, hb⟩
          · have HE := HEnd.out hb
            clear hcl hsb hrs h34 hno hcq hsta hconv HEnd HNx hb
            go_wp2
            go_ret2
            exact ⟨_, q + 1, HE, by rw [HCQ.out]; exact ret_two (by omega) (by omega), HO.out.set _, by rw [HFL.out]; exact HLn.out.set hk _⟩
          · have HE := HEnd.out hb
            clear hcl hsb hrs h34 hno hcq hsta HEnd HNx hb
            go_wp2
            go_ret2
            exact ⟨_, q + 1, HE, by rw [HCQ.out]; exact ret_two (by omega) (by omega), HO.out.set _, by rw [HFL.out]; exact HLn.out.set hk _⟩
          · have HX := HNx.out hb
            clear hcl hsb hrs h34 hno hcq hsta HEnd HNx hb
            go_wp2
            go_roundw
            case rel => exact ⟨q + 1, k + 1, by omega, by omega, HCQ.out.symm, Or.inr H10.out, HX, HO.out.set _, by rw [HFL.out]; exact HLn.out.set hk _, by go_num, by go_num⟩
            case measure => simp [intOf]; omega
        · have HFL : Hid (fl d m f (q + 1) = fl d m f a) := by
            rw [fl_full (by rw [hrs.1, ← HK.out]; exact hk), hrs.2.2]; exact rfl
          obtain ⟨sb, hconv, hsb⟩ := conv_any b a (q - a) (c - a) (fun t => d (a + t)) w' (by have := HCr.out.cut (i := a) (m := q - a) (by omega); rw [Nat.zero_add] at this; exact this) (fun i hi => HD.out _ (by omega))
          rcases three hcl hsb hkq with ⟨h0, hb⟩ | ⟨h0, ht, hb⟩ | ⟨h0, ht, hb⟩
          · have HE := HEnd.out hb
            clear hcl hsb hrs h34 hno hcq hsta hconv HEnd HNx hb
            go_wp2
            go_ret2
            exact ⟨_, q + 1, HE, by rw [HCQ.out]; exact ret_two (by omega) (by omega), HO.out, by rw [HFL.out]; exact HLn.out⟩
          · have HE := HEnd.out hb
            clear hcl hsb hrs h34 hno hcq hsta HEnd HNx hb
            go_wp2
            go_ret2
            exact ⟨_, q + 1, HE, by rw [HCQ.out]; exact ret_two (by omega) (by omega), HO.out, by rw [HFL.out]; exact HLn.out⟩
          · have HX := HNx.out hb
            clear hcl hsb hrs h34 hno hcq hsta HEnd HNx hb
            go_wp2
            go_roundw
            case rel => exact ⟨q + 1, k + 1, by omega, by omega, HCQ.out.symm, Or.inr H10.out, HX, HO.out, by rw [HFL.out]; exact HLn.out, by go_num, by go_num⟩
            case measure => simp [intOf]; omega
end Go.Proofs.Qxb6602430a
