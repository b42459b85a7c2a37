/-
  Contracts: escapeScanEnd (13), closingQuote (26), ZZClosingQuote (12).
-/
import Derived.Test.Qxb6602372aBase
namespace Go.Proofs.Qxb6602372a
open Go.RowKit
open Pl

theorem ret_int {k : IntKind} {a b : Int} (h : a = b) : Ending.returned (.int k a) = .returned (.int k b) := by rw [h]

set_option maxHeartbeats 400000 in
theorem esc_any (b o n c : Nat) (d : Nat → Int) (s : Nat) (w : World) (hc : Cells w b o n d) (hn : n ≤ 1048576) (hs : s ≤ n + 1) :
    Calls Try.prog 13 #[.slice (some ⟨b, o, none⟩) n c, .int .i64 (s : Int)] w fun e w' => e = .returned (.int .i64 ((sEnd d n s : Nat) : Int)) ∧ w' = w := by
  have HC : Hid (Cells w b o n d) := hc
  clear hc
  go_enter Try.func13, Try.ntmps13
  go_wp2
  go_loop [5] (fun i => ∃ k : Nat, k ≤ n + 1 ∧ Hid (sEnd d n s = sEnd d n k) ∧ i = .int .i64 k) (fun i => n + 1 - (intOf i).toNat)
  case atStart => exact ⟨s, hs, rfl, rfl⟩
  case round =>
    obtain ⟨k, hk, HE, rfl⟩ := hrel
    by_cases hlt : k < n
    · have hcell := HC.out k hlt
      by_cases h1 : d k = 92
      · have HE2 : Hid (sEnd d n s = sEnd d n (k + 2)) := by rw [HE.out, sEnd_bs hlt h1]; exact rfl
        have h1' : (d k == 92) = true := by simpa using h1
        clear h1 HE
        go_wp2
        go_round
        case rel => exact ⟨k + 2, by omega, HE2, by go_num⟩
        case measure => simp [intOf]; omega
      · have h1' : (d k == 92) = false := by simpa using h1
        by_cases h2 : d k = 34
        · have HE2 : Hid (sEnd d n s = k) := by rw [HE.out, sEnd_q hlt h2]; exact rfl
          have h2' : (d k == 34) = true := by simpa using h2
          clear h1 h2 HE
          go_wp2
          go_ret
          exact ⟨ret_int (by rw [HE2.out]), rfl⟩
        · have HE2 : Hid (sEnd d n s = sEnd d n (k + 1)) := by rw [HE.out, sEnd_o hlt h1 h2]; exact rfl
          have h2' : (d k == 34) = false := by simpa using h2
          clear h1 h2 HE
          go_wp2
          go_round
          case rel => exact ⟨k + 1, by omega, HE2, by go_num⟩
          case measure => simp [intOf]; omega
    · have HE2 : Hid (sEnd d n s = n) := by rw [HE.out, sEnd_out (by omega)]; exact rfl
      clear HE
      go_wp2
      go_ret
      exact ⟨ret_int (by rw [HE2.out]), rfl⟩

theorem first_cut {d : Nat → Int} {n k : Nat} {cv r : Int} (hk : k ≤ n) (h : First (fun t => d (k + t)) (n - k) cv r) :
    (r = -1 ∧ ∀ j, k ≤ j → j < n → d j ≠ cv) ∨ ∃ q : Nat, r + (k : Int) = (q : Int) ∧ k ≤ q ∧ q < n ∧ d q = cv ∧ ∀ j, k ≤ j → j < q → d j ≠ cv := by
  rcases h with ⟨h1, h2⟩ | ⟨q, h1, h2, h3, h4⟩
  · refine .inl ⟨h1, fun j a b e => h2 (j - k) (by omega) ?_⟩
    show d (k + (j - k)) = cv
    rw [show k + (j - k) = j by omega]; exact e
  · refine .inr ⟨k + q, by omega, by omega, by omega, h3, fun j a b e => h4 (j - k) (by omega) ?_⟩
    show d (k + (j - k)) = cv
    rw [show k + (j - k) = j by omega]; exact e

set_option maxHeartbeats 1000000 in
theorem close_any (b o n c : Nat) (d : Nat → Int) (s : Nat) (w : World) (hc : Cells w b o n d) (hd : ∀ i, i < n → 0 ≤ d i ∧ d i ≤ 255) (_hn : n ≤ 1048576) (hnc : n ≤ c) (hcm : c ≤ maxLen) (hs : s ≤ n) :
    Calls Try.prog 26 #[.slice (some ⟨b, o, none⟩) n c, .int .i64 (s : Int)] w fun e w' => e = .returned (.int .i64 ((sEnd d n s : Nat) : Int)) ∧ w' = w := by
  unfold maxLen at hcm
  have HC : Hid (Cells w b o n d) := hc
  have HD : Hid (∀ i, i < n → 0 ≤ d i ∧ d i ≤ 255) := hd
  clear hc hd
  go_enter Try.func26, Try.ntmps26
  go_wp2
  go_loop [5] (fun i => ∃ k : Nat, s ≤ k ∧ k ≤ n ∧ Hid (sEnd d n s = sEnd d n k) ∧ Hid (k = s ∨ d (k - 1) = 34) ∧ i = .int .i64 k) (fun i => n - (intOf i).toNat)
  case atStart => exact ⟨s, Nat.le_refl _, hs, rfl, Or.inl rfl, rfl⟩
  case round =>
    obtain ⟨k, hsk, hk, HE, HP, rfl⟩ := hrel
    have HI : ∀ (b' o' c' : Nat), Hid (k = n ∨ (b' = b ∧ o' = o + k)) → Calls Try.prog 30 #[.slice (some ⟨b', o', none⟩) (n - k) c', .int .u8 34] w fun e w' => ∃ r : Int, e = .returned (.int .i64 r) ∧ w' = w ∧ First (fun t => d (k + t)) (n - k) 34 r := by
      intro b' o' c' h
      refine ib_any b' o' (n - k) c' (fun t => d (k + t)) 34 w ?_ (fun i hi => HD.out _ (by omega)) (by omega)
      rcases h.out with h | ⟨rfl, rfl⟩
      · intro i hi; omega
      · exact HC.out.cut (by omega)
    go_wp2_with fail
    · have h2 := HI b o 0 (Or.inl (by omega))
      clear HI
      refine h2.mono ?_
      rintro e w' ⟨r, rfl, hw, hf⟩
      subst hw
      rcases first_cut hk hf with ⟨hr, hno⟩ | ⟨q, hr, hkq, hqn, h34, hno⟩
      · subst hr
        have HE2 : Hid (sEnd d n s = n) := by rw [HE.out]; exact sEnd_none d n _ k (Nat.le_refl _) hno
        clear hno hf h2 HE
        go_wp2
        go_ret
        exact ⟨ret_int (by rw [HE2.out]), rfl⟩
      · omega
    · have h2 := HI b (o + k) (c - k) (Or.inr ⟨rfl, rfl⟩)
      clear HI
      refine h2.mono ?_
      rintro e w' ⟨r, rfl, hw, hf⟩
      subst hw
      rcases first_cut hk hf with ⟨hr, hno⟩ | ⟨q, hr, hkq, hqn, h34, hno⟩
      · subst hr
        have HE2 : Hid (sEnd d n s = n) := by rw [HE.out]; exact sEnd_none d n _ k (Nat.le_refl _) hno
        clear hno hf h2 HE
        go_wp2
        go_ret
        exact ⟨ret_int (by rw [HE2.out]), rfl⟩
      · obtain rfl : r = (q : Int) - (k : Int) := by omega
        have H34 : Hid (d q = 34) := h34
        have HN : Hid (∀ j, k ≤ j → j < q → d j ≠ 34) := hno
        clear h34 hno hf h2 hr
        go_wp2
        go_loop [7, 8] (fun x y => ∃ (m : Nat) (jj : Int), m ≤ q - s ∧ Hid (jj = (q : Int) - 1 - (m : Int)) ∧ Hid (∀ t, q - m ≤ t → t < q → d t = 92) ∧ x = .int .i64 (m : Int) ∧ y = .int .i64 jj) (fun _ y => (intOf y + 1).toNat)
        case atStart => exact ⟨0, (q : Int) - 1, by omega, (by omega : (q : Int) - 1 = (q : Int) - 1 - ((0 : Nat) : Int)), (fun t a b => by omega), rfl, rfl⟩
        case round =>
          obtain ⟨m, jj, hm, HJ, HR, rfl, rfl⟩ := hrel
          have hjj := HJ.out
          have hj1 : -1 ≤ jj := by omega
          have hj2 : jj < (q : Int) := by omega
          have CR := fun hst => close_round (n := n) hsk hkq hqn H34.out HN.out HP.out hm HR.out hst
          by_cases hsp : (s : Int) ≤ jj
          · obtain ⟨jn, rfl⟩ : ∃ jn : Nat, jj = (jn : Int) := ⟨jj.toNat, by omega⟩
            have hcell := HC.out jn (by omega)
            by_cases h92 : d jn = 92
            · have h92' : (d jn == 92) = true := by simpa using h92
              have HR2 : Hid (∀ t, q - (m + 1) ≤ t → t < q → d t = 92) := by
                intro t a b
                by_cases e : t = jn
                · rw [e]; exact h92
                · exact HR.out t (by omega) b
              have hm2 : m + 1 ≤ q - s := by omega
              clear h92 HR hjj CR
              go_wp2
              go_round
              case rel => exact ⟨m + 1, (jn : Int) - 1, hm2, (by have := HJ.out; omega : (jn : Int) - 1 = (q : Int) - 1 - ((m + 1 : Nat) : Int)), HR2, by go_num, rfl⟩
              case measure => simp [intOf]
            · have h92' : (d jn == 92) = false := by simpa using h92
              have CR2 := CR (Or.inr (by rw [show q - m - 1 = jn by omega]; exact h92))
              clear h92 HR hjj CR
              by_cases hpar : m % 2 = 0
              · have hp' : ((m : Int) % 2 == 0) = true := by simp; omega
                have HE2 : Hid (sEnd d n s = q) := by rw [HE.out]; exact CR2.1 hpar
                clear CR2 hpar
                go_wp2
                go_ret
                exact ⟨ret_int (by rw [HE2.out]), rfl⟩
              · have hp' : ((m : Int) % 2 == 0) = false := by simp; omega
                have HE2 : Hid (sEnd d n s = sEnd d n (q + 1)) := by rw [HE.out]; exact CR2.2 (by omega)
                clear CR2 hpar
                go_wp2
                go_round
                case rel => exact ⟨q + 1, by omega, by omega, HE2, Or.inr H34.out, by go_num⟩
                case measure => simp [intOf]; omega
          · have CR2 := CR (Or.inl (by omega))
            clear HR hjj CR
            by_cases hpar : m % 2 = 0
            · have hp' : ((m : Int) % 2 == 0) = true := by simp; omega
              have HE2 : Hid (sEnd d n s = q) := by rw [HE.out]; exact CR2.1 hpar
              clear CR2 hpar
              go_wp2
              go_ret
              exact ⟨ret_int (by rw [HE2.out]), rfl⟩
            · have hp' : ((m : Int) % 2 == 0) = false := by simp; omega
              have HE2 : Hid (sEnd d n s = sEnd d n (q + 1)) := by rw [HE.out]; exact CR2.2 (by omega)
              clear CR2 hpar
              go_wp2
              go_round
              case rel => exact ⟨q + 1, by omega, by omega, HE2, Or.inr H34.out, by go_num⟩
              case measure => simp [intOf]; omega

end Go.Proofs.Qxb6602372a
