/-
  Contracts: scalarEnd (31), valueEnd (27) at a bracket.
-/
import Derived.Test.Qxb6602372aSmall
namespace Go.Proofs.Qxb6602372a
open Go.RowKit
open Pl
theorem isS_no {c : Int} (h1 : ¬ (48 ≤ c ∧ c ≤ 57)) (h2 : ¬ (97 ≤ c ∧ c ≤ 122)) (h3 : c ≠ 43) (h4 : c ≠ 45) (h5 : c ≠ 46) (h6 : c ≠ 69) : isS c = false := by
  simp only [isS, Bool.or_eq_false_iff, decide_eq_false_iff_not]
  exact ⟨⟨⟨⟨⟨h1, h2⟩, h3⟩, h4⟩, h5⟩, h6⟩
theorem isS_yes {c : Int} (h : (48 ≤ c ∧ c ≤ 57) ∨ (97 ≤ c ∧ c ≤ 122) ∨ c = 43 ∨ c = 45 ∨ c = 46 ∨ c = 69) : isS c = true := by
  simp only [isS, Bool.or_eq_true, decide_eq_true_eq]
  omega

set_option maxHeartbeats 1000000 in
theorem scalar_any (b o n c : Nat) (d : Nat → Int) (s : Nat) (w : World) (hc : Cells w b o n d) (_hn : n ≤ 1048576) (hs : s < n) :
    Calls Try.prog 31 #[.slice (some ⟨b, o, none⟩) n c, .int .i64 (s : Int)] w fun e w' => e = .returned (.int .i64 ((cEnd d n (s + 1) : Nat) : Int)) ∧ w' = w := by
  have HC : Hid (Cells w b o n d) := hc
  clear hc
  go_enter Try.func31, Try.ntmps31
  go_wp2
  go_loop [5] (fun i => ∃ k : Nat, k ≤ n ∧ Hid (cEnd d n (s + 1) = cEnd d n k) ∧ i = .int .i64 k) (fun i => n - (intOf i).toNat)
  case atStart => exact ⟨s + 1, by omega, rfl, by go_num⟩
  case round =>
    obtain ⟨k, hk, HE, rfl⟩ := hrel
    by_cases hlt : k < n
    · have hcell := HC.out k hlt
      go_wp2
      all_goals first
        | (go_round
           case rel => exact ⟨k + 1, by omega, HE.out.trans (cEnd_go hlt (isS_yes (by simp only [beq_iff_eq, beq_eq_false_iff_ne, ne_eq] at *; omega))), by go_num⟩
           case measure => simp [intOf]; omega)
        | (go_ret
           have hS : isS (d k) = false := by simp only [beq_eq_false_iff_ne, ne_eq] at *; exact isS_no (by omega) (by omega) (by omega) (by omega) (by omega) (by omega)
           exact ⟨ret_int (by rw [HE.out, cEnd_stop hlt hS]), rfl⟩)
    · have HE2 : Hid (cEnd d n (s + 1) = k) := by rw [HE.out, cEnd_out (by omega)]; exact rfl
      clear HE
      go_wp2
      go_ret
      exact ⟨ret_int (by rw [HE2.out]), rfl⟩

theorem beq_t {a b : Int} (h : a = b) : (a == b) = true := by simpa using h
theorem beq_f {a b : Int} (h : a ≠ b) : (a == b) = false := by simpa using h

set_option maxHeartbeats 1000000 in
theorem value_brk (b o n c : Nat) (d : Nat → Int) (s : Nat) (w : World) (hc : Cells w b o n d) (hd : ∀ i, i < n → 0 ≤ d i ∧ d i ≤ 255) (hn : n ≤ 1048576) (hnc : n ≤ c) (hcm : c ≤ maxLen) (hs : s < n)
    (h1 : (d s == 34) = false) (h2 : (d s == 91) = true ∨ ((d s == 91) = false ∧ (d s == 123) = true)) :
    Calls Try.prog 27 #[.slice (some ⟨b, o, none⟩) n c, .int .i64 (s : Int)] w fun e w' => e = .returned (.int .i64 ((bEnd d n 0 s : Nat) : Int)) ∧ w' = w := by
  have CQ : ∀ k : Nat, k ≤ n → Hid (Calls Try.prog 26 #[.slice (some ⟨b, o, none⟩) n c, .int .i64 (k : Int)] w fun e w' => e = .returned (.int .i64 ((sEnd d n k : Nat) : Int)) ∧ w' = w) :=
    fun k hk => close_any b o n c d k w hc hd hn hnc hcm hk
  have HC : Hid (Cells w b o n d) := hc
  have hcell0 := hc s hs
  clear hc hd
  rcases h2 with h2 | ⟨h2, h3⟩
  all_goals
    go_enter Try.func27, Try.ntmps27
    go_wp2
    clear hcell0
    go_loop [1, 5] (fun i x => ∃ (k : Nat) (dep : Int), k ≤ n + 1 ∧ -(k : Int) ≤ dep ∧ dep ≤ (k : Int) ∧ Hid (bEnd d n 0 s = bEnd d n dep k) ∧ i = .int .i64 k ∧ x = .int .i64 dep) (fun i _ => n + 1 - (intOf i).toNat)
    case atStart => exact ⟨s, 0, by omega, by omega, by omega, rfl, rfl, rfl⟩
    case round =>
      obtain ⟨k, dep, hk, hd1, hd2, HE, rfl, rfl⟩ := hrel
      by_cases hlt : k < n
      · have hcell := HC.out k hlt
        by_cases e1 : d k = 34
        · have t1 := beq_t e1
          have HE2 : Hid (bEnd d n 0 s = bEnd d n dep (sEnd d n (k + 1) + 1)) := by rw [HE.out, bEnd_q hlt e1]; exact rfl
          have hq := CQ (k + 1) (by omega)
          have hge := sEnd_ge' (d := d) (n := n) (i := k + 1) (by omega)
          have hle := sEnd_le' d n (k + 1)
          generalize sEnd d n (k + 1) = r at HE2 hq hge hle
          clear e1 HE CQ
          go_wp2_with (go_at_call 26; refine hq.out.mono ?_; rintro e w' ⟨rfl, hw⟩; subst hw)
          go_round
          case rel => exact ⟨r + 1, dep, by omega, by omega, by omega, HE2, by go_num, rfl⟩
          case measure => simp [intOf]; omega
        · have t1 := beq_f e1
          clear CQ
          by_cases e2 : d k = 91
          · have t2 := beq_t e2
            have HE2 : Hid (bEnd d n 0 s = bEnd d n (dep + 1) (k + 1)) := by rw [HE.out, bEnd_open hlt (.inl e2)]; exact rfl
            clear e1 e2 HE
            go_wp2
            go_round
            case rel => exact ⟨k + 1, dep + 1, by omega, by omega, by omega, HE2, by go_num, rfl⟩
            case measure => simp [intOf]; omega
          · have t2 := beq_f e2
            by_cases e3 : d k = 123
            · have t3 := beq_t e3
              have HE2 : Hid (bEnd d n 0 s = bEnd d n (dep + 1) (k + 1)) := by rw [HE.out, bEnd_open hlt (.inr e3)]; exact rfl
              clear e1 e2 e3 HE
              go_wp2
              go_round
              case rel => exact ⟨k + 1, dep + 1, by omega, by omega, by omega, HE2, by go_num, rfl⟩
              case measure => simp [intOf]; omega
            · have t3 := beq_f e3
              by_cases e45 : d k = 93 ∨ d k = 125
              · have HL : Hid (dep - 1 = 0 → bEnd d n 0 s = k + 1) := fun h => by rw [HE.out, bEnd_last hlt e45 h]
                have HN : Hid (dep - 1 ≠ 0 → bEnd d n 0 s = bEnd d n (dep - 1) (k + 1)) := fun h => by rw [HE.out, bEnd_shut hlt e45 h]
                have t45 : (d k == 93) = true ∨ ((d k == 93) = false ∧ (d k == 125) = true) := by
                  by_cases e4 : d k = 93
                  · exact .inl (beq_t e4)
                  · exact .inr ⟨beq_f e4, beq_t (by omega)⟩
                clear e1 e2 e3 e45 HE
                by_cases hz : dep - 1 = 0
                · have hz' := beq_t hz
                  have HE2 : Hid (bEnd d n 0 s = k + 1) := HL.out hz
                  clear HL HN hz
                  rcases t45 with t4 | ⟨t4, t5⟩
                  all_goals
                    go_wp2
                    go_ret
                    exact ⟨ret_int (by rw [HE2.out]; go_num), rfl⟩
                · have hz' := beq_f hz
                  have HE2 : Hid (bEnd d n 0 s = bEnd d n (dep - 1) (k + 1)) := HN.out hz
                  clear HL HN hz
                  rcases t45 with t4 | ⟨t4, t5⟩
                  all_goals
                    go_wp2
                    go_round
                    case rel => exact ⟨k + 1, dep - 1, by omega, by omega, by omega, HE2, by go_num, rfl⟩
                    case measure => simp [intOf]; omega
              · have t4 := beq_f (show d k ≠ 93 by omega)
                have t5 := beq_f (show d k ≠ 125 by omega)
                have HE2 : Hid (bEnd d n 0 s = bEnd d n dep (k + 1)) := by rw [HE.out, bEnd_o hlt e1 e2 e3 (by omega) (by omega)]; exact rfl
                clear e1 e2 e3 e45 HE
                go_wp2
                go_round
                case rel => exact ⟨k + 1, dep, by omega, by omega, by omega, HE2, by go_num, rfl⟩
                case measure => simp [intOf]; omega
      · have HE2 : Hid (bEnd d n 0 s = n) := by rw [HE.out, bEnd_out (by omega)]; exact rfl
        clear HE CQ
        go_wp2
        go_ret
        exact ⟨ret_int (by rw [HE2.out]), rfl⟩

end Go.Proofs.Qxb6602372a
