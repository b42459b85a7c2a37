/-
  Contracts: valueEnd (27), ZZValueEnd (18), the bounds on lengths (17, 20), isScalarByte (28), onePassValueEnd (19).
-/
import Derived.Test.Qxb6602372aValue
namespace Go.Proofs.Qxb6602372a
open Go.RowKit
open Pl

set_option maxHeartbeats 1000000 in
theorem value_any (b o n c : Nat) (d : Nat → Int) (s : Nat) (w : World) (hc : Cells w b o n d) (hd : ∀ i, i < n → 0 ≤ d i ∧ d i ≤ 255) (hn : n ≤ 1048576) (hnc : n ≤ c) (hcm : c ≤ maxLen) (hs : s < n) :
    Calls Try.prog 27 #[.slice (some ⟨b, o, none⟩) n c, .int .i64 (s : Int)] w fun e w' => e = .returned (.int .i64 ((vEnd d n s : Nat) : Int)) ∧ w' = w := by
  have hcell := hc s hs
  by_cases e1 : d s = 34
  · have hv : vEnd d n s = sEnd d n (s + 1) + 1 := by unfold vEnd; rw [if_pos e1]
    rw [hv]
    have hq := close_any b o n c d (s + 1) w hc hd hn hnc hcm (by omega)
    have hle := sEnd_le' d n (s + 1)
    generalize sEnd d n (s + 1) = r at hq hle
    have t1 := beq_t e1
    have HQ : Hid (Calls Try.prog 26 #[.slice (some ⟨b, o, none⟩) n c, .int .i64 ((s + 1 : Nat) : Int)] w fun e w' => e = .returned (.int .i64 ((r : Nat) : Int)) ∧ w' = w) := hq
    clear hv e1 hc hd hq
    go_enter Try.func27, Try.ntmps27
    go_wp2_with (go_at_call 26; refine HQ.out.mono ?_; rintro e w' ⟨rfl, hw⟩; subst hw)
    go_ret
    exact ⟨ret_int (by go_num), rfl⟩
  · have t1 := beq_f e1
    by_cases e2 : d s = 91 ∨ d s = 123
    · have hv : vEnd d n s = bEnd d n 0 s := by unfold vEnd; rw [if_neg e1, if_pos e2]
      rw [hv]
      refine value_brk b o n c d s w hc hd hn hnc hcm hs t1 ?_
      by_cases e4 : d s = 91
      · exact .inl (beq_t e4)
      · exact .inr ⟨beq_f e4, beq_t (by omega)⟩
    · have hv : vEnd d n s = cEnd d n (s + 1) := by unfold vEnd; rw [if_neg e1, if_neg e2]
      rw [hv]
      have hq := scalar_any b o n c d s w hc hn hs
      have t2 := beq_f (show d s ≠ 91 by omega)
      have t3 := beq_f (show d s ≠ 123 by omega)
      clear hv e1 e2 hc hd
      go_enter Try.func27, Try.ntmps27
      go_wp2_with (go_at_call 31; refine hq.mono ?_; rintro e w' ⟨rfl, hw⟩; subst hw)
      go_ret
      exact ⟨rfl, rfl⟩

set_option maxHeartbeats 400000 in
theorem zz_value {v : Value} {s r : Int} {w : World} (h : Calls Try.prog 27 #[v, .int .i64 s] w fun e w' => e = .returned (.int .i64 r) ∧ w' = w) :
    Calls Try.prog 18 #[v, .int .i64 s] w fun e w' => e = .returned (.int .i64 r) ∧ w' = w := by
  have H : Hid (Calls Try.prog 27 #[v, .int .i64 s] w fun e w' => e = .returned (.int .i64 r) ∧ w' = w) := h
  clear h
  go_enter Try.func18, Try.ntmps18
  go_wp2_with (go_at_call 27; refine H.out.mono ?_; rintro e w' ⟨rfl, hw⟩; subst hw)
  go_ret
  exact ⟨rfl, rfl⟩

set_option maxHeartbeats 400000 in
theorem zzb17 (a : Option Addr) (n c : Nat) (s : Int) (w : World) (hm : n ≤ maxLen) :
    Calls Try.prog 17 #[.slice a n c, .int .i64 s] w fun e w' => e = .returned (.bool (decide (n ≤ 1048576))) ∧ w' = w := by
  unfold maxLen at hm
  by_cases h : n ≤ 1048576
  · have hd : decide (n ≤ 1048576) = true := by simpa using h
    rw [hd]
    go_enter Try.func17, Try.ntmps17
    go_wp2
    go_ret
    exact ⟨rfl, rfl⟩
  · have hd : decide (n ≤ 1048576) = false := by simpa using h
    rw [hd]
    go_enter Try.func17, Try.ntmps17
    go_wp2
    go_ret
    exact ⟨rfl, rfl⟩
set_option maxHeartbeats 400000 in
theorem zzb20 (a : Option Addr) (n c : Nat) (s : Int) (w : World) (hm : n ≤ maxLen) :
    Calls Try.prog 20 #[.slice a n c, .int .i64 s] w fun e w' => e = .returned (.bool (decide (n ≤ 1048576))) ∧ w' = w := by
  unfold maxLen at hm
  by_cases h : n ≤ 1048576
  · have hd : decide (n ≤ 1048576) = true := by simpa using h
    rw [hd]
    go_enter Try.func20, Try.ntmps20
    go_wp2
    go_ret
    exact ⟨rfl, rfl⟩
  · have hd : decide (n ≤ 1048576) = false := by simpa using h
    rw [hd]
    go_enter Try.func20, Try.ntmps20
    go_wp2
    go_ret
    exact ⟨rfl, rfl⟩

theorem isS_low {x : Int} (h1 : ¬ (48 ≤ x ∧ x ≤ 57)) (h2 : ¬ (97 ≤ x ∧ x ≤ 122)) : isS x = (x == 43 || x == 45 || x == 46 || x == 69) := by
  rw [Bool.eq_iff_iff]
  simp only [isS, Bool.or_eq_true, decide_eq_true_eq, beq_iff_eq]
  omega
set_option maxHeartbeats 400000 in
theorem isS_any (x : Int) (w : World) : Calls Try.prog 28 #[.int .u8 x] w fun e w' => e = .returned (.bool (isS x)) ∧ w' = w := by
  have key : ∀ r : Bool, isS x = r → Ending.returned (Value.bool r) = .returned (.bool (isS x)) := fun r h => by rw [h]
  have K : Hid (∀ r : Bool, isS x = r → Ending.returned (Value.bool r) = .returned (.bool (isS x))) := key
  clear key
  go_enter Try.func28, Try.ntmps28
  go_wp2
  all_goals go_ret
  all_goals first
    | exact ⟨congrArg (fun r => Ending.returned (Value.bool r)) (isS_yes (by omega)).symm, rfl⟩
    | exact ⟨K.out _ (isS_low (by omega) (by omega)), rfl⟩

set_option maxHeartbeats 1000000 in
theorem one_scalar (b o n c : Nat) (d : Nat → Int) (s : Nat) (w : World) (hc : Cells w b o n d) (_hn : n ≤ 1048576) (hs : s < n)
    (h1 : (d s == 34) = false) (h2 : (d s == 91) = false) (h3 : (d s == 123) = false) :
    Calls Try.prog 19 #[.slice (some ⟨b, o, none⟩) n c, .int .i64 (s : Int)] w fun e w' => e = .returned (.int .i64 ((cEnd d n (s + 1) : Nat) : Int)) ∧ w' = w := by
  have HC : Hid (Cells w b o n d) := hc
  have hcell0 := hc s hs
  clear hc
  go_enter Try.func19, Try.ntmps19
  go_wp2
  clear hcell0
  go_loop [11] (fun i => ∃ k : Nat, k ≤ n ∧ Hid (cEnd d n (s + 1) = cEnd d n k) ∧ i = .int .i64 k) (fun i => n - (intOf i).toNat)
  case atStart => exact ⟨s + 1, by omega, rfl, by go_num⟩
  case round =>
    obtain ⟨k, hk, HE, rfl⟩ := hrel
    by_cases hlt : k < n
    · have hcell := HC.out k hlt
      have hS := isS_any (d k) w
      by_cases hs2 : isS (d k) = true
      · have HE2 : Hid (cEnd d n (s + 1) = cEnd d n (k + 1)) := HE.out.trans (cEnd_go hlt hs2)
        rw [hs2] at hS
        clear hs2 HE
        go_wp2_with (go_at_call 28; refine hS.mono ?_; rintro e w' ⟨rfl, hw⟩; subst hw)
        go_round
        case rel => exact ⟨k + 1, by omega, HE2, by go_num⟩
        case measure => simp [intOf]; omega
      · have hs3 : isS (d k) = false := by simpa using hs2
        have HE2 : Hid (cEnd d n (s + 1) = k) := HE.out.trans (cEnd_stop hlt hs3)
        rw [hs3] at hS
        clear hs2 hs3 HE
        go_wp2_with (go_at_call 28; refine hS.mono ?_; rintro e w' ⟨rfl, hw⟩; subst hw)
        go_ret
        exact ⟨ret_int (by rw [HE2.out]), rfl⟩
    · have HE2 : Hid (cEnd d n (s + 1) = k) := by rw [HE.out, cEnd_out (by omega)]; exact rfl
      clear HE
      go_wp2
      go_ret
      exact ⟨ret_int (by rw [HE2.out]), rfl⟩

/-- The state of the one pass: where the scan by brk stands when the pass stands at k. -/
def at1 (d : Nat → Int) (n : Nat) (dep : Int) (inS es : Bool) (k : Nat) : Nat :=
  if inS = true then (if es = true then bEnd d n dep (sEnd d n (k + 1) + 1) else bEnd d n dep (sEnd d n k + 1)) else bEnd d n dep k

set_option maxHeartbeats 2000000 in
theorem one_brk (b o n c : Nat) (d : Nat → Int) (s : Nat) (w : World) (hc : Cells w b o n d) (hn : n ≤ 1048576) (hs : s < n)
    (h1 : (d s == 34) = false) (h2 : (d s == 91) = true ∨ ((d s == 91) = false ∧ (d s == 123) = true)) :
    Calls Try.prog 19 #[.slice (some ⟨b, o, none⟩) n c, .int .i64 (s : Int)] w fun e w' => e = .returned (.int .i64 ((bEnd d n 0 s : Nat) : Int)) ∧ w' = w := by
  have HC : Hid (Cells w b o n d) := hc
  have hcell0 := hc s hs
  clear hc
  rcases h2 with h2 | ⟨h2, h3⟩
  all_goals
    go_enter Try.func19, Try.ntmps19
    go_wp2
    clear hcell0
    go_loop [6, 7, 8, 9] (fun x y z i => ∃ (k : Nat) (dep : Int) (inS es : Bool), k ≤ n ∧ Hid (inS = false → es = false) ∧ -(k : Int) ≤ dep ∧ dep ≤ (k : Int) ∧ Hid (bEnd d n 0 s = at1 d n dep inS es k) ∧ x = .int .i64 dep ∧ y = .bool inS ∧ z = .bool es ∧ i = .int .i64 k) (fun _ _ _ i => n - (intOf i).toNat)
    case atStart => exact ⟨s, 0, false, false, by omega, (fun _ => rfl), by omega, by omega, rfl, rfl, rfl, rfl, rfl⟩
    case round =>
      obtain ⟨k, dep, inS, es, hk, HF, hd1, hd2, HE, rfl, rfl, rfl, rfl⟩ := hrel
      by_cases hlt : k < n
      · have hcell := HC.out k hlt
        cases inS with
        | true =>
          cases es with
          | true =>
            have HE2 : Hid (bEnd d n 0 s = at1 d n dep true false (k + 1)) := HE.out
            clear HE
            go_wp2
            go_round
            case rel => exact ⟨k + 1, dep, true, false, by omega, (fun h => by cases h), by omega, by omega, HE2, rfl, rfl, rfl, by go_num⟩
            case measure => simp [intOf]; omega
          | false =>
            have hE := HE.out
            change bEnd d n 0 s = bEnd d n dep (sEnd d n k + 1) at hE
            by_cases e1 : d k = 92
            · have t1 := beq_t e1
              have HE2 : Hid (bEnd d n 0 s = at1 d n dep true true (k + 1)) := by rw [hE, sEnd_bs hlt e1]; exact rfl
              clear HE hE e1
              go_wp2
              go_round
              case rel => exact ⟨k + 1, dep, true, true, by omega, (fun h => by cases h), by omega, by omega, HE2, rfl, rfl, rfl, by go_num⟩
              case measure => simp [intOf]; omega
            · have t1 := beq_f e1
              by_cases e2 : d k = 34
              · have t2 := beq_t e2
                have HE2 : Hid (bEnd d n 0 s = at1 d n dep false false (k + 1)) := by rw [hE, sEnd_q hlt e2]; exact rfl
                clear HE hE e1 e2
                go_wp2
                go_round
                case rel => exact ⟨k + 1, dep, false, false, by omega, (fun _ => rfl), by omega, by omega, HE2, rfl, rfl, rfl, by go_num⟩
                case measure => simp [intOf]; omega
              · have t2 := beq_f e2
                have HE2 : Hid (bEnd d n 0 s = at1 d n dep true false (k + 1)) := by rw [hE, sEnd_o hlt e1 e2]; exact rfl
                clear HE hE e1 e2
                go_wp2
                go_round
                case rel => exact ⟨k + 1, dep, true, false, by omega, (fun h => by cases h), by omega, by omega, HE2, rfl, rfl, rfl, by go_num⟩
                case measure => simp [intOf]; omega
        | false =>
          obtain rfl : es = false := HF.out rfl
          have hE := HE.out
          change bEnd d n 0 s = bEnd d n dep k at hE
          by_cases e1 : d k = 34
          · have t1 := beq_t e1
            have HE2 : Hid (bEnd d n 0 s = at1 d n dep true false (k + 1)) := by rw [hE, bEnd_q hlt e1]; exact rfl
            clear HE hE e1
            go_wp2
            go_round
            case rel => exact ⟨k + 1, dep, true, false, by omega, (fun h => by cases h), by omega, by omega, HE2, rfl, rfl, rfl, by go_num⟩
            case measure => simp [intOf]; omega
          · have t1 := beq_f e1
            by_cases e2 : d k = 91
            · have t2 := beq_t e2
              have HE2 : Hid (bEnd d n 0 s = at1 d n (dep + 1) false false (k + 1)) := by rw [hE, bEnd_open hlt (.inl e2)]; exact rfl
              clear e1 e2 HE hE
              go_wp2
              go_round
              case rel => exact ⟨k + 1, dep + 1, false, false, by omega, (fun _ => rfl), by omega, by omega, HE2, rfl, rfl, rfl, by go_num⟩
              case measure => simp [intOf]; omega
            · have t2 := beq_f e2
              by_cases e3 : d k = 123
              · have t3 := beq_t e3
                have HE2 : Hid (bEnd d n 0 s = at1 d n (dep + 1) false false (k + 1)) := by rw [hE, bEnd_open hlt (.inr e3)]; exact rfl
                clear e1 e2 e3 HE hE
                go_wp2
                go_round
                case rel => exact ⟨k + 1, dep + 1, false, false, by omega, (fun _ => rfl), by omega, by omega, HE2, rfl, rfl, rfl, by go_num⟩
                case measure => simp [intOf]; omega
              · have t3 := beq_f e3
                by_cases e45 : d k = 93 ∨ d k = 125
                · have HL : Hid (dep - 1 = 0 → bEnd d n 0 s = k + 1) := fun h => by rw [hE, bEnd_last hlt e45 h]
                  have HN : Hid (dep - 1 ≠ 0 → bEnd d n 0 s = bEnd d n (dep - 1) (k + 1)) := fun h => by rw [hE, bEnd_shut hlt e45 h]
                  have t45 : (d k == 93) = true ∨ ((d k == 93) = false ∧ (d k == 125) = true) := by
                    by_cases e4 : d k = 93
                    · exact .inl (beq_t e4)
                    · exact .inr ⟨beq_f e4, beq_t (by omega)⟩
                  clear e1 e2 e3 e45 HE hE
                  by_cases hz : dep - 1 = 0
                  · have hz' := beq_t hz
                    have HE2 : Hid (bEnd d n 0 s = k + 1) := HL.out hz
                    clear HL HN hz
                    rcases t45 with t4 | ⟨t4, t5⟩
                    all_goals
                      go_wp2
                      go_ret
                      exact ⟨ret_int (by rw [HE2.out]; go_num), rfl⟩
                  · have hz' := beq_f hz
                    have HE2 : Hid (bEnd d n 0 s = at1 d n (dep - 1) false false (k + 1)) := HN.out hz
                    clear HL HN hz
                    rcases t45 with t4 | ⟨t4, t5⟩
                    all_goals
                      go_wp2
                      go_round
                      case rel => exact ⟨k + 1, dep - 1, false, false, by omega, (fun _ => rfl), by omega, by omega, HE2, rfl, rfl, rfl, by go_num⟩
                      case measure => simp [intOf]; omega
                · have t4 := beq_f (show d k ≠ 93 by omega)
                  have t5 := beq_f (show d k ≠ 125 by omega)
                  have HE2 : Hid (bEnd d n 0 s = at1 d n dep false false (k + 1)) := by rw [hE, bEnd_o hlt e1 e2 e3 (by omega) (by omega)]; exact rfl
                  clear e1 e2 e3 e45 HE hE
                  go_wp2
                  go_round
                  case rel => exact ⟨k + 1, dep, false, false, by omega, (fun _ => rfl), by omega, by omega, HE2, rfl, rfl, rfl, by go_num⟩
                  case measure => simp [intOf]; omega
      · have HE2 : Hid (bEnd d n 0 s = n) := by
          rw [HE.out]
          unfold at1
          split
          · split
            · rw [sEnd_out (by omega), bEnd_out (by omega)]; exact rfl
            · rw [sEnd_out (by omega), bEnd_out (by omega)]; exact rfl
          · rw [bEnd_out (by omega)]; exact rfl
        clear HE HF
        go_wp2
        go_ret
        exact ⟨ret_int (by rw [HE2.out]), rfl⟩

set_option maxHeartbeats 1000000 in
theorem one_any (b o n c : Nat) (d : Nat → Int) (s : Nat) (w : World) (hc : Cells w b o n d) (hn : n ≤ 1048576) (hs : s < n) :
    Calls Try.prog 19 #[.slice (some ⟨b, o, none⟩) n c, .int .i64 (s : Int)] w fun e w' => e = .returned (.int .i64 ((vEnd d n s : Nat) : Int)) ∧ w' = w := by
  have hcell := hc s hs
  by_cases e1 : d s = 34
  · have hv : vEnd d n s = sEnd d n (s + 1) + 1 := by unfold vEnd; rw [if_pos e1]
    rw [hv]
    have hq := esc_any b o n c d (s + 1) w hc hn (by omega)
    have hle := sEnd_le' d n (s + 1)
    generalize sEnd d n (s + 1) = r at hq hle
    have t1 := beq_t e1
    have HQ : Hid (Calls Try.prog 13 #[.slice (some ⟨b, o, none⟩) n c, .int .i64 ((s + 1 : Nat) : Int)] w fun e w' => e = .returned (.int .i64 ((r : Nat) : Int)) ∧ w' = w) := hq
    clear hv e1 hc hq
    go_enter Try.func19, Try.ntmps19
    go_wp2_with (go_at_call 13; refine HQ.out.mono ?_; rintro e w' ⟨rfl, hw⟩; subst hw)
    go_ret
    exact ⟨ret_int (by go_num), rfl⟩
  · have t1 := beq_f e1
    by_cases e2 : d s = 91 ∨ d s = 123
    · have hv : vEnd d n s = bEnd d n 0 s := by unfold vEnd; rw [if_neg e1, if_pos e2]
      rw [hv]
      refine one_brk b o n c d s w hc hn hs t1 ?_
      by_cases e4 : d s = 91
      · exact .inl (beq_t e4)
      · exact .inr ⟨beq_f e4, beq_t (by omega)⟩
    · have hv : vEnd d n s = cEnd d n (s + 1) := by unfold vEnd; rw [if_neg e1, if_neg e2]
      rw [hv]
      exact one_scalar b o n c d s w hc hn hs t1 (beq_f (by omega)) (beq_f (by omega))

end Go.Proofs.Qxb6602372a
