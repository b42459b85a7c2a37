/-
  Contracts: zzB1NestingModel (10), ZZNestingRead (9).
-/
import Derived.Test.Qxb6602442aReadS
namespace Go.Proofs.Qxb6602442a
open Go.RowKit
open Pl

theorem ret_four {R : Int × Int × Bool × Bool} {x y : Int} {p q : Bool} (h : R = (x, y, p, q)) :
    Ending.returned (.tuple #[.int .i64 x, .int .i64 y, .bool p, .bool q]) = .returned (.tuple #[.int .i64 R.1, .int .i64 R.2.1, .bool R.2.2.1, .bool R.2.2.2]) := by rw [h]

set_option maxHeartbeats 1000000 in
theorem readM_any (b n c : Nat) (a : Option Addr) (d : Nat → Int) (dep : Int) (inS esc each : Bool) (w : World) (hC : Cells w b 0 n d) (hn : n ≤ 1048576) (ha : 0 < n → a = some ⟨b, 0, none⟩) :
    Calls Try.prog 10 #[.int .i64 dep, .bool inS, .bool esc, .slice a n c, .bool each] w fun e w' => e = .returned (.tuple #[.int .i64 (read wrap64 d n each dep inS esc 0).1, .int .i64 (read wrap64 d n each dep inS esc 0).2.1, .bool (read wrap64 d n each dep inS esc 0).2.2.1, .bool (read wrap64 d n each dep inS esc 0).2.2.2]) ∧ w' = w := by
  have HC : Hid (Cells w b 0 n d) := hC
  have HA : Hid (0 < n → a = some ⟨b, 0, none⟩) := ha
  clear hC ha
  obtain ⟨R, hR⟩ : ∃ R, R = read wrap64 d n each dep inS esc 0 := ⟨_, rfl⟩
  rw [← hR]
  have HR0 : Hid (R = read wrap64 d n each dep inS esc 0) := hR
  clear hR
  go_enter Try.func10, Try.ntmps10
  go_wp2
  go_loop [0, 1, 2, 14] (fun x y z i => ∃ (k : Nat) (dp : Int) (iS es : Bool), k ≤ n ∧ Hid (R = read wrap64 d n each dp iS es k) ∧ x = .int .i64 dp ∧ y = .bool iS ∧ z = .bool es ∧ i = .int .i64 (k : Int)) (fun _ _ _ i => n - (intOf i).toNat)
  case atStart => exact ⟨0, dep, inS, esc, Nat.zero_le _, HR0, rfl, rfl, rfl, rfl⟩
  case round =>
    obtain ⟨k, dp, iS, es, hk, HE, rfl, rfl, rfl, rfl⟩ := hrel
    by_cases hlt : k < n
    · obtain rfl := HA.out (by omega)
      have hcell := HC.out k hlt
      rw [Nat.zero_add] at hcell
      cases iS with
      | true =>
        have hsb := strByte_any es (d k) w
        cases es with
        | true =>
          have HE2 : Hid (R = read wrap64 d n each dp true false (k + 1)) := by rw [HE.out, read_s_esc hlt]; exact rfl
          simp only [Bool.true_or, Bool.not_true, Bool.false_and] at hsb
          clear HE
          go_wp2_with (go_at_call 19; refine hsb.mono ?_; rintro e w' ⟨rfl, hw⟩; have hw2 := hw.symm; subst hw2)
          go_round
          case rel => exact ⟨k + 1, dp, true, false, by omega, HE2, rfl, rfl, rfl, by go_num⟩
          case measure => simp [intOf]; omega
        | false =>
          by_cases e1 : d k = 92
          · have HE2 : Hid (R = read wrap64 d n each dp true true (k + 1)) := by rw [HE.out, read_s_bs hlt e1]; exact rfl
            rw [beq_t e1] at hsb
            simp only [Bool.or_true, Bool.not_false, Bool.and_true] at hsb
            clear HE e1
            go_wp2_with (go_at_call 19; refine hsb.mono ?_; rintro e w' ⟨rfl, hw⟩; have hw2 := hw.symm; subst hw2)
            go_round
            case rel => exact ⟨k + 1, dp, true, true, by omega, HE2, rfl, rfl, rfl, by go_num⟩
            case measure => simp [intOf]; omega
          · by_cases e2 : d k = 34
            · have HE2 : Hid (R = read wrap64 d n each dp false false (k + 1)) := by rw [HE.out, read_s_q hlt e2]; exact rfl
              rw [beq_f e1, beq_t e2] at hsb
              simp only [Bool.or_false, Bool.not_true, Bool.and_false] at hsb
              clear HE e1 e2
              go_wp2_with (go_at_call 19; refine hsb.mono ?_; rintro e w' ⟨rfl, hw⟩; have hw2 := hw.symm; subst hw2)
              go_round
              case rel => exact ⟨k + 1, dp, false, false, by omega, HE2, rfl, rfl, rfl, by go_num⟩
              case measure => simp [intOf]; omega
            · have HE2 : Hid (R = read wrap64 d n each dp true false (k + 1)) := by rw [HE.out, read_s_o hlt e1 e2]; exact rfl
              rw [beq_f e1, beq_f e2] at hsb
              simp only [Bool.or_false, Bool.not_false, Bool.false_or, Bool.and_false] at hsb
              clear HE e1 e2
              go_wp2_with (go_at_call 19; refine hsb.mono ?_; rintro e w' ⟨rfl, hw⟩; have hw2 := hw.symm; subst hw2)
              go_round
              case rel => exact ⟨k + 1, dp, true, false, by omega, HE2, rfl, rfl, rfl, by go_num⟩
              case measure => simp [intOf]; omega
      | false =>
        by_cases e1 : d k = 34
        · have t1 := beq_t e1
          have HE2 : Hid (R = read wrap64 d n each dp true es (k + 1)) := by rw [HE.out, read_q hlt e1]; exact rfl
          clear e1 HE
          go_wp2
          go_round
          case rel => exact ⟨k + 1, dp, true, es, by omega, HE2, rfl, rfl, rfl, by go_num⟩
          case measure => simp [intOf]; omega
        · have t1 := beq_f e1
          by_cases e23 : d k = 123 ∨ d k = 91
          · have t23 : (d k == 123) = true ∨ ((d k == 123) = false ∧ (d k == 91) = true) := by
              by_cases e4 : d k = 123
              · exact .inl (beq_t e4)
              · exact .inr ⟨beq_f e4, beq_t (by omega)⟩
            cases each with
            | true =>
              have HE2 : Hid (R = ((k : Int) + 1, wrap64 (dp + 1), false, es)) := by rw [HE.out, read_open_e hlt e23 rfl]; exact rfl
              clear e1 e23 HE
              rcases t23 with t2 | ⟨t2, t3⟩
              all_goals
                go_wp2
                refine bodyPost_ret (v := .tuple #[.int .i64 ((k : Int) + 1), .int .i64 (wrap64 (dp + 1)), .bool false, .bool es]) (by simp [results, Try.results10, go_sem]) rfl ⟨?_, rfl⟩
                exact ret_four HE2.out
            | false =>
              have HE2 : Hid (R = read wrap64 d n false (wrap64 (dp + 1)) false es (k + 1)) := by rw [HE.out, read_open hlt e23 rfl]; exact rfl
              clear e1 e23 HE
              rcases t23 with t2 | ⟨t2, t3⟩
              all_goals
                go_wp2
                go_round
                case rel => exact ⟨k + 1, wrap64 (dp + 1), false, es, by omega, HE2, rfl, rfl, rfl, by go_num⟩
                case measure => simp [intOf]; omega
          · have t2 := beq_f (show d k ≠ 123 by omega)
            have t3 := beq_f (show d k ≠ 91 by omega)
            by_cases e45 : d k = 125 ∨ d k = 93
            · have t45 : (d k == 125) = true ∨ ((d k == 125) = false ∧ (d k == 93) = true) := by
                by_cases e4 : d k = 125
                · exact .inl (beq_t e4)
                · exact .inr ⟨beq_f e4, beq_t (by omega)⟩
              cases each with
              | true =>
                have HE2 : Hid (R = ((k : Int) + 1, wrap64 (dp - 1), false, es)) := by rw [HE.out, read_shut_e hlt e45 (.inl rfl)]; exact rfl
                clear e1 e23 e45 HE
                rcases t45 with t4 | ⟨t4, t5⟩
                all_goals
                  go_wp2
                  refine bodyPost_ret (v := .tuple #[.int .i64 ((k : Int) + 1), .int .i64 (wrap64 (dp - 1)), .bool false, .bool es]) (by simp [results, Try.results10, go_sem]) rfl ⟨?_, rfl⟩
                  exact ret_four HE2.out
              | false =>
                by_cases hz : wrap64 (dp - 1) = 0
                · have HE2 : Hid (R = ((k : Int) + 1, wrap64 (dp - 1), false, es)) := by rw [HE.out, read_shut_e hlt e45 (.inr hz)]; exact rfl
                  have tz := beq_t hz
                  clear e1 e23 e45 HE hz
                  rcases t45 with t4 | ⟨t4, t5⟩
                  all_goals
                    go_wp2
                    refine bodyPost_ret (v := .tuple #[.int .i64 ((k : Int) + 1), .int .i64 (wrap64 (dp - 1)), .bool false, .bool es]) (by simp [results, Try.results10, go_sem]) rfl ⟨?_, rfl⟩
                    exact ret_four HE2.out
                · have HE2 : Hid (R = read wrap64 d n false (wrap64 (dp - 1)) false es (k + 1)) := by rw [HE.out, read_shut hlt e45 rfl hz]; exact rfl
                  have tz := beq_f hz
                  clear e1 e23 e45 HE hz
                  rcases t45 with t4 | ⟨t4, t5⟩
                  all_goals
                    go_wp2
                    go_round
                    case rel => exact ⟨k + 1, wrap64 (dp - 1), false, es, by omega, HE2, rfl, rfl, rfl, by go_num⟩
                    case measure => simp [intOf]; omega
            · have t4 := beq_f (show d k ≠ 125 by omega)
              have t5 := beq_f (show d k ≠ 93 by omega)
              have HE2 : Hid (R = read wrap64 d n each dp false es (k + 1)) := by rw [HE.out, read_o hlt e1 (by omega) (by omega) (by omega) (by omega)]; exact rfl
              clear e1 e23 e45 HE
              go_wp2
              go_round
              case rel => exact ⟨k + 1, dp, false, es, by omega, HE2, rfl, rfl, rfl, by go_num⟩
              case measure => simp [intOf]; omega
    · have HE2 : Hid (R = (-1, dp, iS, es)) := by rw [HE.out, read_out (by omega)]; exact rfl
      clear HE
      go_wp2
      refine bodyPost_ret (v := .tuple #[.int .i64 (-1), .int .i64 dp, .bool iS, .bool es]) (by simp [results, Try.results10, go_sem]) rfl ⟨?_, rfl⟩
      exact ret_four HE2.out

set_option maxHeartbeats 1000000 in
theorem zzRead_any (b n c : Nat) (a : Option Addr) (d : Nat → Int) (dep : Int) (inS esc each : Bool) (w : World) (hC : Cells w b 0 n d) (hd : ∀ i, i < n → 0 ≤ d i ∧ d i ≤ 255)
    (hn : n ≤ 1048576) (hnc : n ≤ c) (hcm : c ≤ maxLen) (hb : b ≠ w.heap.size) (hb' : 0 < n → b < w.heap.size) (ha : 0 < n → a = some ⟨b, 0, none⟩) :
    Calls Try.prog 9 #[.int .i64 dep, .bool inS, .bool esc, .slice a n c, .bool each] w fun e w' => e = .returned (.tuple #[.int .i64 (read wrap64 d n each dep inS esc 0).1, .int .i64 (read wrap64 d n each dep inS esc 0).2.1, .bool (read wrap64 d n each dep inS esc 0).2.2.1, .bool (read wrap64 d n each dep inS esc 0).2.2.2]) ∧ Below w.heap.size w w' := by
  have hN : N3 (w.alloc (Obj.cells #[Value.int IntKind.i64 dep, Value.bool inS, Value.bool esc] 41)) w.heap.size dep inS esc :=
    ⟨by simp, by simp, by simp, fun i => by unfold World.frozen?; rw [heap_alloc_new]; simp⟩
  have hB : Below w.heap.size w (w.alloc (Obj.cells #[Value.int IntKind.i64 dep, Value.bool inS, Value.bool esc] 41)) := (Below.refl _ _).alloc (Nat.le_refl _) _
  have hcall := readS_any w.heap.size b n c a d dep inS esc each _ hN (fun i hi => (hC.below hB (hb' (by omega))) i hi) hd hn hnc hcm hb ha
  have HB : Hid (Below w.heap.size w (w.alloc (Obj.cells #[Value.int IntKind.i64 dep, Value.bool inS, Value.bool esc] 41))) := hB
  clear hN hB hC hd ha hb'
  generalize read wrap64 d n each dep inS esc 0 = R at hcall ⊢
  obtain ⟨x, y, p, q⟩ := R
  go_enter Try.func9, Try.ntmps9
  go_wp2_with fail
  refine hcall.mono ?_
  rintro e w' ⟨rfl, hO, hN⟩
  have c0 := hN.c0
  have c1 := hN.c1
  have c2 := hN.c2
  have HBz : Hid (Below w.heap.size w w') := hO.below HB.out (by simp) (Nat.le_refl _)
  clear hcall HB hO hN
  go_wp2
  go_quiet (fail)
  go_wp2
  exact bodyPost_ret (v := .tuple #[.int .i64 x, .int .i64 y, .bool p, .bool q]) (by simp [results, Try.results9, go_sem]) rfl ⟨rfl, below_drewN HBz.out _⟩
end Go.Proofs.Qxb6602442a
