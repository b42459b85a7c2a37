/-
  The contract of read (18).
-/
import Derived.Test.Qxb6602442aPassM
namespace Go.Proofs.Qxb6602442a
open Go.RowKit
open Pl

theorem read_behind {W : Int → Int} {d : Nat → Int} {n k r : Nat} {each : Bool} {dep : Int} {esc es : Bool} (h : pass d n esc k = (r, es)) :
    read W d n each dep true esc k = read W d n each dep (openAt n r true) es (r + 1) := by
  have hp := read_pass W d n each dep _ k esc (Nat.le_refl _)
  have hl := (pass_le d n _ k esc (Nat.le_refl _))
  rw [h] at hp hl
  rw [hp]
  unfold openAt
  by_cases hr : r < n
  · have he : es = false := hl.2.2 hr
    rw [if_pos hr, if_pos hr, he]
  · rw [if_neg hr, if_neg hr, read_out (by omega)]

set_option maxHeartbeats 1000000 in
theorem readS_any (g b n c : Nat) (a : Option Addr) (d : Nat → Int) (dep : Int) (inS esc each : Bool) (w : World) (hN : N3 w g dep inS esc) (hC : Cells w b 0 n d) (hd : ∀ i, i < n → 0 ≤ d i ∧ d i ≤ 255)
    (hn : n ≤ 1048576) (hnc : n ≤ c) (hcm : c ≤ maxLen) (hbg : b ≠ g) (ha : 0 < n → a = some ⟨b, 0, none⟩) :
    Calls Try.prog 18 #[.pointer (some ⟨g, 0, none⟩), .slice a n c, .bool each] w fun e w' => e = .returned (.int .i64 (read wrap64 d n each dep inS esc 0).1) ∧ Only g w w' ∧ N3 w' g (read wrap64 d n each dep inS esc 0).2.1 (read wrap64 d n each dep inS esc 0).2.2.1 (read wrap64 d n each dep inS esc 0).2.2.2 := by
  have HD : Hid (∀ i, i < n → 0 ≤ d i ∧ d i ≤ 255) := hd
  have HN : Hid (N3 w g dep inS esc) := hN
  have HC : Hid (Cells w b 0 n d) := hC
  have HBG : Hid (b ≠ g) := hbg
  have HA : Hid (0 < n → a = some ⟨b, 0, none⟩) := ha
  have HCM : Hid (c ≤ maxLen) := hcm
  clear hN hC hbg hd ha hcm
  obtain ⟨R, hR⟩ : ∃ R, R = read wrap64 d n each dep inS esc 0 := ⟨_, rfl⟩
  rw [← hR]
  have HR0 : Hid (R = read wrap64 d n each dep inS esc 0) := hR
  clear hR
  go_enter Try.func18, Try.ntmps18
  go_wp2
  go_loopw [7] (fun x wr => ∃ (k : Nat) (dp : Int) (iS es : Bool), k ≤ n + 1 ∧ Hid (R = read wrap64 d n each dp iS es k) ∧ Hid (Only g w wr) ∧ Hid (N3 wr g dp iS es) ∧ x = .int .i64 (k : Int)) (fun x _ => n + 1 - (intOf x).toNat)
  case atStart => exact ⟨0, dep, inS, esc, Nat.zero_le _, HR0, Only.refl _ _, HN, rfl⟩
  case round =>
    obtain ⟨k, dp, iS, es, hk, HE, HO, HR, rfl⟩ := hrel
    by_cases hlt : k < n
    · obtain rfl := HA.out (by omega)
      have HCr : Hid (Cells wr b 0 n d) := HO.out.cells HBG.out HC.out
      have c1 := HR.out.c1
      have c0 := HR.out.c0
      have fz := HR.out.fz
      cases iS with
      | true =>
        have hps := passS_any g b n c d k dp true es wr HR.out HCr.out HD.out hn hnc HCM.out HBG.out hlt
        go_wp2_with fail
        refine hps.mono ?_
        rintro e w' ⟨r, es', HX, rfl, hO', hN'⟩
        have hle := (pass_le d n _ k es (Nat.le_refl _))
        rw [HX.out] at hle
        have hrn : r ≤ n := hle.1
        have hkr : k ≤ r := hle.2.1 (by omega)
        have HE2 : Hid (R = read wrap64 d n each dp (openAt n r true) es' (r + 1)) := by rw [HE.out, read_behind HX.out]; exact rfl
        have HO2 : Hid (Only g w w') := HO.out.trans hO'
        have HN2 : Hid (N3 w' g dp (openAt n r true) es') := hN'
        clear hle HX hps hO' hN' HE HO HR c0 c1 fz HCr
        generalize openAt n r true = oo at HE2 HN2
        go_wp2
        go_roundw
        case rel => exact ⟨r + 1, dp, oo, es', by omega, HE2, HO2, HN2, by go_num⟩
        case measure => simp [intOf]; omega
      | false =>
        have hcell := HCr.out k hlt
        rw [Nat.zero_add] at hcell
        by_cases e1 : d k = 34
        · have t1 := beq_t e1
          have HE2 : Hid (R = read wrap64 d n each dp true es (k + 1)) := by rw [HE.out, read_q hlt e1]; exact rfl
          clear e1 HE
          go_wp2
          go_roundw
          case rel => exact ⟨k + 1, dp, true, es, by omega, HE2, HO.out.set _, HR.out.set1 _, by go_num⟩
          case measure => simp [intOf]; omega
        · have t1 := beq_f e1
          by_cases e23 : d k = 123 ∨ d k = 91
          · have t23 : (d k == 123) = true ∨ ((d k == 123) = false ∧ (d k == 91) = true) := by
              by_cases e4 : d k = 123
              · exact .inl (beq_t e4)
              · exact .inr ⟨beq_f e4, beq_t (by omega)⟩
            cases each with
            | true =>
              have HE2 : Hid (R = ((k : Int) + 1, wrap64 (dp + 1), false, es)) := by rw [HE.out, read_open_e hlt e23 rfl]; exact rfl
              clear e1 e23 HE
              rcases t23 with t2 | ⟨t2, t3⟩
              all_goals
                go_wp2
                go_ret
                exact ⟨ret_int (by rw [HE2.out]), HO.out.set _, by rw [HE2.out]; exact HR.out.set0 _⟩
            | false =>
              have HE2 : Hid (R = read wrap64 d n false (wrap64 (dp + 1)) false es (k + 1)) := by rw [HE.out, read_open hlt e23 rfl]; exact rfl
              clear e1 e23 HE
              rcases t23 with t2 | ⟨t2, t3⟩
              all_goals
                go_wp2
                go_roundw
                case rel => exact ⟨k + 1, wrap64 (dp + 1), false, es, by omega, HE2, HO.out.set _, HR.out.set0 _, by go_num⟩
                case measure => simp [intOf]; omega
          · have t2 := beq_f (show d k ≠ 123 by omega)
            have t3 := beq_f (show d k ≠ 91 by omega)
            by_cases e45 : d k = 125 ∨ d k = 93
            · have t45 : (d k == 125) = true ∨ ((d k == 125) = false ∧ (d k == 93) = true) := by
                by_cases e4 : d k = 125
                · exact .inl (beq_t e4)
                · exact .inr ⟨beq_f e4, beq_t (by omega)⟩
              cases each with
              | true =>
                have HE2 : Hid (R = ((k : Int) + 1, wrap64 (dp - 1), false, es)) := by rw [HE.out, read_shut_e hlt e45 (.inl rfl)]; exact rfl
                clear e1 e23 e45 HE
                rcases t45 with t4 | ⟨t4, t5⟩
                all_goals
                  go_wp2
                  go_ret
                  exact ⟨ret_int (by rw [HE2.out]), HO.out.set _, by rw [HE2.out]; exact HR.out.set0 _⟩
              | false =>
                by_cases hz : wrap64 (dp - 1) = 0
                · have HE2 : Hid (R = ((k : Int) + 1, wrap64 (dp - 1), false, es)) := by rw [HE.out, read_shut_e hlt e45 (.inr hz)]; exact rfl
                  have tz := beq_t hz
                  clear e1 e23 e45 HE hz
                  rcases t45 with t4 | ⟨t4, t5⟩
                  all_goals
                    go_wp2
                    go_ret
                    exact ⟨ret_int (by rw [HE2.out]), HO.out.set _, by rw [HE2.out]; exact HR.out.set0 _⟩
                · have HE2 : Hid (R = read wrap64 d n false (wrap64 (dp - 1)) false es (k + 1)) := by rw [HE.out, read_shut hlt e45 rfl hz]; exact rfl
                  have tz := beq_f hz
                  clear e1 e23 e45 HE hz
                  rcases t45 with t4 | ⟨t4, t5⟩
                  all_goals
                    go_wp2
                    go_roundw
                    case rel => exact ⟨k + 1, wrap64 (dp - 1), false, es, by omega, HE2, HO.out.set _, HR.out.set0 _, by go_num⟩
                    case measure => simp [intOf]; omega
            · have t4 := beq_f (show d k ≠ 125 by omega)
              have t5 := beq_f (show d k ≠ 93 by omega)
              have HE2 : Hid (R = read wrap64 d n each dp false es (k + 1)) := by rw [HE.out, read_o hlt e1 (by omega) (by omega) (by omega) (by omega)]; exact rfl
              clear e1 e23 e45 HE
              go_wp2
              go_roundw
              case rel => exact ⟨k + 1, dp, false, es, by omega, HE2, HO, HR, by go_num⟩
              case measure => simp [intOf]; omega
    · have HE2 : Hid (R = (-1, dp, iS, es)) := by rw [HE.out, read_out (by omega)]; exact rfl
      clear HE
      go_wp2
      go_ret
      exact ⟨ret_int (by rw [HE2.out]), HO.out, by rw [HE2.out]; exact HR.out⟩
end Go.Proofs.Qxb6602442a
