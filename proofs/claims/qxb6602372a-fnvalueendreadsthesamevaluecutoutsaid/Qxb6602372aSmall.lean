/-
  Contracts: closingQuote and escapeScanEnd at nil, ZZClosingQuote (12), the bound on lengths (11).
-/
import Derived.Test.Qxb6602372aScan
import Derived.Test.Qxb6602372aClone
namespace Go.Proofs.Qxb6602372a
open Go.RowKit
open Pl
theorem Try.info5 : (Try.prog.info? 5).map (fun i => (i.zero, i.size, i.bytes)) = some (some (.int .u8 0), 1, 1) := by kernel_rfl

set_option maxHeartbeats 400000 in
theorem close_nil (w : World) :
    Calls Try.prog 26 #[.slice none 0 0, .int .i64 0] w fun e w' => e = .returned (.int .i64 0) ∧ w' = w := by
  go_enter Try.func26, Try.ntmps26
  go_wp2
  go_loop [5] (fun i => i = .int .i64 0) (fun _ => 0)
  case atStart => rfl
  case round =>
    subst hrel
    go_wp2_with (go_at_call 30; refine (ib_nil _ _).mono ?_; rintro e w' ⟨rfl, hw⟩; subst hw)
    go_ret
    exact ⟨rfl, rfl⟩

set_option maxHeartbeats 400000 in
theorem esc_nil (w : World) :
    Calls Try.prog 13 #[.slice none 0 0, .int .i64 0] w fun e w' => e = .returned (.int .i64 0) ∧ w' = w := by
  go_enter Try.func13, Try.ntmps13
  go_wp2
  go_loop [5] (fun i => i = .int .i64 0) (fun _ => 0)
  case atStart => rfl
  case round =>
    subst hrel
    go_wp2
    go_ret
    exact ⟨rfl, rfl⟩

set_option maxHeartbeats 400000 in
theorem zz_close {v : Value} {s r : Int} {w : World} (h : Calls Try.prog 26 #[v, .int .i64 s] w fun e w' => e = .returned (.int .i64 r) ∧ w' = w) :
    Calls Try.prog 12 #[v, .int .i64 s] w fun e w' => e = .returned (.int .i64 r) ∧ w' = w := by
  have H : Hid (Calls Try.prog 26 #[v, .int .i64 s] w fun e w' => e = .returned (.int .i64 r) ∧ w' = w) := h
  clear h
  go_enter Try.func12, Try.ntmps12
  go_wp2_with (go_at_call 26; refine H.out.mono ?_; rintro e w' ⟨rfl, hw⟩; subst hw)
  go_ret
  exact ⟨rfl, rfl⟩

set_option maxHeartbeats 400000 in
theorem zzb_any (a : Option Addr) (n c : Nat) (s : Int) (w : World) (hm : n ≤ maxLen) :
    Calls Try.prog 11 #[.slice a n c, .int .i64 s] w fun e w' => e = .returned (.bool (decide (n ≤ 1048576))) ∧ w' = w := by
  unfold maxLen at hm
  by_cases h : n ≤ 1048576
  · have hd : decide (n ≤ 1048576) = true := by simpa using h
    rw [hd]
    go_enter Try.func11, Try.ntmps11
    go_wp2
    go_ret
    exact ⟨rfl, rfl⟩
  · have hd : decide (n ≤ 1048576) = false := by simpa using h
    rw [hd]
    go_enter Try.func11, Try.ntmps11
    go_wp2
    go_ret
    exact ⟨rfl, rfl⟩
end Go.Proofs.Qxb6602372a
