/-
  'Rows.FnValueEndReadsTheSameValueCutOutSaid', proved. The frame is the guide's own shell (proof-skeleton.mjs); the walk is this seat's.
-/
import Derived.Test.Qxb6602372aRows
import Derived.WalkKit
import Derived.ProofKit
import Derived.OpenShut
import Derived.ShutString
import Derived.ChangeOld
import Derived.Below
import Derived.Test.Qxb6602372aOne
import Derived.Test.Qxb6602372aHead
namespace Go.Proofs.Qxb6602372a.fnValueEndReadsTheSameValueCutOut
open Go.ChangeShapes Go.WideShapes Go.ChangeAt Go.RowKit
open Go.ChangeMaps (open_string shut_string)
open Pl
set_option linter.unusedVariables false

theorem own : ownKnob Try.prog.godebug = none := by kernel_rfl
theorem laidOut : laidOutB Try.prog = true := by kernel_rfl

/-- WHAT THE WALK IS TOLD OF A SLICE OF INTEGERS THAT CAME IN: it is nil; or it leads to a row of 'cap' cells, the numbers 'zs' (the first 'len' are its elements, the rest its spare room), each fitting its kind. -/
def IsRow (k : IntKind) (w : World) (a : Option Addr) (len cap : Nat) (zs : List Int) : Prop :=
  (a = none ∧ len = 0 ∧ cap = 0 ∧ zs = []) ∨
  ∃ x, a = some x ∧ len ≤ cap ∧ cap ≤ maxLen ∧ zs.length = cap ∧ (∀ i, i < zs.length → w.cell? (x.add i) = some (.int k (zs.getD i 0))) ∧ ∀ n ∈ zs, (Lit.int k n).wf = true

/-! ### STEP 1: THE WALK -/
theorem walk_long (a0 : Option Addr) (len0 cap0 : Nat) (a1 : Int) (w : World) (hm : len0 ≤ maxLen) (h : ¬ len0 ≤ 1048576) :
    Calls Try.prog 7 #[.slice a0 len0 cap0, .int .i64 a1] w fun e w' => e = .returned (.bool true) ∧ Below w.heap.size w w' := by
  have hz := zzb20 a0 len0 cap0 a1 w hm
  have hd : decide (len0 ≤ 1048576) = false := by simpa using h
  rw [hd] at hz
  unfold maxLen at hm
  go_enter Try.func7, Try.ntmps7
  go_wp2_with (go_at_call 20; refine hz.mono ?_; rintro e w' ⟨rfl, hw⟩; subst hw)
  go_ret
  exact ⟨rfl, Below.refl _ _⟩

theorem walk_out (a0 : Option Addr) (len0 cap0 : Nat) (a1 : Int) (w : World) (h : len0 ≤ 1048576) (ho : a1 < 0 ∨ (len0 : Int) ≤ a1) :
    Calls Try.prog 7 #[.slice a0 len0 cap0, .int .i64 a1] w fun e w' => e = .returned (.bool true) ∧ Below w.heap.size w w' := by
  have hz := zzb20 a0 len0 cap0 a1 w (by unfold maxLen; omega)
  have hd : decide (len0 ≤ 1048576) = true := by simpa using h
  rw [hd] at hz
  by_cases h0 : a1 < 0
  · clear ho
    go_enter Try.func7, Try.ntmps7
    go_wp2_with (go_at_call 20; refine hz.mono ?_; rintro e w' ⟨rfl, hw⟩; subst hw)
    go_ret
    exact ⟨rfl, Below.refl _ _⟩
  · have h1 : (len0 : Int) ≤ a1 := by omega
    clear ho
    go_enter Try.func7, Try.ntmps7
    go_wp2_with (go_at_call 20; refine hz.mono ?_; rintro e w' ⟨rfl, hw⟩; subst hw)
    go_ret
    exact ⟨rfl, Below.refl _ _⟩

set_option maxHeartbeats 1000000 in
theorem walk_in (x : Addr) (n c : Nat) (zs : List Int) (s : Nat) (w : World) (hn : n ≤ 1048576) (hnc : n ≤ zs.length) (hs : s < n)
    (hc : ∀ i, i < n → w.cell? (x.add i) = some (.int .u8 (zs.getD i 0))) (hd : ∀ i, i < n → 0 ≤ zs.getD i 0 ∧ zs.getD i 0 ≤ 255) :
    Calls Try.prog 7 #[.slice (some x) n c, .int .i64 (s : Int)] w fun e w' => e = .returned (.bool true) ∧ Below w.heap.size w w' := by
  have hz := zzb20 (some x) n c (s : Int) w (by unfold maxLen; omega)
  have hdd : decide (n ≤ 1048576) = true := by simpa using hn
  rw [hdd] at hz
  obtain ⟨w1, w2, hmk, hcp, hb, _, hcell⟩ := clone_facts (P := Try.prog) .u8 22 5 1 w x n c zs hnc Try.underlying22 Try.info5 (by omega) (by unfold maxLen; omega) hc
  have hC : Cells w2 w.heap.size 0 n (fun i => zs.getD i 0) := hcell
  have hne := run_neq_slice_nil_any (P := Try.prog) w 22 5 (some x) n c 0 0 Try.underlying22
  have HB : Hid (Below w.heap.size w w2) := hb
  obtain ⟨d, hdef⟩ : ∃ d : Nat → Int, d = fun i => zs.getD i 0 := ⟨_, rfl⟩
  have hd' : ∀ i, i < n → 0 ≤ d i ∧ d i ≤ 255 := by rw [hdef]; exact hd
  rw [← hdef] at hC
  clear hdef hcell hc hd hnc hdd hb
  have h1 := zz_value (value_any w.heap.size 0 n n d s w2 hC hd' hn (Nat.le_refl _) (by unfold maxLen; omega) hs)
  have h2 := zz_value (value_any w.heap.size (0 + s) (n - s) (n - s) (fun t => d (s + t)) 0 w2 (hC.cut (by omega)) (fun i hi => hd' _ (by omega)) (by omega) (Nat.le_refl _) (by unfold maxLen; omega) (by omega))
  have hgt := vEnd_gt (d := d) hs
  have hle := vEnd_le (d := d) hs
  have hqt := vEnd_quote (d := d) hs
  have hsh := vEnd_shift (d := d) hs
  have hown := vEnd_own (d := d) hs
  have hcell0 := hC s hs
  have h3 : vEnd d n s ≤ n → Calls Try.prog 18 #[.slice (some ⟨w.heap.size, 0 + s, none⟩) (vEnd d n s - s) (n - s), .int .i64 ((0 : Nat) : Int)] w2 fun e w' => e = .returned (.int .i64 ((vEnd (fun t => d (s + t)) (vEnd d n s - s) 0 : Nat) : Int)) ∧ w' = w2 := fun h =>
    zz_value (value_any w.heap.size (0 + s) (vEnd d n s - s) (n - s) (fun t => d (s + t)) 0 w2 (hC.cut (by omega)) (fun i hi => hd' _ (by omega)) (by omega) (by omega) (by unfold maxLen; omega) (by omega))
  clear hC hd'
  generalize vEnd d n s = r at *
  obtain ⟨v2, hv2⟩ : ∃ v2, v2 = vEnd (fun t => d (s + t)) (n - s) 0 := ⟨_, rfl⟩
  rw [← hv2] at h2 hsh
  obtain rfl : v2 = r - s := by omega
  clear hv2 hsh
  by_cases hr : r ≤ n
  · have h3' := h3 hr
    have ho := hown hr
    obtain ⟨v3, hv3⟩ : ∃ v3, v3 = vEnd (fun t => d (s + t)) (r - s) 0 := ⟨_, rfl⟩
    rw [← hv3] at h3' ho
    obtain rfl : v3 = r - s := by omega
    clear hv3 h3 hown ho hqt
    have e1 : ((r - s : Nat) : Int) = (r : Int) - (s : Int) := by omega
    rw [e1] at h2 h3'
    clear e1
    rw [Nat.zero_add] at h2 h3' hcell0
    have H1 : Hid (Calls Try.prog 18 #[.slice (some ⟨w.heap.size, 0, none⟩) n n, .int .i64 (s : Int)] w2 fun e w' => e = .returned (.int .i64 (r : Int)) ∧ w' = w2) := h1
    have H2 : Hid (Calls Try.prog 18 #[.slice (some ⟨w.heap.size, s, none⟩) (n - s) (n - s), .int .i64 0] w2 fun e w' => e = .returned (.int .i64 ((r : Int) - (s : Int))) ∧ w' = w2) := h2
    have H3 : Hid (Calls Try.prog 18 #[.slice (some ⟨w.heap.size, s, none⟩) (r - s) (n - s), .int .i64 0] w2 fun e w' => e = .returned (.int .i64 ((r : Int) - (s : Int))) ∧ w' = w2) := h3'
    clear h1 h2 h3'
    go_enter Try.func7, Try.ntmps7
    go_wp2_with (first | (go_at_call 20; refine hz.mono ?_; rintro e w' ⟨rfl, hw⟩; subst hw) | (go_at_call 18; (first | (refine H1.out.mono ?_) | (refine H2.out.mono ?_) | (refine H3.out.mono ?_)); rintro e w' ⟨rfl, hw⟩; subst hw))
    go_ret
    exact ⟨rfl, HB.out⟩
  · obtain rfl : r = n + 1 := by omega
    have h34 := beq_t (hqt rfl)
    have e1 : ((n + 1 - s : Nat) : Int) = (n : Int) + 1 - (s : Int) := by omega
    rw [e1] at h2
    rw [Nat.zero_add] at h2 hcell0
    have e2 : ((n + 1 : Nat) : Int) = (n : Int) + 1 := by omega
    rw [e2] at h1
    have H1 : Hid (Calls Try.prog 18 #[.slice (some ⟨w.heap.size, 0, none⟩) n n, .int .i64 (s : Int)] w2 fun e w' => e = .returned (.int .i64 ((n : Int) + 1)) ∧ w' = w2) := h1
    have H2 : Hid (Calls Try.prog 18 #[.slice (some ⟨w.heap.size, s, none⟩) (n - s) (n - s), .int .i64 0] w2 fun e w' => e = .returned (.int .i64 ((n : Int) + 1 - (s : Int))) ∧ w' = w2) := h2
    clear h1 h2 h3 hown hqt e1 e2 hgt hle hr
    go_enter Try.func7, Try.ntmps7
    go_wp2_with (first | (go_at_call 20; refine hz.mono ?_; rintro e w' ⟨rfl, hw⟩; subst hw) | (go_at_call 18; (first | (refine H1.out.mono ?_) | (refine H2.out.mono ?_)); rintro e w' ⟨rfl, hw⟩; subst hw))
    go_ret
    exact ⟨rfl, HB.out⟩

theorem walk (a0 : Option Addr) (len0 cap0 : Nat) (z0 : List Int) (a1 : Int) (w : World) (w0 : IsRow .u8 w a0 len0 cap0 z0) (w1 : (Lit.int .i64 a1).wf = true) :
    Calls Try.prog 7 #[.slice a0 len0 cap0, .int .i64 a1] w fun e w' => e = .returned (.bool true) ∧ Below w.heap.size w w' := by
  rcases w0 with ⟨rfl, rfl, rfl, rfl⟩ | ⟨x, rfl, hlc, hcm, hzl, hcell, hwf⟩
  · exact walk_out none 0 0 a1 w (by omega) (by omega)
  · by_cases h : len0 ≤ 1048576
    · by_cases ho : a1 < 0 ∨ (len0 : Int) ≤ a1
      · exact walk_out (some x) len0 cap0 a1 w h ho
      · obtain ⟨s, rfl⟩ : ∃ s : Nat, a1 = (s : Int) := ⟨a1.toNat, by omega⟩
        have hrg := range_u8 hwf
        exact walk_in x len0 cap0 z0 s w h (by omega) (by omega) (fun i hi => hcell i (by omega)) (fun i hi => by rw [List.getD_eq_getElem?_getD]; exact hrg i)
    · exact walk_long (some x) len0 cap0 a1 w (by omega) h

/-! ### THE ROW's STEP: WRITTEN OUT: LEAVE IT -/
set_option maxRecDepth 100000 in
theorem lifted (os : Os) (started : os.Started) (H : Type) (enc : TypeId × Value → H) :
    ReturnsInHanded {} Try.checked os 7 .any (Rows.fnValueEndReadsTheSameValueCutOutSpec.pre6 enc Try.prog Try.f7 Rows.fnValueEndReadsTheSameValueCutOutRow.domain false) (Rows.fnValueEndReadsTheSameValueCutOutSpec.post enc Try.prog Try.f7 false true false false) := by
  refine returnsInHanded_of_change (C := Try.checked) own started (by kernel_rfl) Try.func7
    (ChangeSpec.witness6 (enc := enc) (C := Try.checked) false ⟨#[], #[.slice none 0 0, .int .i64 0], []⟩ 8 (by kernel_rfl) (by kernel_rfl) (by kernel_rfl) (by kernel_rfl)) ?_
  intro W base args ds gs before hval0 hW hcnd _
  have hval : ∀ (j : Nat) t v, Try.f7.params[j]? = some t → args[j]? = some v → Value.okWide Try.prog W .any base t v := hval0
  have hW' := hW
  obtain ⟨p, q, hA0, hV, rfl, hfz, hnd⟩ := hW
  have hA : DataW.TrodAll enc Try.prog W 0 (fun _ => true) true Try.f7.params.toList args.toList ds p := hA0
  rw [Try.params7] at hA hval
  obtain ⟨v0, vs0, d0, ds0, p0, q0, hargs, rfl, rfl, h0, r0⟩ := trodAll_cons hA
  obtain ⟨v1, vs1, d1, ds1, p1, q1, rfl, rfl, rfl, h1, r1⟩ := trodAll_cons r0
  obtain ⟨rfl, rfl, rfl⟩ := trodAll_nil r1
  obtain rfl : args = #[v0, v1] := by cases args; simp_all
  obtain ⟨rfl, rfl⟩ := trodVars_none hV
  obtain ⟨a0, len0, cap0, rfl⟩ := okWide_slice Try.underlying22 (hval 0 22 v0 rfl rfl)
  have k0 := h0
  have lt0 : ∀ x ∈ p0, x.block < W.heap.size := by obtain ⟨m, hm⟩ := k0; exact DataW.trod_lt m _ _ _ hm
  obtain ⟨z0, w0⟩ : ∃ zs, IsRow .u8 W a0 len0 cap0 zs := by
    obtain ⟨fuel, hf⟩ := h0
    rcases open_ints Try.underlying22 Try.underlying5 (by kernel_rfl) hf with ⟨hcs, _⟩ | ⟨x, l, c, zs, hcs, _, hl, hm, hz, _, hcell, hwz⟩
    · simp [Value.cells] at hcs
      obtain ⟨rfl, rfl, rfl⟩ := hcs
      exact ⟨[], .inl ⟨rfl, rfl, rfl, rfl⟩⟩
    · simp [Value.cells] at hcs
      obtain ⟨rfl, rfl, rfl⟩ := hcs
      exact ⟨zs, .inr ⟨_, rfl, hl, hm, by simpa using hz, hcell, hwz⟩⟩
  obtain ⟨a1, rfl, rfl, rfl, w1⟩ := open_int Try.underlying3 (hval 1 3 v1 rfl rfl) h1
  clear hA0 hval0
  refine (walk a0 len0 cap0 z0 a1 W w0 w1).mono fun e W' ⟨he, bel⟩ => ?_
  subst he
  exact ⟨_, rfl, _, _, _, [], _, [], hW', trodAll_mk1 (shut_bool Try.underlying4 _), (trodAll_cons_mk (Below.trod laidOut (by kernel_rfl) (of_decide_eq_true (by kernel_rfl)) k0 bel lt0) (trodAll_cons_mk (shut_int Try.underlying3 w1) trodAll_mk0)), rfl, bel.frame _, fun h => by cases h⟩

theorem closed : joinedFacts Try.prog 7 Try.f7 Rows.fnValueEndReadsTheSameValueCutOutSpec Rows.fnValueEndReadsTheSameValueCutOutRow = true := by
  unfold joinedFacts
  rw [may_enter, lifts_final, made_cut]
  kernel_rfl

theorem over : Rows.fnValueEndReadsTheSameValueCutOutRow.holds Try.pinned (OpenSpec.ofChange Rows.fnValueEndReadsTheSameValueCutOutSpec) :=
  OpenClaim.holds_of_wide 7 Try.f7 rfl rfl rfl rfl rfl rfl rfl ⟨rfl, rfl, rfl, rfl, rfl⟩ rfl rfl rfl rfl rfl (by kernel_rfl) Try.func7 closed
    (of_decide_eq_true (by kernel_rfl)) (by unfold Func.isWrapper; first | (rw [if_pos (by decide +kernel)]; kernel_rfl) | (rw [if_neg (by decide +kernel)]; exact ⟨rfl, rfl⟩))
    (fun os started H enc _ => lifted os started H enc)

/-- ████ THE STATEMENT ████ -/
theorem proved : Rows.FnValueEndReadsTheSameValueCutOutSaid := over
#print axioms proved
end Go.Proofs.Qxb6602372a.fnValueEndReadsTheSameValueCutOut
