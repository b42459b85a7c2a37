/-
  'Rows.FnValueEndMatchesOnePassScannerSaid', proved. The frame is the guide's own shell (proof-skeleton.mjs); the walk is this seat's.
-/
import Derived.Test.Qxb6602372aRows
import Derived.WalkKit
import Derived.ProofKit
import Derived.OpenShut
import Derived.ShutString
import Derived.ChangeOld
import Derived.Below
import Derived.Test.Qxb6602372aOne
import Derived.Test.Qxb6602372aHead
namespace Go.Proofs.Qxb6602372a.fnValueEndMatchesOnePassScanner
open Go.ChangeShapes Go.WideShapes Go.ChangeAt Go.RowKit
open Go.ChangeMaps (open_string shut_string)
open Pl
set_option linter.unusedVariables false

theorem own : ownKnob Try.prog.godebug = none := by kernel_rfl
theorem laidOut : laidOutB Try.prog = true := by kernel_rfl

/-- WHAT THE WALK IS TOLD OF A SLICE OF INTEGERS THAT CAME IN: it is nil; or it leads to a row of 'cap' cells, the numbers 'zs' (the first 'len' are its elements, the rest its spare room), each fitting its kind. -/
def IsRow (k : IntKind) (w : World) (a : Option Addr) (len cap : Nat) (zs : List Int) : Prop :=
  (a = none ∧ len = 0 ∧ cap = 0 ∧ zs = []) ∨
  ∃ x, a = some x ∧ len ≤ cap ∧ cap ≤ maxLen ∧ zs.length = cap ∧ (∀ i, i < zs.length → w.cell? (x.add i) = some (.int k (zs.getD i 0))) ∧ ∀ n ∈ zs, (Lit.int k n).wf = true

/-! ### STEP 1: THE WALK -/
theorem walk_long (a0 : Option Addr) (len0 cap0 : Nat) (a1 : Int) (w : World) (hm : len0 ≤ maxLen) (h : ¬ len0 ≤ 1048576) :
    Calls Try.prog 6 #[.slice a0 len0 cap0, .int .i64 a1] w fun e w' => e = .returned (.bool true) ∧ Below w.heap.size w w' := by
  have hz := zzb17 a0 len0 cap0 a1 w hm
  have hd : decide (len0 ≤ 1048576) = false := by simpa using h
  rw [hd] at hz
  unfold maxLen at hm
  go_enter Try.func6, Try.ntmps6
  go_wp2_with (go_at_call 17; refine hz.mono ?_; rintro e w' ⟨rfl, hw⟩; subst hw)
  go_ret
  exact ⟨rfl, Below.refl _ _⟩

theorem walk_out (a0 : Option Addr) (len0 cap0 : Nat) (a1 : Int) (w : World) (h : len0 ≤ 1048576) (ho : a1 < 0 ∨ (len0 : Int) ≤ a1) :
    Calls Try.prog 6 #[.slice a0 len0 cap0, .int .i64 a1] w fun e w' => e = .returned (.bool true) ∧ Below w.heap.size w w' := by
  have hz := zzb17 a0 len0 cap0 a1 w (by unfold maxLen; omega)
  have hd : decide (len0 ≤ 1048576) = true := by simpa using h
  rw [hd] at hz
  by_cases h0 : a1 < 0
  · clear ho
    go_enter Try.func6, Try.ntmps6
    go_wp2_with (go_at_call 17; refine hz.mono ?_; rintro e w' ⟨rfl, hw⟩; subst hw)
    go_ret
    exact ⟨rfl, Below.refl _ _⟩
  · have h1 : (len0 : Int) ≤ a1 := by omega
    clear ho
    go_enter Try.func6, Try.ntmps6
    go_wp2_with (go_at_call 17; refine hz.mono ?_; rintro e w' ⟨rfl, hw⟩; subst hw)
    go_ret
    exact ⟨rfl, Below.refl _ _⟩

theorem walk_in (x : Addr) (n c : Nat) (zs : List Int) (s : Nat) (w : World) (hn : n ≤ 1048576) (hnc : n ≤ zs.length) (hs : s < n)
    (hc : ∀ i, i < n → w.cell? (x.add i) = some (.int .u8 (zs.getD i 0))) (hd : ∀ i, i < n → 0 ≤ zs.getD i 0 ∧ zs.getD i 0 ≤ 255) :
    Calls Try.prog 6 #[.slice (some x) n c, .int .i64 (s : Int)] w fun e w' => e = .returned (.bool true) ∧ Below w.heap.size w w' := by
  have hz := zzb17 (some x) n c (s : Int) w (by unfold maxLen; omega)
  have hdd : decide (n ≤ 1048576) = true := by simpa using hn
  rw [hdd] at hz
  obtain ⟨w1, w2, hmk, hcp, hb, _, hcell⟩ := clone_facts (P := Try.prog) .u8 22 5 1 w x n c zs hnc Try.underlying22 Try.info5 (by omega) (by unfold maxLen; omega) hc
  have hC : Cells w2 w.heap.size 0 n (fun i => zs.getD i 0) := hcell
  have hne := run_neq_slice_nil_any (P := Try.prog) w 22 5 (some x) n c 0 0 Try.underlying22
  have HB : Hid (Below w.heap.size w w2) := hb
  have h1 := zz_value (value_any w.heap.size 0 n n (fun i => zs.getD i 0) s w2 hC hd hn (Nat.le_refl _) (by unfold maxLen; omega) hs)
  have h2 := one_any w.heap.size 0 n n (fun i => zs.getD i 0) s w2 hC hn hs
  generalize vEnd (fun i => zs.getD i 0) n s = r at h1 h2
  clear hb hcell hC hc hd hdd hnc
  go_enter Try.func6, Try.ntmps6
  go_wp2_with (first | (go_at_call 17; refine hz.mono ?_; rintro e w' ⟨rfl, hw⟩; subst hw) | (go_at_call 18; refine h1.mono ?_; rintro e w' ⟨rfl, hw⟩; subst hw) | (go_at_call 19; refine h2.mono ?_; rintro e w' ⟨rfl, hw⟩; subst hw))
  go_ret
  exact ⟨rfl, HB.out⟩

theorem walk (a0 : Option Addr) (len0 cap0 : Nat) (z0 : List Int) (a1 : Int) (w : World) (w0 : IsRow .u8 w a0 len0 cap0 z0) (w1 : (Lit.int .i64 a1).wf = true) :
    Calls Try.prog 6 #[.slice a0 len0 cap0, .int .i64 a1] w fun e w' => e = .returned (.bool true) ∧ Below w.heap.size w w' := by
  rcases w0 with ⟨rfl, rfl, rfl, rfl⟩ | ⟨x, rfl, hlc, hcm, hzl, hcell, hwf⟩
  · exact walk_out none 0 0 a1 w (by omega) (by omega)
  · by_cases h : len0 ≤ 1048576
    · by_cases ho : a1 < 0 ∨ (len0 : Int) ≤ a1
      · exact walk_out (some x) len0 cap0 a1 w h ho
      · obtain ⟨s, rfl⟩ : ∃ s : Nat, a1 = (s : Int) := ⟨a1.toNat, by omega⟩
        have hrg := range_u8 hwf
        exact walk_in x len0 cap0 z0 s w h (by omega) (by omega) (fun i hi => hcell i (by omega)) (fun i hi => by rw [List.getD_eq_getElem?_getD]; exact hrg i)
    · exact walk_long (some x) len0 cap0 a1 w (by omega) h

/-! ### THE ROW's STEP: WRITTEN OUT: LEAVE IT -/
set_option maxRecDepth 100000 in
theorem lifted (os : Os) (started : os.Started) (H : Type) (enc : TypeId × Value → H) :
    ReturnsInHanded {} Try.checked os 6 .any (Rows.fnValueEndMatchesOnePassScannerSpec.pre6 enc Try.prog Try.f6 Rows.fnValueEndMatchesOnePassScannerRow.domain false) (Rows.fnValueEndMatchesOnePassScannerSpec.post enc Try.prog Try.f6 false true false false) := by
  refine returnsInHanded_of_change (C := Try.checked) own started (by kernel_rfl) Try.func6
    (ChangeSpec.witness6 (enc := enc) (C := Try.checked) false ⟨#[], #[.slice none 0 0, .int .i64 0], []⟩ 8 (by kernel_rfl) (by kernel_rfl) (by kernel_rfl) (by kernel_rfl)) ?_
  intro W base args ds gs before hval0 hW hcnd _
  have hval : ∀ (j : Nat) t v, Try.f6.params[j]? = some t → args[j]? = some v → Value.okWide Try.prog W .any base t v := hval0
  have hW' := hW
  obtain ⟨p, q, hA0, hV, rfl, hfz, hnd⟩ := hW
  have hA : DataW.TrodAll enc Try.prog W 0 (fun _ => true) true Try.f6.params.toList args.toList ds p := hA0
  rw [Try.params6] at hA hval
  obtain ⟨v0, vs0, d0, ds0, p0, q0, hargs, rfl, rfl, h0, r0⟩ := trodAll_cons hA
  obtain ⟨v1, vs1, d1, ds1, p1, q1, rfl, rfl, rfl, h1, r1⟩ := trodAll_cons r0
  obtain ⟨rfl, rfl, rfl⟩ := trodAll_nil r1
  obtain rfl : args = #[v0, v1] := by cases args; simp_all
  obtain ⟨rfl, rfl⟩ := trodVars_none hV
  obtain ⟨a0, len0, cap0, rfl⟩ := okWide_slice Try.underlying22 (hval 0 22 v0 rfl rfl)
  have k0 := h0
  have lt0 : ∀ x ∈ p0, x.block < W.heap.size := by obtain ⟨m, hm⟩ := k0; exact DataW.trod_lt m _ _ _ hm
  obtain ⟨z0, w0⟩ : ∃ zs, IsRow .u8 W a0 len0 cap0 zs := by
    obtain ⟨fuel, hf⟩ := h0
    rcases open_ints Try.underlying22 Try.underlying5 (by kernel_rfl) hf with ⟨hcs, _⟩ | ⟨x, l, c, zs, hcs, _, hl, hm, hz, _, hcell, hwz⟩
    · simp [Value.cells] at hcs
      obtain ⟨rfl, rfl, rfl⟩ := hcs
      exact ⟨[], .inl ⟨rfl, rfl, rfl, rfl⟩⟩
    · simp [Value.cells] at hcs
      obtain ⟨rfl, rfl, rfl⟩ := hcs
      exact ⟨zs, .inr ⟨_, rfl, hl, hm, by simpa using hz, hcell, hwz⟩⟩
  obtain ⟨a1, rfl, rfl, rfl, w1⟩ := open_int Try.underlying3 (hval 1 3 v1 rfl rfl) h1
  clear hA0 hval0
  refine (walk a0 len0 cap0 z0 a1 W w0 w1).mono fun e W' ⟨he, bel⟩ => ?_
  subst he
  exact ⟨_, rfl, _, _, _, [], _, [], hW', trodAll_mk1 (shut_bool Try.underlying4 _), (trodAll_cons_mk (Below.trod laidOut (by kernel_rfl) (of_decide_eq_true (by kernel_rfl)) k0 bel lt0) (trodAll_cons_mk (shut_int Try.underlying3 w1) trodAll_mk0)), rfl, bel.frame _, fun h => by cases h⟩

theorem closed : joinedFacts Try.prog 6 Try.f6 Rows.fnValueEndMatchesOnePassScannerSpec Rows.fnValueEndMatchesOnePassScannerRow = true := by
  unfold joinedFacts
  rw [may_enter, lifts_final, made_cut]
  kernel_rfl

theorem over : Rows.fnValueEndMatchesOnePassScannerRow.holds Try.pinned (OpenSpec.ofChange Rows.fnValueEndMatchesOnePassScannerSpec) :=
  OpenClaim.holds_of_wide 6 Try.f6 rfl rfl rfl rfl rfl rfl rfl ⟨rfl, rfl, rfl, rfl, rfl⟩ rfl rfl rfl rfl rfl (by kernel_rfl) Try.func6 closed
    (of_decide_eq_true (by kernel_rfl)) (by unfold Func.isWrapper; first | (rw [if_pos (by decide +kernel)]; kernel_rfl) | (rw [if_neg (by decide +kernel)]; exact ⟨rfl, rfl⟩))
    (fun os started H enc _ => lifted os started H enc)

/-- ████ THE STATEMENT ████ -/
theorem proved : Rows.FnValueEndMatchesOnePassScannerSaid := over
#print axioms proved
end Go.Proofs.Qxb6602372a.fnValueEndMatchesOnePassScanner
