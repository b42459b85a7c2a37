/-
  'Rows.FnNestingPassStringMatchesByteModelSaid', proved. The frame is the guide's own shell (proof-skeleton.mjs); the walk is this seat's.
-/
import Derived.Test.Qxb6602442aRows
import Derived.WalkKit
import Derived.ProofKit
import Derived.OpenShut
import Derived.ShutString
import Derived.ChangeOld
import Derived.Below
import Derived.Test.Qxb6602442aPassM
import Derived.Test.Qxb6602442aHead
namespace Go.Proofs.Qxb6602442a.fnNestingPassStringMatchesByteModel
open Go.ChangeShapes Go.WideShapes Go.ChangeAt Go.RowKit
open Go.ChangeMaps (open_string shut_string)
open Pl
set_option linter.unusedVariables false

theorem own : ownKnob Try.prog.godebug = none := by kernel_rfl
theorem laidOut : laidOutB Try.prog = true := by kernel_rfl

/-- WHAT THE WALK IS TOLD OF A SLICE OF INTEGERS THAT CAME IN: it is nil; or it leads to a row of 'cap' cells, the numbers 'zs' (the first 'len' are its elements, the rest its spare room), each fitting its kind. -/
def IsRow (k : IntKind) (w : World) (a : Option Addr) (len cap : Nat) (zs : List Int) : Prop :=
  (a = none ∧ len = 0 ∧ cap = 0 ∧ zs = []) ∨
  ∃ x, a = some x ∧ len ≤ cap ∧ cap ≤ maxLen ∧ zs.length = cap ∧ (∀ i, i < zs.length → w.cell? (x.add i) = some (.int k (zs.getD i 0))) ∧ ∀ n ∈ zs, (Lit.int k n).wf = true

/-! ### STEP 1: THE WALK -/
set_option maxHeartbeats 1000000 in
theorem walk_long (a0 : Int) (a1 a2 : Bool) (a3 : Option Addr) (n c : Nat) (a4 : Int) (w : World) (hm : n ≤ maxLen) (h : ¬ n ≤ 1048576) :
    Calls Try.prog 5 #[.int .i64 a0, .bool a1, .bool a2, .slice a3 n c, .int .i64 a4] w fun e w' => e = .returned (.bool true) ∧ Below w.heap.size w w' := by
  unfold maxLen at hm
  go_enter Try.func5, Try.ntmps5
  go_wp2
  all_goals (go_ret; exact ⟨rfl, Below.refl _ _⟩)

set_option maxHeartbeats 1000000 in
theorem walk_out (a0 : Int) (a1 a2 : Bool) (a3 : Option Addr) (n c : Nat) (a4 : Int) (w : World) (h : n ≤ 1048576) (ho : a4 < 0 ∨ (n : Int) ≤ a4) :
    Calls Try.prog 5 #[.int .i64 a0, .bool a1, .bool a2, .slice a3 n c, .int .i64 a4] w fun e w' => e = .returned (.bool true) ∧ Below w.heap.size w w' := by
  by_cases h0 : a4 < 0
  · clear ho
    go_enter Try.func5, Try.ntmps5
    go_wp2
    all_goals (go_ret; exact ⟨rfl, Below.refl _ _⟩)
  · have h1 : (n : Int) ≤ a4 := by omega
    clear ho
    go_enter Try.func5, Try.ntmps5
    go_wp2
    all_goals (go_ret; exact ⟨rfl, Below.refl _ _⟩)

set_option maxHeartbeats 1000000 in
theorem zzb12 (a0 : Int) (a1 a2 : Bool) (a3 : Option Addr) (n c : Nat) (a4 : Int) (w : World) (h : n ≤ 1048576) :
    Calls Try.prog 12 #[.int .i64 a0, .bool a1, .bool a2, .slice a3 n c, .int .i64 a4] w fun e w' => e = .returned (.bool true) ∧ w' = w := by
  go_enter Try.func12, Try.ntmps12
  go_wp2
  go_ret
  exact ⟨rfl, rfl⟩

set_option maxHeartbeats 1000000 in
theorem walk_in (dep : Int) (inS esc : Bool) (x : Addr) (n c : Nat) (zs : List Int) (i : Nat) (w : World) (hn : n ≤ 1048576) (hi : i < n)
    (hc : ∀ i, i < n → w.cell? (x.add i) = some (.int .u8 (zs.getD i 0))) (hd : ∀ i, i < n → 0 ≤ zs.getD i 0 ∧ zs.getD i 0 ≤ 255) :
    Calls Try.prog 5 #[.int .i64 dep, .bool inS, .bool esc, .slice (some x) n c, .int .i64 (i : Int)] w fun e w' => e = .returned (.bool true) ∧ Below w.heap.size w w' := by
  have hz := zzb12 dep inS esc (some x) n c (i : Int) w hn
  have hcl := clone_some x n c zs w hn hc
  have HD : Hid (∀ i, i < n → 0 ≤ zs.getD i 0 ∧ zs.getD i 0 ≤ 255) := hd
  clear hd hc
  go_enter Try.func5, Try.ntmps5
  go_wp2_with fail
  refine hz.mono ?_
  rintro e w' ⟨rfl, hw⟩
  have hw2 := hw.symm
  subst hw2
  clear hz
  go_wp2_with fail
  refine hcl.mono ?_
  rintro e w1 ⟨rfl, hb1, hlt1, hC⟩
  clear hcl
  have hp := zzPass_any w.heap.size n n (fun i => zs.getD i 0) i dep inS esc w1 hC HD.out hn (Nat.le_refl _) (by unfold maxLen; omega) hi
  have HC : Hid (Cells w1 w.heap.size 0 n (fun i => zs.getD i 0)) := hC
  have HB1 : Hid (Below w.heap.size w w1) := hb1
  have HL1 : Hid (w.heap.size < w1.heap.size) := hlt1
  clear hC hb1 hlt1 HD
  go_wp2_with fail
  refine hp.mono ?_
  rintro e w2 ⟨rfl, hb2⟩
  have hm := passM_any w.heap.size n n (fun i => zs.getD i 0) i inS esc w2 (HC.out.below hb2 HL1.out) hn hi
  have HB2 : Hid (Below w.heap.size w w2) := HB1.out.trans (hb2.mono (Nat.le_of_lt HL1.out))
  clear hp hb2 HC HB1 HL1
  generalize pass (fun i => zs.getD i 0) n esc i = P at hm ⊢
  go_wp2_with (go_at_call 14; refine hm.mono ?_; rintro e w' ⟨rfl, hw⟩; have hw2 := hw.symm; subst hw2)
  go_ret
  exact ⟨rfl, HB2.out⟩

theorem walk (a0 : Int) (a1 : Bool) (a2 : Bool) (a3 : Option Addr) (len3 cap3 : Nat) (z3 : List Int) (a4 : Int) (w : World) (w0 : (Lit.int .i64 a0).wf = true) (w3 : IsRow .u8 w a3 len3 cap3 z3) (w4 : (Lit.int .i64 a4).wf = true) :
    Calls Try.prog 5 #[.int .i64 a0, .bool a1, .bool a2, .slice a3 len3 cap3, .int .i64 a4] w fun e w' => e = .returned (.bool true) ∧ Below w.heap.size w w' := by
  rcases w3 with ⟨rfl, rfl, rfl, rfl⟩ | ⟨x, rfl, hlc, hcm, hzl, hcell, hwf⟩
  · exact walk_out a0 a1 a2 none 0 0 a4 w (by omega) (by omega)
  · by_cases h : len3 ≤ 1048576
    · by_cases ho : a4 < 0 ∨ (len3 : Int) ≤ a4
      · exact walk_out a0 a1 a2 (some x) len3 cap3 a4 w h ho
      · obtain ⟨s, rfl⟩ : ∃ s : Nat, a4 = (s : Int) := ⟨a4.toNat, by omega⟩
        have hrg := range_u8 hwf
        exact walk_in a0 a1 a2 x len3 cap3 z3 s w h (by omega) (fun i hi => hcell i (by omega)) (fun i hi => by rw [List.getD_eq_getElem?_getD]; exact hrg i)
    · exact walk_long a0 a1 a2 (some x) len3 cap3 a4 w (by omega) h

/-! ### THE ROW's STEP: WRITTEN OUT: LEAVE IT -/
set_option maxRecDepth 100000 in
theorem lifted (os : Os) (started : os.Started) (H : Type) (enc : TypeId × Value → H) :
    ReturnsInHanded {} Try.checked os 5 .any (Rows.fnNestingPassStringMatchesByteModelSpec.pre6 enc Try.prog Try.f5 Rows.fnNestingPassStringMatchesByteModelRow.domain false) (Rows.fnNestingPassStringMatchesByteModelSpec.post enc Try.prog Try.f5 false true false false) := by
  refine returnsInHanded_of_change (C := Try.checked) own started (by kernel_rfl) Try.func5
    (ChangeSpec.witness6 (enc := enc) (C := Try.checked) false ⟨#[], #[.int .i64 0, .bool false, .bool false, .slice none 0 0, .int .i64 0], []⟩ 8 (by kernel_rfl) (by kernel_rfl) (by kernel_rfl) (by kernel_rfl)) ?_
  intro W base args ds gs before hval0 hW hcnd _
  have hval : ∀ (j : Nat) t v, Try.f5.params[j]? = some t → args[j]? = some v → Value.okWide Try.prog W .any base t v := hval0
  have hW' := hW
  obtain ⟨p, q, hA0, hV, rfl, hfz, hnd⟩ := hW
  have hA : DataW.TrodAll enc Try.prog W 0 (fun _ => true) true Try.f5.params.toList args.toList ds p := hA0
  rw [Try.params5] at hA hval
  obtain ⟨v0, vs0, d0, ds0, p0, q0, hargs, rfl, rfl, h0, r0⟩ := trodAll_cons hA
  obtain ⟨v1, vs1, d1, ds1, p1, q1, rfl, rfl, rfl, h1, r1⟩ := trodAll_cons r0
  obtain ⟨v2, vs2, d2, ds2, p2, q2, rfl, rfl, rfl, h2, r2⟩ := trodAll_cons r1
  obtain ⟨v3, vs3, d3, ds3, p3, q3, rfl, rfl, rfl, h3, r3⟩ := trodAll_cons r2
  obtain ⟨v4, vs4, d4, ds4, p4, q4, rfl, rfl, rfl, h4, r4⟩ := trodAll_cons r3
  obtain ⟨rfl, rfl, rfl⟩ := trodAll_nil r4
  obtain rfl : args = #[v0, v1, v2, v3, v4] := by cases args; simp_all
  obtain ⟨rfl, rfl⟩ := trodVars_none hV
  obtain ⟨a0, rfl, rfl, rfl, w0⟩ := open_int Try.underlying3 (hval 0 3 v0 rfl rfl) h0
  obtain ⟨a1, rfl, rfl, rfl⟩ := open_bool Try.underlying4 (hval 1 4 v1 rfl rfl) h1
  obtain ⟨a2, rfl, rfl, rfl⟩ := open_bool Try.underlying4 (hval 2 4 v2 rfl rfl) h2
  obtain ⟨a3, len3, cap3, rfl⟩ := okWide_slice Try.underlying22 (hval 3 22 v3 rfl rfl)
  have k3 := h3
  have lt3 : ∀ x ∈ p3, x.block < W.heap.size := by obtain ⟨m, hm⟩ := k3; exact DataW.trod_lt m _ _ _ hm
  obtain ⟨z3, w3⟩ : ∃ zs, IsRow .u8 W a3 len3 cap3 zs := by
    obtain ⟨fuel, hf⟩ := h3
    rcases open_ints Try.underlying22 Try.underlying5 (by kernel_rfl) hf with ⟨hcs, _⟩ | ⟨x, l, c, zs, hcs, _, hl, hm, hz, _, hcell, hwz⟩
    · simp [Value.cells] at hcs
      obtain ⟨rfl, rfl, rfl⟩ := hcs
      exact ⟨[], .inl ⟨rfl, rfl, rfl, rfl⟩⟩
    · simp [Value.cells] at hcs
      obtain ⟨rfl, rfl, rfl⟩ := hcs
      exact ⟨zs, .inr ⟨_, rfl, hl, hm, by simpa using hz, hcell, hwz⟩⟩
  obtain ⟨a4, rfl, rfl, rfl, w4⟩ := open_int Try.underlying3 (hval 4 3 v4 rfl rfl) h4
  clear hA0 hval0
  refine (walk a0 a1 a2 a3 len3 cap3 z3 a4 W w0 w3 w4).mono fun e W' ⟨he, bel⟩ => ?_
  subst he
  exact ⟨_, rfl, _, _, _, [], _, [], hW', trodAll_mk1 (shut_bool Try.underlying4 _), (trodAll_cons_mk (shut_int Try.underlying3 w0) (trodAll_cons_mk (shut_bool Try.underlying4 _) (trodAll_cons_mk (shut_bool Try.underlying4 _) (trodAll_cons_mk (Below.trod laidOut (by kernel_rfl) (of_decide_eq_true (by kernel_rfl)) k3 bel lt3) (trodAll_cons_mk (shut_int Try.underlying3 w4) trodAll_mk0))))), rfl, bel.frame _, fun h => by cases h⟩

theorem closed : joinedFacts Try.prog 5 Try.f5 Rows.fnNestingPassStringMatchesByteModelSpec Rows.fnNestingPassStringMatchesByteModelRow = true := by
  unfold joinedFacts
  rw [may_enter, lifts_final, made_cut]
  kernel_rfl

theorem over : Rows.fnNestingPassStringMatchesByteModelRow.holds Try.pinned (OpenSpec.ofChange Rows.fnNestingPassStringMatchesByteModelSpec) :=
  OpenClaim.holds_of_wide 5 Try.f5 rfl rfl rfl rfl rfl rfl rfl ⟨rfl, rfl, rfl, rfl, rfl⟩ rfl rfl rfl rfl rfl (by kernel_rfl) Try.func5 closed
    (of_decide_eq_true (by kernel_rfl)) (by unfold Func.isWrapper; first | (rw [if_pos (by decide +kernel)]; kernel_rfl) | (rw [if_neg (by decide +kernel)]; exact ⟨rfl, rfl⟩))
    (fun os started H enc _ => lifted os started H enc)

/-- ████ THE STATEMENT ████ -/
theorem proved : Rows.FnNestingPassStringMatchesByteModelSaid := over
#print axioms proved
end Go.Proofs.Qxb6602442a.fnNestingPassStringMatchesByteModel
