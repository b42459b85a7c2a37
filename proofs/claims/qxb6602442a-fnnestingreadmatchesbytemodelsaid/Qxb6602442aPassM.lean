/-
  Contracts: zzB1StringByte (19), zzB1PassModel (14), ZZNestingPassString (13), zzB1CloneBytes (8).
-/
import Derived.Test.Qxb6602442aPassS
namespace Go.Proofs.Qxb6602442a
open Go.RowKit
open Pl

set_option maxHeartbeats 1000000 in
theorem strByte_any (esc : Bool) (x : Int) (w : World) :
    Calls Try.prog 19 #[.bool esc, .int .u8 x] w fun e w' => e = .returned (.tuple #[.bool (esc || !(x == 34) || x == 92), .bool (!esc && x == 92)]) ∧ w' = w := by
  cases esc with
  | true =>
    go_enter Try.func19, Try.ntmps19
    go_wp2
    go_ret2
    exact ⟨rfl, rfl⟩
  | false =>
    by_cases e1 : x = 92
    · subst e1
      go_enter Try.func19, Try.ntmps19
      go_wp2
      go_ret2
      exact ⟨rfl, rfl⟩
    · have t1 := beq_f e1
      by_cases e2 : x = 34
      · subst e2
        go_enter Try.func19, Try.ntmps19
        go_wp2
        go_ret2
        exact ⟨rfl, rfl⟩
      · have t2 := beq_f e2
        rw [t1, t2]
        clear e1 e2
        go_enter Try.func19, Try.ntmps19
        go_wp2
        go_ret2
        exact ⟨rfl, rfl⟩

set_option maxHeartbeats 1000000 in
theorem passM_any (b n c : Nat) (d : Nat → Int) (i : Nat) (inS esc : Bool) (w : World) (hC : Cells w b 0 n d) (hn : n ≤ 1048576) (hi : i < n) :
    Calls Try.prog 14 #[.bool inS, .bool esc, .slice (some ⟨b, 0, none⟩) n c, .int .i64 (i : Int)] w fun e w' => e = .returned (.tuple #[.int .i64 ((pass d n esc i).1 : Int), .bool (openAt n (pass d n esc i).1 inS), .bool (pass d n esc i).2]) ∧ w' = w := by
  have HC : Hid (Cells w b 0 n d) := hC
  clear hC
  go_enter Try.func14, Try.ntmps14
  go_wp2
  go_loop [1, 11] (fun x y => ∃ (k : Nat) (es : Bool), k ≤ n ∧ Hid (pass d n esc i = pass d n es k) ∧ x = .bool es ∧ y = .int .i64 (k : Int)) (fun _ y => n - (intOf y).toNat)
  case atStart => exact ⟨i, esc, by omega, rfl, rfl, rfl⟩
  case round =>
    obtain ⟨k, es, hk, HE, rfl, rfl⟩ := hrel
    by_cases hlt : k < n
    · have hcell := HC.out k hlt
      rw [Nat.zero_add] at hcell
      have hsb := strByte_any es (d k) w
      cases es with
      | true =>
        have HE2 : Hid (pass d n esc i = pass d n false (k + 1)) := by rw [HE.out, pass_esc hlt]; exact rfl
        simp only [Bool.true_or, Bool.not_true, Bool.false_and] at hsb
        clear HE
        go_wp2_with (go_at_call 19; refine hsb.mono ?_; rintro e w' ⟨rfl, hw⟩; have hw2 := hw.symm; subst hw2)
        go_round
        case rel => exact ⟨k + 1, false, by omega, HE2, rfl, by go_num⟩
        case measure => simp [intOf]; omega
      | false =>
        by_cases e1 : d k = 92
        · have HE2 : Hid (pass d n esc i = pass d n true (k + 1)) := by rw [HE.out, pass_bs hlt e1]; exact rfl
          rw [beq_t e1] at hsb
          simp only [Bool.or_true, Bool.not_false, Bool.and_true] at hsb
          clear HE e1
          go_wp2_with (go_at_call 19; refine hsb.mono ?_; rintro e w' ⟨rfl, hw⟩; have hw2 := hw.symm; subst hw2)
          go_round
          case rel => exact ⟨k + 1, true, by omega, HE2, rfl, by go_num⟩
          case measure => simp [intOf]; omega
        · by_cases e2 : d k = 34
          · have HE2 : Hid (pass d n esc i = (k, false)) := by rw [HE.out, pass_q hlt e2]; exact rfl
            rw [beq_f e1, beq_t e2] at hsb
            simp only [Bool.or_false, Bool.not_true, Bool.and_false] at hsb
            clear HE e1 e2
            go_wp2_with (go_at_call 19; refine hsb.mono ?_; rintro e w' ⟨rfl, hw⟩; have hw2 := hw.symm; subst hw2)
            go_ret3
            have e1 : openAt n k inS = false := by unfold openAt; rw [if_pos hlt]
            exact ⟨by rw [HE2.out]; show _ = Ending.returned (.tuple #[.int .i64 (k : Int), .bool (openAt n k inS), .bool false]); rw [e1]; rfl, rfl⟩
          · have HE2 : Hid (pass d n esc i = pass d n false (k + 1)) := by rw [HE.out, pass_o hlt e1 e2]; exact rfl
            rw [beq_f e1, beq_f e2] at hsb
            simp only [Bool.or_false, Bool.not_false, Bool.false_or, Bool.and_false] at hsb
            clear HE e1 e2
            go_wp2_with (go_at_call 19; refine hsb.mono ?_; rintro e w' ⟨rfl, hw⟩; have hw2 := hw.symm; subst hw2)
            go_round
            case rel => exact ⟨k + 1, false, by omega, HE2, rfl, by go_num⟩
            case measure => simp [intOf]; omega
    · have HE2 : Hid (pass d n esc i = (n, es)) := by rw [HE.out, pass_out (by omega)]; exact rfl
      clear HE
      go_wp2
      go_ret3
      have e1 : openAt n n inS = inS := by unfold openAt; rw [if_neg (Nat.lt_irrefl _)]
      exact ⟨by rw [HE2.out]; show _ = Ending.returned (.tuple #[.int .i64 (n : Int), .bool (openAt n n inS), .bool es]); rw [e1]; rfl, rfl⟩

set_option maxHeartbeats 1000000 in
theorem zzPass_any (b n c : Nat) (d : Nat → Int) (i : Nat) (dep : Int) (inS esc : Bool) (w : World) (hC : Cells w b 0 n d) (hd : ∀ i, i < n → 0 ≤ d i ∧ d i ≤ 255)
    (hn : n ≤ 1048576) (hnc : n ≤ c) (hcm : c ≤ maxLen) (hi : i < n) :
    Calls Try.prog 13 #[.int .i64 dep, .bool inS, .bool esc, .slice (some ⟨b, 0, none⟩) n c, .int .i64 (i : Int)] w fun e w' => e = .returned (.tuple #[.int .i64 ((pass d n esc i).1 : Int), .int .i64 dep, .bool (openAt n (pass d n esc i).1 inS), .bool (pass d n esc i).2]) ∧ Below w.heap.size w w' := by
  have hlt : 0 < n → b < w.heap.size := fun h => World.block_lt_of_cell? w _ (hC 0 h)
  have hN : N3 (w.alloc (Obj.cells #[Value.int IntKind.i64 dep, Value.bool inS, Value.bool esc] 41)) w.heap.size dep inS esc :=
    ⟨by simp, by simp, by simp, fun i => by unfold World.frozen?; rw [heap_alloc_new]; simp⟩
  have hB : Below w.heap.size w (w.alloc (Obj.cells #[Value.int IntKind.i64 dep, Value.bool inS, Value.bool esc] 41)) := (Below.refl _ _).alloc (Nat.le_refl _) _
  have hcall := passS_any w.heap.size b n c d i dep inS esc _ hN (hC.below hB (hlt (by omega))) hd hn hnc hcm (by have := hlt (by omega); omega) hi
  have HB : Hid (Below w.heap.size w (w.alloc (Obj.cells #[Value.int IntKind.i64 dep, Value.bool inS, Value.bool esc] 41))) := hB
  clear hN hB hC hd hlt
  go_enter Try.func13, Try.ntmps13
  go_wp2_with fail
  refine hcall.mono ?_
  rintro e w' ⟨r, es, HX, rfl, hO, hN⟩
  have c0 := hN.c0
  have c1 := hN.c1
  have c2 := hN.c2
  have HBz : Hid (Below w.heap.size w w') := hO.below HB.out (by simp) (Nat.le_refl _)
  clear hcall HB hO hN
  go_wp2
  go_quiet (fail)
  go_wp2
  refine bodyPost_ret (v := .tuple #[.int .i64 (r : Int), .int .i64 dep, .bool (openAt n r inS), .bool es]) (by simp [results, Try.results13, go_sem]) rfl ⟨?_, below_drewN HBz.out _⟩
  rw [HX.out]

set_option maxHeartbeats 1000000 in
theorem clone_nil (c : Nat) (w : World) :
    Calls Try.prog 8 #[.slice none 0 c] w fun e w' => e = .returned (.slice none 0 0) ∧ w' = w := by
  have hne := Lib.run_eql_slice_nil (P := Try.prog) w 22 5 none 0 c 0 0 Try.underlying22
  go_enter Try.func8, Try.ntmps8
  go_wp2
  go_ret
  exact ⟨rfl, rfl⟩

/-- What 'make' leaves: a new row of n bytes that may be written. -/
theorem made_row (n : Nat) (w : World) (hn : n ≤ 1048576) :
    ∃ w1, (Instr.makeSlice 22 (.int .i64 (n : Int)) (.int .i64 (n : Int))).run Try.prog w = .ok (.slice (some ⟨w.heap.size, 0, none⟩) n n) w1 ∧ Below w.heap.size w w1 ∧ w.heap.size < w1.heap.size ∧
      (∀ i, i < n → (w1.cell? ⟨w.heap.size, i, none⟩).isSome = true) ∧ (∀ i, w1.frozen? ⟨w.heap.size, i, none⟩ = false) := by
  obtain ⟨i, hi, hz0, hz1, hz2⟩ := info_parts Try.info5
  obtain ⟨w1, hrun, hown, hgrow⟩ := run_make_full (P := Try.prog) w w.heap.size 22 5 i (.int .u8 0) 1 Try.underlying22 hi hz0 hz1 .i64 .i64 n (by rw [hz2]; omega) (by unfold maxLen; omega) (Nat.le_refl _)
  have hb1 : Below w.heap.size w w1 := (Below.refl _ _).grown hgrow (Nat.le_refl _) (fun k h => by cases h)
  obtain ⟨_, hown⟩ := hown
  rcases hown with ⟨h, _⟩ | ⟨g, cap', cur, hv, hg1, hheap, _, _, hsz, _⟩
  · simp at h
  · simp only [Value.slice.injEq, Option.some.injEq, Addr.mk.injEq, and_true, true_and] at hv
    obtain ⟨rfl, rfl⟩ := hv
    have hsz' : cur.size = n := by omega
    refine ⟨w1, hrun, hb1, (Array.getElem?_eq_some_iff.1 hheap).1, fun i hi => ?_, fun i => by simp [World.frozen?, hheap]⟩
    have : i < cur.size := by omega
    simp [World.cell?, hheap, this]

set_option maxHeartbeats 1000000 in
theorem clone_some (x : Addr) (n c : Nat) (zs : List Int) (w : World) (hn : n ≤ 1048576) (hc : ∀ i, i < n → w.cell? (x.add i) = some (.int .u8 (zs.getD i 0))) :
    Calls Try.prog 8 #[.slice (some x) n c] w fun e w' => e = .returned (.slice (some ⟨w.heap.size, 0, none⟩) n n) ∧ Below w.heap.size w w' ∧ w.heap.size < w'.heap.size ∧ Cells w' w.heap.size 0 n (fun i => zs.getD i 0) := by
  obtain ⟨d, hdd⟩ : ∃ d : Nat → Int, d = fun i => zs.getD i 0 := ⟨_, rfl⟩
  rw [← hdd]
  have hc' : ∀ i, i < n → w.cell? (x.add i) = some (.int .u8 (d i)) := by rw [hdd]; exact hc
  clear hc hdd
  have hne := Lib.run_eql_slice_nil (P := Try.prog) w 22 5 (some x) n c 0 0 Try.underlying22
  obtain ⟨w1, hmk, hb1, hlt, hsome, hfz⟩ := made_row n w hn
  obtain ⟨bx, ox, sp⟩ := x
  have HX : Hid (0 < n → sp = none) := fun h => by have := World.cell?_spot (hc' 0 h); simpa [Addr.add] using this
  have HS : Hid (∀ i, i < n → w.cell? ((⟨bx, ox, sp⟩ : Addr).add i) = some (.int .u8 (d i))) := hc'
  have HB1 : Hid (Below w.heap.size w w1) := hb1
  have HLT : Hid (w.heap.size < w1.heap.size) := hlt
  have HSm : Hid (∀ i, i < n → (w1.cell? ⟨w.heap.size, i, none⟩).isSome = true) := hsome
  have HF : Hid (∀ i, w1.frozen? ⟨w.heap.size, i, none⟩ = false) := hfz
  clear hb1 hlt hsome hfz hc'
  go_enter Try.func8, Try.ntmps8
  go_wp2
  clear hne hmk
  go_loopw [4] (fun y wr => ∃ k : Nat, k ≤ n ∧ Hid (Only w.heap.size w1 wr) ∧ Hid (∀ i, i < k → wr.cell? ⟨w.heap.size, i, none⟩ = some (.int .u8 (d i))) ∧ Hid (∀ i, i < n → (wr.cell? ⟨w.heap.size, i, none⟩).isSome = true) ∧ Hid (∀ i, wr.frozen? ⟨w.heap.size, i, none⟩ = false) ∧ y = .int .i64 (k : Int)) (fun y _ => n - (intOf y).toNat)
  case atStart => exact ⟨0, Nat.zero_le _, Only.refl _ _, (fun i hi => absurd hi (Nat.not_lt_zero _)), HSm, HF, rfl⟩
  case round =>
    obtain ⟨k, hk, HO, HD, HS2, HF2, rfl⟩ := hrel
    by_cases hlt : k < n
    · obtain rfl := HX.out (by omega)
      have h1 := HS.out k hlt
      have ha : (⟨bx, ox, none⟩ : Addr).add k = ⟨bx, ox + k, none⟩ := by unfold Addr.add; split <;> simp_all
      rw [ha] at h1
      have hblt : bx < w.heap.size := World.block_lt_of_cell? w _ h1
      have hsrc : wr.cell? ⟨bx, ox + k, none⟩ = some (.int .u8 (d k)) := by
        rw [← h1]
        have e1 : wr.heap[bx]? = w1.heap[bx]? := HO.out.block bx (by have := HLT.out; omega) (by simp; omega)
        have e2 : w1.heap[bx]? = w.heap[bx]? := HB1.out.block bx hblt
        exact World.cell?_of_block (e1.trans e2)
      obtain ⟨old, hold⟩ := Option.isSome_iff_exists.1 (HS2.out k hlt)
      have hfr := HF2.out k
      clear h1 ha hblt
      go_wp2
      go_roundw
      case rel =>
        refine ⟨k + 1, by omega, HO.out.set _, fun i hi => ?_, fun i hi => ?_, fun i => ?_, by go_num⟩
        · by_cases e : i = k
          · subst e; exact World.cell?_setCell_same _ _ _ hold
          · rw [World.cell?_setCell_other _ _ _ _ (by intro hh; exact e (by simpa using hh.symm))]; exact HD.out i (by omega)
        · by_cases e : i = k
          · subst e; rw [World.cell?_setCell_same _ _ _ hold]; rfl
          · rw [World.cell?_setCell_other _ _ _ _ (by intro hh; exact e (by simpa using hh.symm))]; exact HS2.out i hi
        · rw [World.frozen?_setCell]; exact HF2.out i
      case measure => simp [intOf]; omega
    · go_wp2
      go_ret
      refine ⟨rfl, HO.out.below HB1.out (by have := HLT.out; omega) (Nat.le_refl _), Nat.lt_of_lt_of_le HLT.out HO.out.size, fun i hi => ?_⟩
      rw [Nat.zero_add]; exact HD.out i (by omega)
end Go.Proofs.Qxb6602442a
