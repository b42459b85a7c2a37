/-
  Contracts: strings.IndexByte (9), utf8.ValidRune (10), keyRuneByTable (5), strings.IndexRune (8) and ContainsRune (7) at the five signs, isKeyRune (6), ZZisKeyRune (4), the law (3).
-/
import Derived.Test.Qxb6602488aRows
import Derived.WalkKit
import Derived.WalkSpells
import Derived.WalkLawsBesides
import Derived.Lib.Bytealg
import Derived.Deep.QuietTactic
import Derived.BigQuiet
import Derived.WalkMore
namespace Go.Proofs.Qxb6602488a
open Go.RowKit

set_option maxHeartbeats 1000000 in
theorem ix_any (s : ByteArray) (c : Int) (w : World) :
    Calls Try.prog 9 #[.string s, .int .u8 c] w fun e w' => e = .returned (.int .i64 (Lib.indexByte s.data.toList c.toNat.toUInt8)) ∧ w' = w := by
  have hrun := Lib.run_indexByteString (P := Try.prog) s c w
  generalize Lib.indexByte s.data.toList c.toNat.toUInt8 = r at hrun ⊢
  go_enter Try.func9, Try.ntmps9
  go_wp2
  rw [run_callFunc_extern Try.func14 (by kernel_rfl) (by kernel_rfl) (by kernel_rfl) (e := Extern.BytealgIndexByte.indexByte) (by kernel_rfl), hrun]
  simp only [Result.andThen]
  rw [Oper.upon_value]
  go_wp2
  go_ret
  exact ⟨rfl, rfl⟩

theorem ret_b {a b : Bool} (h : a = b) : Ending.returned (.bool a) = .returned (.bool b) := by rw [h]

set_option maxHeartbeats 1000000 in
theorem valid_no (r : Int) (w : World) (h : ¬ ((0 ≤ r ∧ r < 55296) ∨ (57343 < r ∧ r ≤ 1114111))) :
    Calls Try.prog 10 #[.int .i32 r] w fun e w' => e = .returned (.bool false) ∧ w' = w := by
  go_enter Try.func10, Try.ntmps10
  go_wp2
  all_goals first | (exfalso; omega) | (go_ret; exact ⟨rfl, rfl⟩)
set_option maxHeartbeats 1000000 in
theorem valid_yes (r : Int) (w : World) (h : (0 ≤ r ∧ r < 55296) ∨ (57343 < r ∧ r ≤ 1114111)) :
    Calls Try.prog 10 #[.int .i32 r] w fun e w' => e = .returned (.bool true) ∧ w' = w := by
  go_enter Try.func10, Try.ntmps10
  go_wp2
  all_goals first | (exfalso; omega) | (go_ret; exact ⟨rfl, rfl⟩)

/-- The key runes, plainly. -/
def keyB (r : Int) : Bool := decide ((97 ≤ r ∧ r ≤ 122) ∨ (65 ≤ r ∧ r ≤ 90) ∨ (48 ≤ r ∧ r ≤ 57) ∨ r = 45 ∨ r = 95 ∨ r = 47 ∨ r = 61 ∨ r = 46)
def punB (r : Int) : Bool := decide (r = 45 ∨ r = 95 ∨ r = 47 ∨ r = 61 ∨ r = 46)

theorem lo_table : ∀ k : Fin 64, (bits BinOp.and IntKind.u64 (2594038200993316864 / 2 ^ k.val) 1 == 1) = keyB (k.val : Int) := by decide +kernel
theorem hi_table : ∀ k : Fin 64, (bits BinOp.and IntKind.u64 (576460745995190270 / 2 ^ k.val) 1 == 1) = keyB ((k.val : Int) + 64) := by decide +kernel
theorem pun_table : ∀ k : Fin 128, decide (0 ≤ Lib.indexByte [45, 95, 47, 61, 46] ((k.val : Int)).toNat.toUInt8) = punB (k.val : Int) := by decide +kernel

set_option maxHeartbeats 1000000 in
theorem table_any (r : Int) (w : World) :
    Calls Try.prog 5 #[.int .i32 r] w fun e w' => e = .returned (.bool (keyB r)) ∧ w' = w := by
  by_cases hr : r < 0 ∨ 127 < r
  · have hk : keyB r = false := by unfold keyB; exact decide_eq_false (by omega)
    rw [hk]
    go_enter Try.func5, Try.ntmps5
    go_wp2
    all_goals first | (exfalso; omega) | (go_ret; exact ⟨rfl, rfl⟩)
  · have h0 : 0 ≤ r := by omega
    have h1 : r ≤ 127 := by omega
    clear hr
    by_cases h : r < 64
    · have ht := lo_table ⟨r.toNat, by omega⟩
      have e : ((r.toNat : Nat) : Int) = r := by omega
      simp only [e] at ht
      have HT : Hid ((bits BinOp.and IntKind.u64 (2594038200993316864 / 2 ^ r.toNat) 1 == 1) = keyB r) := ht
      clear ht e
      go_enter Try.func5, Try.ntmps5
      go_wp2
      go_ret
      exact ⟨ret_b HT.out, rfl⟩
    · have ht := hi_table ⟨(r - 64).toNat, by omega⟩
      have e : (((r - 64).toNat : Nat) : Int) + 64 = r := by omega
      simp only [e] at ht
      have HT : Hid ((bits BinOp.and IntKind.u64 (576460745995190270 / 2 ^ (r - 64).toNat) 1 == 1) = keyB r) := ht
      clear ht e
      go_enter Try.func5, Try.ntmps5
      go_wp2
      go_ret
      exact ⟨ret_b HT.out, rfl⟩

set_option maxHeartbeats 1000000 in
set_option maxRecDepth 1000000 in
theorem rune_ascii (r : Int) (w : World) (h0 : 0 ≤ r) (h1 : r < 128) :
    Calls Try.prog 8 #[.string ⟨#[45, 95, 47, 61, 46]⟩, .int .i32 r] w fun e w' => ∃ x : Int, e = .returned (.int .i64 x) ∧ decide (0 ≤ x) = punB r ∧ w' = w := by
  have ht := pun_table ⟨r.toNat, by omega⟩
  have e : ((r.toNat : Nat) : Int) = r := by omega
  simp only [e] at ht
  have hx := ix_any ⟨#[45, 95, 47, 61, 46]⟩ r w
  have hx' : Calls Try.prog 9 #[.string ⟨#[45, 95, 47, 61, 46]⟩, .int .u8 r] w fun e w' => e = .returned (.int .i64 (Lib.indexByte [45, 95, 47, 61, 46] r.toNat.toUInt8)) ∧ w' = w := hx
  clear hx e
  generalize Lib.indexByte [45, 95, 47, 61, 46] r.toNat.toUInt8 = x at ht hx'
  have HT : Hid (decide (0 ≤ x) = punB r) := ht
  clear ht
  go_enter Try.func8, Try.ntmps8
  go_wp2_with (go_at_call 9; refine hx'.mono ?_; rintro e w' ⟨rfl, hw⟩; have hw2 := hw.symm; subst hw2)
  go_ret
  exact ⟨x, rfl, HT.out, rfl⟩

set_option maxHeartbeats 1000000 in
set_option maxRecDepth 1000000 in
theorem rune_bad (r : Int) (w : World) (h : ¬ ((0 ≤ r ∧ r < 55296) ∨ (57343 < r ∧ r ≤ 1114111))) :
    Calls Try.prog 8 #[.string ⟨#[45, 95, 47, 61, 46]⟩, .int .i32 r] w fun e w' => e = .returned (.int .i64 (-1)) ∧ w' = w := by
  have hv := valid_no r w h
  have h1 : ¬ (0 ≤ r ∧ r < 128) := by omega
  have h2 : (r == 65533) = false := by simp; omega
  clear h
  go_enter Try.func8, Try.ntmps8
  go_wp2_with (go_at_call 10; refine hv.mono ?_; rintro e w' ⟨rfl, hw⟩; have hw2 := hw.symm; subst hw2)
  all_goals (go_ret; exact ⟨rfl, rfl⟩)

theorem grown_iter (w : World) (s : ByteArray) (pos : Nat) : Grown w (w.iter s pos) := by
  refine ⟨World.keptBut_alloc _ _ _, fun a => ?_, by show w.heap.size ≤ (w.heap.push _).size; simp⟩
  by_cases h : a.block = w.heap.size
  · have e1 : (w.iter s pos).heap[a.block]? = some (.stringIter s pos) := by rw [h]; exact World.iter_heap w s pos
    have e2 : w.heap[a.block]? = none := by rw [h]; simp
    simp [World.frozen?, e1, e2]
  · exact World.frozen?_alloc_old _ _ _ h

theorem dec_table : ∀ k : Fin 5, (Utf8.decode ⟨#[45, 95, 47, 61, 46]⟩ k.val).2 = 1 ∧ (Utf8.decode ⟨#[45, 95, 47, 61, 46]⟩ k.val).1 < 128 := by decide +kernel

set_option maxHeartbeats 1000000 in
set_option maxRecDepth 1000000 in
theorem rune_err (w : World) :
    Calls Try.prog 8 #[.string ⟨#[45, 95, 47, 61, 46]⟩, .int .i32 65533] w fun e w' => e = .returned (.int .i64 (-1)) ∧ Grown w w' := by
  go_enter Try.func8, Try.ntmps8
  go_wp2
  go_loopw [5] (fun _ wr => ∃ pos : Nat, pos ≤ 5 ∧ wr = w.iter ⟨#[45, 95, 47, 61, 46]⟩ pos) (fun _ wr => 5 - wr.iterPos w.heap.size)
  case atStart => exact ⟨0, by omega, rfl⟩
  case round =>
    obtain ⟨pos, hp, rfl⟩ := hrel
    by_cases hlt : pos < 5
    · obtain ⟨d1, d2⟩ := dec_table ⟨pos, hlt⟩
      have hnx0 : ∀ ty, (Instr.next (.pointer (some ⟨w.heap.size, 0, none⟩)) true ty).run Try.prog (w.iter ⟨#[45, 95, 47, 61, 46]⟩ pos) = _ := fun ty => run_next_any w _ pos ty hlt
      simp only at d1 d2
      rw [d1] at hnx0
      generalize (Utf8.decode ⟨#[45, 95, 47, 61, 46]⟩ pos).1 = ch at hnx0 d2
      have t : ((ch : Int) == 65533) = false := by simp; omega
      clear d1
      go_wp2
      go_roundw
      case rel => exact ⟨pos + 1, by omega, rfl⟩
      case measure => simp; omega
    · have hnx0 : ∀ ty, (Instr.next (.pointer (some ⟨w.heap.size, 0, none⟩)) true ty).run Try.prog (w.iter ⟨#[45, 95, 47, 61, 46]⟩ pos) = _ := fun ty => run_next_end w _ pos ty (show ¬ pos < 5 from hlt)
      go_wp2
      go_ret
      exact ⟨rfl, grown_iter _ _ _⟩

theorem far_none (β : Int) (h1 : 128 ≤ β) (h2 : β ≤ 255) (l : List UInt8) (hl : ∀ b ∈ l, b.toNat < 128) : Lib.indexByte l β.toNat.toUInt8 = -1 := by
  induction l with
  | nil => rfl
  | cons b l ih =>
    have hb := hl b (by simp)
    have hne : (b == β.toNat.toUInt8) = false := by
      rw [beq_eq_false_iff_ne]
      intro e
      have := congrArg UInt8.toNat e
      simp only [Nat.toUInt8, UInt8.toNat_ofNat'] at this
      omega
    rw [Lib.indexByte, hne, ih (fun x hx => hl x (by simp [hx]))]
    rfl

set_option maxHeartbeats 1000000 in
set_option maxRecDepth 1000000 in
theorem rune_far2 (r : Int) (w : World) (rs : ByteArray) (he : Utf8.encode r = rs) (β : Int) (hb1 : 128 ≤ β) (hb2 : β ≤ 255) (hsz : rs.size = 2) (hix : ∀ w, (Instr.index 9 (.string rs) (.int .i64 1)).run Try.prog w = .ok (.int .u8 β) w)
    (h : 128 ≤ r) (hv : (0 ≤ r ∧ r < 55296) ∨ (57343 < r ∧ r ≤ 1114111)) (hne : (r == 65533) = false) :
    Calls Try.prog 8 #[.string ⟨#[45, 95, 47, 61, 46]⟩, .int .i32 r] w fun e w' => e = .returned (.int .i64 (-1)) ∧ Grown w w' := by
  have hva := valid_yes r w hv
  have hi1 : ∀ w, (Instr.index 9 (.string ⟨#[45, 95, 47, 61, 46]⟩) (.int .i64 1)).run Try.prog w = .ok (.int .u8 95) w := fun _ => by kernel_rfl
  have hsl : ∀ w, (Instr.slice 9 (.string ⟨#[45, 95, 47, 61, 46]⟩) (some (.int .i64 2)) none none).run Try.prog w = .ok (.string ⟨#[47, 61, 46]⟩) w := fun _ => by kernel_rfl
  have hx := fun w => ix_any ⟨#[47, 61, 46]⟩ β w
  have hz : Lib.indexByte (ByteArray.mk #[47, 61, 46]).data.toList β.toNat.toUInt8 = -1 := far_none β hb1 hb2 _ (by decide)
  rw [hz] at hx
  have HX : Hid (∀ w, Calls Try.prog 9 #[.string ⟨#[47, 61, 46]⟩, .int .u8 β] w fun e w' => e = .returned (.int .i64 (-1)) ∧ w' = w) := hx
  have t : ((95 : Int) != β) = true := by simp; omega
  have hwr : IntKind.i64.wrap 2 = 2 := by decide
  have h128 : ¬ r < 128 := by omega
  clear hv hz hx
  go_enter Try.func8, Try.ntmps8
  go_wp2_with (go_at_call 10; refine hva.mono ?_; rintro e w' ⟨rfl, hw⟩; have hw2 := hw.symm; subst hw2)
  go_step3
  go_wp2
  go_loop [9, 10] (fun x y => x = .int .i64 1 ∧ y = .int .i64 0) (fun _ _ => 0)
  case atStart => exact ⟨rfl, rfl⟩
  case round =>
    obtain ⟨rfl, rfl⟩ := hrel
    go_wp2
    go_step3
    go_wp2
    go_quiet (fail)
    have HG : Hid (Grown w (w.drewN nq)) := Grown.refl w
    generalize w.drewN nq = wz at HG ⊢
    go_wp2
    go_quiet ((go_at_call 9; exact Calls.quiet_of_same (HX.out _)))
    go_wp2
    rw [Exit.noGoto_ret]
    go_wp2
    rw [Exit.noGoto_ret]
    go_ret
    exact ⟨rfl, HG.out⟩

set_option maxHeartbeats 1000000 in
set_option maxRecDepth 1000000 in
theorem rune_far3 (r : Int) (w : World) (rs : ByteArray) (he : Utf8.encode r = rs) (β : Int) (hb1 : 128 ≤ β) (hb2 : β ≤ 255) (hsz : rs.size = 3) (hix : ∀ w, (Instr.index 9 (.string rs) (.int .i64 2)).run Try.prog w = .ok (.int .u8 β) w)
    (h : 128 ≤ r) (hv : (0 ≤ r ∧ r < 55296) ∨ (57343 < r ∧ r ≤ 1114111)) (hne : (r == 65533) = false) :
    Calls Try.prog 8 #[.string ⟨#[45, 95, 47, 61, 46]⟩, .int .i32 r] w fun e w' => e = .returned (.int .i64 (-1)) ∧ Grown w w' := by
  have hva := valid_yes r w hv
  have hi1 : ∀ w, (Instr.index 9 (.string ⟨#[45, 95, 47, 61, 46]⟩) (.int .i64 2)).run Try.prog w = .ok (.int .u8 47) w := fun _ => by kernel_rfl
  have hsl : ∀ w, (Instr.slice 9 (.string ⟨#[45, 95, 47, 61, 46]⟩) (some (.int .i64 3)) none none).run Try.prog w = .ok (.string ⟨#[61, 46]⟩) w := fun _ => by kernel_rfl
  have hx := fun w => ix_any ⟨#[61, 46]⟩ β w
  have hz : Lib.indexByte (ByteArray.mk #[61, 46]).data.toList β.toNat.toUInt8 = -1 := far_none β hb1 hb2 _ (by decide)
  rw [hz] at hx
  have HX : Hid (∀ w, Calls Try.prog 9 #[.string ⟨#[61, 46]⟩, .int .u8 β] w fun e w' => e = .returned (.int .i64 (-1)) ∧ w' = w) := hx
  have t : ((47 : Int) != β) = true := by simp; omega
  have hwr : IntKind.i64.wrap 3 = 3 := by decide
  have h128 : ¬ r < 128 := by omega
  clear hv hz hx
  go_enter Try.func8, Try.ntmps8
  go_wp2_with (go_at_call 10; refine hva.mono ?_; rintro e w' ⟨rfl, hw⟩; have hw2 := hw.symm; subst hw2)
  go_step3
  go_wp2
  go_loop [9, 10] (fun x y => x = .int .i64 2 ∧ y = .int .i64 0) (fun _ _ => 0)
  case atStart => exact ⟨rfl, rfl⟩
  case round =>
    obtain ⟨rfl, rfl⟩ := hrel
    go_wp2
    go_step3
    go_wp2
    go_quiet (fail)
    have HG : Hid (Grown w (w.drewN nq)) := Grown.refl w
    generalize w.drewN nq = wz at HG ⊢
    go_wp2
    go_quiet ((go_at_call 9; exact Calls.quiet_of_same (HX.out _)))
    go_wp2
    rw [Exit.noGoto_ret]
    go_wp2
    rw [Exit.noGoto_ret]
    go_ret
    exact ⟨rfl, HG.out⟩

set_option maxHeartbeats 1000000 in
set_option maxRecDepth 1000000 in
theorem rune_far4 (r : Int) (w : World) (rs : ByteArray) (he : Utf8.encode r = rs) (β : Int) (hb1 : 128 ≤ β) (hb2 : β ≤ 255) (hsz : rs.size = 4) (hix : ∀ w, (Instr.index 9 (.string rs) (.int .i64 3)).run Try.prog w = .ok (.int .u8 β) w)
    (h : 128 ≤ r) (hv : (0 ≤ r ∧ r < 55296) ∨ (57343 < r ∧ r ≤ 1114111)) (hne : (r == 65533) = false) :
    Calls Try.prog 8 #[.string ⟨#[45, 95, 47, 61, 46]⟩, .int .i32 r] w fun e w' => e = .returned (.int .i64 (-1)) ∧ Grown w w' := by
  have hva := valid_yes r w hv
  have hi1 : ∀ w, (Instr.index 9 (.string ⟨#[45, 95, 47, 61, 46]⟩) (.int .i64 3)).run Try.prog w = .ok (.int .u8 61) w := fun _ => by kernel_rfl
  have hsl : ∀ w, (Instr.slice 9 (.string ⟨#[45, 95, 47, 61, 46]⟩) (some (.int .i64 4)) none none).run Try.prog w = .ok (.string ⟨#[46]⟩) w := fun _ => by kernel_rfl
  have hx := fun w => ix_any ⟨#[46]⟩ β w
  have hz : Lib.indexByte (ByteArray.mk #[46]).data.toList β.toNat.toUInt8 = -1 := far_none β hb1 hb2 _ (by decide)
  rw [hz] at hx
  have HX : Hid (∀ w, Calls Try.prog 9 #[.string ⟨#[46]⟩, .int .u8 β] w fun e w' => e = .returned (.int .i64 (-1)) ∧ w' = w) := hx
  have t : ((61 : Int) != β) = true := by simp; omega
  have hwr : IntKind.i64.wrap 4 = 4 := by decide
  have h128 : ¬ r < 128 := by omega
  clear hv hz hx
  go_enter Try.func8, Try.ntmps8
  go_wp2_with (go_at_call 10; refine hva.mono ?_; rintro e w' ⟨rfl, hw⟩; have hw2 := hw.symm; subst hw2)
  go_step3
  go_wp2
  go_loop [9, 10] (fun x y => x = .int .i64 3 ∧ y = .int .i64 0) (fun _ _ => 0)
  case atStart => exact ⟨rfl, rfl⟩
  case round =>
    obtain ⟨rfl, rfl⟩ := hrel
    go_wp2
    go_step3
    go_wp2
    go_quiet (fail)
    have HG : Hid (Grown w (w.drewN nq)) := Grown.refl w
    generalize w.drewN nq = wz at HG ⊢
    go_wp2
    go_quiet ((go_at_call 9; exact Calls.quiet_of_same (HX.out _)))
    go_wp2
    rw [Exit.noGoto_ret]
    go_wp2
    rw [Exit.noGoto_ret]
    go_ret
    exact ⟨rfl, HG.out⟩


set_option maxRecDepth 100000 in
theorem rune_far (r : Int) (w : World) (h : 128 ≤ r) (hv : (0 ≤ r ∧ r < 55296) ∨ (57343 < r ∧ r ≤ 1114111)) (hne : r ≠ 65533) :
    Calls Try.prog 8 #[.string ⟨#[45, 95, 47, 61, 46]⟩, .int .i32 r] w fun e w' => e = .returned (.int .i64 (-1)) ∧ Grown w w' := by
  have hva : Utf8.valid r = true := by
    unfold Utf8.valid
    simp only [Bool.or_eq_true, Bool.and_eq_true, decide_eq_true_eq]
    omega
  obtain ⟨f1, f2, f3⟩ := encode_facts r hva h
  have hne' : (r == 65533) = false := by simpa using hne
  obtain ⟨rs, he⟩ : ∃ rs, Utf8.encode r = rs := ⟨_, rfl⟩
  rw [he] at f1 f2 f3
  have hix : ∀ (k : Nat) (hk : k < rs.size), ∀ w, (Instr.index 9 (.string rs) (.int .i64 (k : Int))).run Try.prog w = .ok (.int .u8 (rs[k].toNat : Int)) w := by
    intro k hk w
    rw [run_index_string w 9 rs .i64 (k : Int) Try.underlying9]
    simp [hk]
  have hb := f3 (by omega)
  have hle : ∀ k (hk : k < rs.size), (rs[k].toNat : Int) ≤ 255 := fun k hk => by have := rs[k].toNat_lt; omega
  by_cases e2 : rs.size = 2
  · have hb2 : 128 ≤ (rs[1]'(by omega)).toNat := by simpa [e2] using hb
    exact rune_far2 r w rs he (((rs[1]'(by omega)).toNat : Nat) : Int) (by omega) (hle 1 (by omega)) e2 (hix 1 (by omega)) h hv hne'
  · by_cases e3 : rs.size = 3
    · have hb2 : 128 ≤ (rs[2]'(by omega)).toNat := by simpa [e3] using hb
      exact rune_far3 r w rs he (((rs[2]'(by omega)).toNat : Nat) : Int) (by omega) (hle 2 (by omega)) e3 (hix 2 (by omega)) h hv hne'
    · have e4 : rs.size = 4 := by omega
      have hb2 : 128 ≤ (rs[3]'(by omega)).toNat := by simpa [e4] using hb
      exact rune_far4 r w rs he (((rs[3]'(by omega)).toNat : Nat) : Int) (by omega) (hle 3 (by omega)) e4 (hix 3 (by omega)) h hv hne'

theorem rune_all (r : Int) (w : World) :
    Calls Try.prog 8 #[.string ⟨#[45, 95, 47, 61, 46]⟩, .int .i32 r] w fun e w' => ∃ x : Int, e = .returned (.int .i64 x) ∧ Hid (decide (0 ≤ x) = punB r) ∧ Grown w w' := by
  by_cases h1 : 0 ≤ r ∧ r < 128
  · exact (rune_ascii r w h1.1 h1.2).mono fun e w' ⟨x, a, b, c⟩ => ⟨x, a, b, by rw [c]; exact Grown.refl w⟩
  · have hp : Hid (decide (0 ≤ (-1 : Int)) = punB r) := by
      have : punB r = false := by unfold punB; exact decide_eq_false (by omega)
      rw [this]; exact rfl
    by_cases h2 : r = 65533
    · subst h2
      exact (rune_err w).mono fun e w' ⟨a, b⟩ => ⟨-1, a, hp, b⟩
    · by_cases h3 : (0 ≤ r ∧ r < 55296) ∨ (57343 < r ∧ r ≤ 1114111)
      · exact (rune_far r w (by omega) h3 h2).mono fun e w' ⟨a, b⟩ => ⟨-1, a, hp, b⟩
      · exact (rune_bad r w h3).mono fun e w' ⟨a, b⟩ => ⟨-1, a, hp, by rw [b]; exact Grown.refl w⟩

set_option maxHeartbeats 1000000 in
theorem contains_any (r : Int) (w : World) :
    Calls Try.prog 7 #[.string ⟨#[45, 95, 47, 61, 46]⟩, .int .i32 r] w fun e w' => e = .returned (.bool (punB r)) ∧ Grown w w' := by
  have h := rune_all r w
  go_enter Try.func7, Try.ntmps7
  go_wp2_with (go_at_call 8; refine h.mono ?_; rintro e w' ⟨x, rfl, HX, hG⟩)
  go_ret
  exact ⟨ret_b HX.out, hG⟩

set_option maxHeartbeats 1000000 in
theorem isKey_any (r : Int) (w : World) :
    Calls Try.prog 6 #[.int .i32 r] w fun e w' => e = .returned (.bool (keyB r)) ∧ Grown w w' := by
  have h := contains_any r w
  by_cases hk : (97 ≤ r ∧ r ≤ 122) ∨ (65 ≤ r ∧ r ≤ 90) ∨ (48 ≤ r ∧ r ≤ 57)
  · have hb : keyB r = true := by unfold keyB; exact decide_eq_true (by omega)
    rw [hb]
    go_enter Try.func6, Try.ntmps6
    go_wp2_with (go_at_call 7; fail)
    all_goals first | (exfalso; omega) | (go_ret; exact ⟨rfl, Grown.refl w⟩)
  · have hb : keyB r = punB r := by
      unfold keyB punB
      rw [Bool.eq_iff_iff, decide_eq_true_eq, decide_eq_true_eq]; omega
    rw [hb]
    clear hb
    generalize punB r = pb at h ⊢
    go_enter Try.func6, Try.ntmps6
    go_wp2_with (go_at_call 7; refine h.mono ?_; rintro e w' ⟨rfl, hG⟩)
    all_goals first | (exfalso; omega) | (go_ret; exact ⟨rfl, hG⟩)

set_option maxHeartbeats 1000000 in
theorem zzKey_any (r : Int) (w : World) :
    Calls Try.prog 4 #[.int .i32 r] w fun e w' => e = .returned (.bool (keyB r)) ∧ Grown w w' := by
  have h := isKey_any r w
  generalize keyB r = kb at h ⊢
  go_enter Try.func4, Try.ntmps4
  go_wp2_with (go_at_call 6; refine h.mono ?_; rintro e w' ⟨rfl, hG⟩)
  go_ret
  exact ⟨rfl, hG⟩

set_option maxHeartbeats 1000000 in
theorem law_any (r : Int) (w : World) :
    Calls Try.prog 3 #[.int .i32 r] w fun e w' => e = .returned (.bool true) ∧ Grown w w' := by
  have h := zzKey_any r w
  have h2 := fun w' => table_any r w'
  generalize keyB r = kb at h h2
  have H2 : Hid (∀ w', Calls Try.prog 5 #[.int .i32 r] w' fun e w'' => e = .returned (.bool kb) ∧ w'' = w') := h2
  clear h2
  go_enter Try.func3, Try.ntmps3
  go_wp2_with fail
  refine h.mono ?_
  rintro e w1 ⟨rfl, hG⟩
  have HG : Hid (Grown w w1) := hG
  have h3 := H2.out w1
  clear hG h H2
  go_wp2_with (go_at_call 5; refine h3.mono ?_; rintro e w' ⟨rfl, hw⟩; have hw2 := hw.symm; subst hw2)
  go_ret
  exact ⟨rfl, HG.out⟩

end Go.Proofs.Qxb6602488a
